import JvmDerived
import JvmDerived.Pilot.@@N@@Statement
import JvmDerived.Pilot.@@N@@Code
set_option linter.unusedVariables false
set_option linter.unusedSimpArgs false
namespace Jvm.Pilot.@@N@@
open Jvm Jvm.ClassFile Sem Op Lib Jvm.Free Jvm.Stand Jvm.LawKit Jvm.RoadKit Bundle Jvm.Pilot.@@N@@.Jvm.D
theorem own_sta {s : State} {args : Array Value} {C n d K : String} (hx : (Jvm.Cond.exactly (Term.static C n d) K).value args s none s [] = some true) (wi : (Jvm.Cond.initialized C).before args s = true) (wl : (Jvm.Cond.laysStatic C n d).before args s = true) :
    ∃ w : Addr, (Term.static C n d).eval args s none [] s = some (.ref w) ∧ Sta s s.heap C n d (.ref w) ∧ Exa s s.heap w K := by
  obtain ⟨w, ew⟩ := exa_v hx
  exact ⟨w, ew, Sta.start ew (Or.inr ⟨wi, wl⟩), Exa.start ew hx⟩
theorem own_fld {s : State} {args : Array Value} {t : Term} {w : Addr} {C n d : String} {k : Int32} (ev : t.eval args s none [] s = some (.ref w)) (hx : (Jvm.Cond.eq (Term.field t C n d) (Term.int k)).value args s none s [] = some true) : Fld s s.heap w C n d (.int k) := by
  have e1 := fld_at (C := C) (n := n) (dd := d) ev
  refine Fld.start ?_
  cases hv : s.fieldOf? w C n d with
  | none => rw [hv] at e1; simp [Cond.value, e1] at hx
  | some v =>
    rw [hv] at e1
    have e2 : (Term.int k).eval args s none [] s = some (.int k) := Term.int_eval k
    cases v <;> simp [Cond.value, e1, e2] at hx ⊢
    exact hx
theorem own_fldR {s : State} {args : Array Value} {t u : Term} {w z : Addr} {C n d : String} (ev : t.eval args s none [] s = some (.ref w)) (eu : u.eval args s none [] s = some (.ref z)) (hx : (Jvm.Cond.eq (Term.field t C n d) u).value args s none s [] = some true) : Fld s s.heap w C n d (.ref z) := by
  have e1 := fld_at (C := C) (n := n) (dd := d) ev
  refine Fld.start ?_
  cases hv : s.fieldOf? w C n d with
  | none => rw [hv] at e1; simp [Cond.value, e1] at hx
  | some v =>
    rw [hv] at e1
    cases v <;> simp [Cond.value, e1, eu] at hx ⊢
    exact hx
theorem own_nsR {Z : State} {a0 : Array Value} {O K : String} {n : Nat} (w : (Jvm.Cond.noSuperclass O).before a0 Z = true) (wi : (Jvm.Cond.instantiable K n).before a0 Z = true) (hn : O ≠ K) : NS Z O K := by
  obtain ⟨c, k, h1, h2, h3, -⟩ := Cond.noSuperclass_spec w
  obtain ⟨t, kt, g1, -⟩ := Cond.instantiable_spec wi
  exact ⟨c, t, h1, g1, fun fuel => by cases fuel <;> simp [Vm.isSubclassAux, ids_ne h1 g1 hn, h2, h3]⟩
theorem own_nsN {Z : State} {a0 : Array Value} {C S K : String} {n : Nat} (w : (Jvm.Cond.superclass C S).before a0 Z = true) (wi : (Jvm.Cond.instantiable K n).before a0 Z = true) (nn : NS Z C K) (hn : C ≠ K) : ∃ c t, Z.vm.findClass C = some c ∧ Z.vm.findClass K = some t ∧ Z.vm.assignable c t = false := by
  obtain ⟨c, t, h0, g0, n3⟩ := nn
  obtain ⟨_, k, _, -, h2, -, -, h5, -⟩ := Cond.superclass_spec h0 w
  obtain ⟨t', kt, g1, g2, g3, g4, -⟩ := Cond.instantiable_spec wi
  cases g0.symm.trans g1
  have g5 : kt.isInterface = false := (Bool.or_eq_false_iff.mp g4).1
  exact ⟨c, t, h0, g0, by show Z.vm.assignableAux (255 + 1) c t = false; simp [Vm.assignableAux, ids_ne h0 g0 hn, h2, g2, h5, g3, g5, Vm.isSubclass, n3]⟩
theorem own_elem {s : State} {args : Array Value} {t u : Term} {a z : Addr} {cl : Cell} {j : Int32} (ev : t.eval args s none [] s = some (.ref a)) (eu : u.eval args s none [] s = some (.ref z)) (ha : s.arrayAt? a = some cl) (hn : ¬ j < 0) (hx : (Jvm.Cond.eq (Term.elem t (Term.int j)) u).value args s none s [] = some true) : cl.slots[j.toNatClampNeg]? = some (.ref z) := by
  have e1 := elem_f ev (Term.int_eval j) ha hn
  cases hv : cl.slots[j.toNatClampNeg]? with
  | none => rw [hv] at e1; simp [Cond.value, e1] at hx
  | some v =>
    rw [hv] at e1
    cases v <;> simp [Cond.value, e1, eu] at hx ⊢
    exact hx
theorem own_fldN {s : State} {args : Array Value} {t : Term} {w : Addr} {C n d : String} (ev : t.eval args s none [] s = some (.ref w)) (hx : (Jvm.Cond.eq (Term.field t C n d) Term.null).value args s none s [] = some true) : Fld s s.heap w C n d .null := by
  have e1 := fld_at (C := C) (n := n) (dd := d) ev
  have e2 := null_v hx
  rw [e1] at e2
  exact Fld.start e2
theorem refCat {v : Value} (h : v.isRef = true) : v.category = 1 := by rcases ref_cases h with rfl | ⟨a, rfl⟩ <;> rfl
theorem refNar {v : Value} {C : String} (h : v.isRef = true) : narrow (.object C) v = v := by rcases ref_cases h with rfl | ⟨a, rfl⟩ <;> rfl
theorem refFit {v : Value} {C : String} (h : v.isRef = true) : fits (.object C) v = true := by rcases ref_cases h with rfl | ⟨a, rfl⟩ <;> rfl
theorem own_l2i {x : Int64} (h1 : ¬ ((lcmpW x (-128 : Int64)) < (0 : Int32))) (h2 : ¬ ((0 : Int32) < (lcmpW x (127 : Int64)))) : ¬ (x.toInt32 < (-128 : Int32)) ∧ ¬ ((127 : Int32) < x.toInt32) := by
  rw [lw_lt] at h1; rw [lw_gt] at h2
  have a1 := c_l2i x
  have a2 := rng32 x.toInt32
  simp only [Int32.lt_iff_toInt_lt, Int64.lt_iff_toInt_lt, show (-128 : Int32).toInt = -128 from by decide, show (127 : Int32).toInt = 127 from by decide, show (-128 : Int64).toInt = -128 from by decide, show (127 : Int64).toInt = 127 from by decide] at *
  omega
theorem own_len {s : State} {args : Array Value} {t : Term} {a : Addr} {cl : Cell} {z : Int32} (ht : t.eval args s none [] s = some (.ref a)) (ha : s.arrayAt? a = some cl) (h : (Term.length t).eval args s none [] s = some (.int z)) : cl.slots.size < 2 ^ 31 ∧ cl.slots.size.toInt32 = z := by
  simp only [Term.eval, ht, ha, Option.bind_eq_bind, Option.bind_some] at h
  split at h
  · rename_i q; exact ⟨q, by simpa using h⟩
  · cases h
theorem own_idx {x : Int32} (h1 : ¬ (x < (-128 : Int32))) (h2 : ¬ ((127 : Int32) < x)) : ¬ (x + (128 : Int32)) < 0 ∧ (x + (128 : Int32)) < (256 : Int32) := by
  have a1 := c_iadd x 128
  have a2 := rng32 (x + 128)
  simp only [Int32.lt_iff_toInt_lt, show (-128 : Int32).toInt = -128 from by decide, show (127 : Int32).toInt = 127 from by decide, show (128 : Int32).toInt = 128 from by decide, show (256 : Int32).toInt = 256 from by decide, show (0 : Int32).toInt = 0 from by decide] at *
  omega
theorem d6_0 : decode jdk_18_method_1_code 0 = .ok (.aload_n 0, 1) := by decide +kernel
theorem d6_1 : decode jdk_18_method_1_code 1 = .ok (.invokespecial 1, 3) := by decide +kernel
theorem d6_4 : decode jdk_18_method_1_code 4 = .ok (.return_, 1) := by decide +kernel
theorem pn_java_lang_Number : plainName "java/lang/Number" = true := by first | (simp [plainName, overriddenIn]; done) | decide +kernel
theorem ef_numinit (m : MethodId) (a : Addr) : entryFrame m #[(.ref a)] 1 = mkF m 0 #[.val (.ref a)] [] := by first | (simp [entryFrame, mkF, argsToLocals, Value.category]; done) | rfl
def Q_numinit (Z : State) (wcI : Addr) (ccI : Cell) (wcJ : Addr) (ccJ : Cell) (a : Addr) (h0 : Heap) (n0 : Nat) (vv_ : Option Value) (hh_ : Heap) (LL_ : List Loc) : Prop := vv_ = none ∧ (Fr n0 LL_) ∧ (hh_ = h0)
set_option maxRecDepth 65536 in
set_option maxHeartbeats 40000000 in
theorem numinit (l : Launch) (Z : State) (a0 : Array Value) (hw : ∀ d ∈ tables_1, d.before a0 Z = true) (ws : List Jvm.Cond) (wcI : Addr) (ccI : Cell) (wcJ : Addr) (ccJ : Cell) (a : Addr) (h0 : Heap) (n0 : Nat) (O0 : Old Z n0 h0) (S_cI : Sta Z Z.heap "java/lang/Integer$IntegerCache" "cache" "[Ljava/lang/Integer;" (.ref wcI)) (B_cI : Bxs Z wcI ccI "java/lang/Integer" "I" 256 (fun j => .int (j - 128))) (S_hi : Sta Z Z.heap "java/lang/Integer$IntegerCache" "high" "I" (.int (127 : Int32))) (S_cJ : Sta Z Z.heap "java/lang/Long$LongCache" "cache" "[Ljava/lang/Long;" (.ref wcJ)) (B_cJ : Bxs Z wcJ ccJ "java/lang/Long" "J" 256 (fun j => .long (j - 128).toInt64)) :
    MetFree l (⟨"java/lang/Number", "<init>", "()V"⟩ : MethodName) (head1 (Jvm.Cond.code (⟨"java/lang/Number", "<init>", "()V"⟩ : MethodName) jdk_18_method_1_code 1 none :: ws) ({ frames := 1, cells := 0, slots := 0, locals := 12 } : Room)) (fun aa_ U_ => aa_ = #[(.ref a)] ∧ Z.Warmed39 U_.vm ∧ U_.heap = h0) (fun _ _ _ _ _ => True) (fun _ U_ oo_ V_ => ∃ vv_ LL_, oo_ = .returned vv_ ∧ Q_numinit Z wcI ccI wcJ ccJ a h0 n0 vv_ V_.heap LL_ ∧ FrameEnd U_ oo_ V_ LL_ ({ frames := 1, cells := 0, slots := 0, locals := 12 } : Room).cells ({ frames := 1, cells := 0, slots := 0, locals := 12 } : Room).slots) := by
  refine MetFree.of_bodySF (plainFor_of_name pn_java_lang_Number) hisR ?_
  intro p e s m args below meth c s₁ Bd hml0 hP hK
  obtain ⟨rfl, hZ, hh⟩ := hP
  have hx := Bd.exec
  have hby := Bd.bytes
  have hml : c.maxLocals = 1 := hml0
  have hown : s.vm.findClass "java/lang/Number" = some m.cls := findClass_of_methodNamed Bd.named
  have hnm := (name_of_methodNamed Bd.named Bd.method).1
  have X0 : Stand p l e ({ frames := 1, cells := 0, slots := 0, locals := 12 } : Room) s m #[(.ref a)] below meth c s₁ [] 0 0 := Stand.of_body Bd
  have e0 : s₁.heap = h0 := by rw [← hh, Bd.state]; rfl
  have N0 := Fr.nil n0
  have Z0 : n0 ≤ h0.size := O0.1 ▸ O0.2.1
  have hk0 := Nat.zero_le h0.size
  have K0 : Keep h0 h0 [] := Keep.refl _ _
  have R0 : ∀ t, Steps p.tables e below (s₁.setTop (mkF m 0 #[.val (.ref a)] [])) t → Steps p.tables e below (s₁.setTop (entryFrame m #[(.ref a)] 1)) t := fun t k => castTop (ef_numinit m a) k
  obtain ⟨T1, X1, e1, st1⟩ := initO X0 hx hZ hown (hw _ (List.mem_of_getElem? (i := 42) rfl)) (hw _ (List.mem_of_getElem? (i := 7) rfl)) (hw _ (List.mem_of_getElem? (i := 8) rfl)) e0 (g := (mkF m 1 #[.val (.ref a)] [(.ref a)])) rfl (by rw [hml]; rfl) rfl (hb hby d6_1) (by decide) (W := 0) (by show 2 * 0 + _ ≤ _; exact Nat.le_of_eq rfl) (by decide)
  have R2 : ∀ t, Steps p.tables e below (T1.setTop (mkF m 4 #[.val (.ref a)] [])) t → Steps p.tables e below (s₁.setTop (entryFrame m #[(.ref a)] 1)) t := by
    intro t k
    refine R0 t ?_
    show Steps p.tables e below (s₁.setTop (mkF m 0 #[.val (.ref a)] [])) t
    refine XS.aloadN X0.here hx rfl (hb hby d6_0) rfl rfl ?_
    show Steps p.tables e below (s₁.setTop (mkF m 1 #[.val (.ref a)] [(.ref a)])) t
    refine st1 _ ?_
    exact k
  obtain ⟨fs, hr, hrun, hended, hW, hsame⟩ := X1.leave (v := none) (fun _ => rfl)
  refine ⟨_, _, R2 _ ?_, hrun, hended, _, _, rfl, ?_, ⟨_, rfl⟩, hW, hsame.mono (by decide) (by decide)⟩
  · show Steps p.tables e below (T1.setTop (mkF m 4 #[.val (.ref a)] [])) _
    exact X1.returnOut hx Bd.returns (hb hby d6_4) hr
  · show Q_numinit Z wcI ccI wcJ ccJ a h0 n0 _ T1.heap _
    rw [e1]
    exact ⟨rfl, N0, rfl⟩
theorem d5_0 : decode jdk_33_method_23_code 0 = .ok (.aload_n 0, 1) := by decide +kernel
theorem pd_0 : parseMethodDescriptor "()V" = some ⟨[], none⟩ := by decide +kernel
theorem d5_1 : decode jdk_33_method_23_code 1 = .ok (.invokespecial 202, 3) := by decide +kernel
theorem d5_4 : decode jdk_33_method_23_code 4 = .ok (.aload_n 0, 1) := by decide +kernel
theorem d5_5 : decode jdk_33_method_23_code 5 = .ok (.iload_n 1, 1) := by decide +kernel
theorem d5_6 : decode jdk_33_method_23_code 6 = .ok (.putfield 205, 3) := by decide +kernel
theorem d5_9 : decode jdk_33_method_23_code 9 = .ok (.return_, 1) := by decide +kernel
theorem pn_java_lang_Integer : plainName "java/lang/Integer" = true := by first | (simp [plainName, overriddenIn]; done) | decide +kernel
theorem ef_boxinitI (m : MethodId) (a : Addr) (x : Int32) (u1 : Value) : entryFrame m #[(.ref a), (.int x)] 2 = mkF m 0 #[.val (.ref a), .val (.int x)] [] := by first | (simp [entryFrame, mkF, argsToLocals, Value.category]; done) | rfl
def Q_boxinitI (Z : State) (wcI : Addr) (ccI : Cell) (wcJ : Addr) (ccJ : Cell) (a : Addr) (x : Int32) (u1 : Value) (h0 : Heap) (n0 : Nat) (vv_ : Option Value) (hh_ : Heap) (LL_ : List Loc) : Prop := vv_ = none ∧ (Fr n0 LL_) ∧ (Keep h0 hh_ [a]) ∧ (Exa Z hh_ a "java/lang/Integer") ∧ (Fld Z hh_ a "java/lang/Integer" "value" "I" (.int x))
set_option maxRecDepth 65536 in
set_option maxHeartbeats 40000000 in
theorem boxinitI (l : Launch) (Z : State) (a0 : Array Value) (hw : ∀ d ∈ tables_1, d.before a0 Z = true) (ws : List Jvm.Cond) (wcI : Addr) (ccI : Cell) (wcJ : Addr) (ccJ : Cell) (a : Addr) (x : Int32) (u1 : Value) (h0 : Heap) (n0 : Nat) (O0 : Old Z n0 h0) (S_cI : Sta Z Z.heap "java/lang/Integer$IntegerCache" "cache" "[Ljava/lang/Integer;" (.ref wcI)) (B_cI : Bxs Z wcI ccI "java/lang/Integer" "I" 256 (fun j => .int (j - 128))) (S_hi : Sta Z Z.heap "java/lang/Integer$IntegerCache" "high" "I" (.int (127 : Int32))) (S_cJ : Sta Z Z.heap "java/lang/Long$LongCache" "cache" "[Ljava/lang/Long;" (.ref wcJ)) (B_cJ : Bxs Z wcJ ccJ "java/lang/Long" "J" 256 (fun j => .long (j - 128).toInt64)) (g_a : n0 ≤ a) (Ea : Exa Z h0 a "java/lang/Integer") (Fa : Fld Z h0 a "java/lang/Integer" "value" "I" u1) :
    MetFree l (⟨"java/lang/Integer", "<init>", "(I)V"⟩ : MethodName) (head1 (Jvm.Cond.code (⟨"java/lang/Integer", "<init>", "(I)V"⟩ : MethodName) jdk_33_method_23_code 2 none :: ws) ({ frames := 2, cells := 0, slots := 0, locals := 24 } : Room)) (fun aa_ U_ => aa_ = #[(.ref a), (.int x)] ∧ Z.Warmed39 U_.vm ∧ U_.heap = h0) (fun _ _ _ _ _ => True) (fun _ U_ oo_ V_ => ∃ vv_ LL_, oo_ = .returned vv_ ∧ Q_boxinitI Z wcI ccI wcJ ccJ a x u1 h0 n0 vv_ V_.heap LL_ ∧ FrameEnd U_ oo_ V_ LL_ ({ frames := 2, cells := 0, slots := 0, locals := 24 } : Room).cells ({ frames := 2, cells := 0, slots := 0, locals := 24 } : Room).slots) := by
  refine MetFree.of_bodySF (plainFor_of_name pn_java_lang_Integer) hisR ?_
  intro p e s m args below meth c s₁ Bd hml0 hP hK
  obtain ⟨rfl, hZ, hh⟩ := hP
  have hx := Bd.exec
  have hby := Bd.bytes
  have hml : c.maxLocals = 2 := hml0
  have hown : s.vm.findClass "java/lang/Integer" = some m.cls := findClass_of_methodNamed Bd.named
  have hnm := (name_of_methodNamed Bd.named Bd.method).1
  have X0 : Stand p l e ({ frames := 2, cells := 0, slots := 0, locals := 24 } : Room) s m #[(.ref a), (.int x)] below meth c s₁ [] 0 0 := Stand.of_body Bd
  have e0 : s₁.heap = h0 := by rw [← hh, Bd.state]; rfl
  have N0 := Fr.nil n0
  have Z0 : n0 ≤ h0.size := O0.1 ▸ O0.2.1
  have hk0 := Nat.zero_le h0.size
  have K0 : Keep h0 h0 [a] := Keep.refl _ _
  have R0 : ∀ t, Steps p.tables e below (s₁.setTop (mkF m 0 #[.val (.ref a), .val (.int x)] [])) t → Steps p.tables e below (s₁.setTop (entryFrame m #[(.ref a), (.int x)] 2)) t := fun t k => castTop (ef_boxinitI m a x u1) k
  obtain ⟨_, _, ⟨T1, L1, k1, n1⟩, -, X1, ⟨Lc1, hQ1, l1, y1, z1⟩, st1⟩ := X0.specialBack hx (y := (⟨"java/lang/Number", "<init>", "()V"⟩ : MethodName)) rfl hown (mvT hZ (hw _ (List.mem_of_getElem? (i := 36) rfl))) (mvT hZ (hw _ (List.mem_of_getElem? (i := 37) rfl))) (mvT hZ (hw _ (List.mem_of_getElem? (i := 41) rfl))) (by decide) (backOf (W := 0) (numinit l Z a0 hw [] wcI ccI wcJ ccJ a h0 n0 O0 S_cI B_cI S_hi S_cJ B_cJ   ) hZ (hw _ (List.mem_of_getElem? (i := 41) rfl)) (hw _ (List.mem_of_getElem? (i := 40) rfl)) (by decide) (by decide)) (g := (mkF m 1 #[.val (.ref a), .val (.int x)] [(.ref a)])) rfl (by rw [hml]; rfl) (Steps.refl _) (a := a) (argsL := []) (rest := []) (lenOf pd_0 rfl) rfl (by show 2 * 0 + _ ≤ _; exact Nat.le_of_eq rfl) (hb hby d5_1) (fun _ _ => ⟨rfl, e0, (by decide : 0 + 0 ≤ _), (by decide : 0 + 0 ≤ _)⟩)
  dsimp only [Pt.U, Pt.locs, Pt.cells, Pt.slots] at X1 l1 y1 z1 st1 hQ1
  subst l1 y1 z1
  obtain ⟨rfl, N1q, e1⟩ := hQ1
  have N1 := Fr.app N0 N1q
  obtain ⟨T2, h2, X2, e2, W2, st2⟩ := putF X1 hx hZ hown (host := "") (Or.inl (hw _ (List.mem_of_getElem? (i := 43) rfl))) Via.refl e1 Fa Ea (Or.inr ⟨(hw _ (List.mem_of_getElem? (i := 44) rfl)), rfl, hnm⟩) (hw _ (List.mem_of_getElem? (i := 31) rfl)) (ty := .int) (by decide) rfl rfl (g := (mkF m 6 #[.val (.ref a), .val (.int x)] [(.int x), (.ref a)])) rfl rfl (hb hby d5_6)
  have Z2 : n0 ≤ h2.size := Nat.le_trans Z0 (Keep.of_wr W2).1
  have K2 : Keep h0 h2 [a] := K0.wr W2 (Or.inl (List.mem_of_getElem? (i := 0) rfl))
  have O2 : Old Z n0 h2 := O0.wr W2 g_a
  have N2 := Fr.snoc X2 N1 g_a
  have fw2 : Fld Z h2 a "java/lang/Integer" "value" "I" (.int x) := Fa.same W2
  have R3 : ∀ t, Steps p.tables e below (T2.setTop (mkF m 9 #[.val (.ref a), .val (.int x)] [])) t → Steps p.tables e below (s₁.setTop (entryFrame m #[(.ref a), (.int x)] 2)) t := by
    intro t k
    refine R0 t ?_
    show Steps p.tables e below (s₁.setTop (mkF m 0 #[.val (.ref a), .val (.int x)] [])) t
    refine XS.aloadN X0.here hx rfl (hb hby d5_0) rfl rfl ?_
    show Steps p.tables e below (s₁.setTop (mkF m 1 #[.val (.ref a), .val (.int x)] [(.ref a)])) t
    refine st1.trans ?_
    show Steps p.tables e below (T1.setTop (mkF m 4 #[.val (.ref a), .val (.int x)] [])) t
    refine XS.aloadN X1.here hx rfl (hb hby d5_4) rfl rfl ?_
    show Steps p.tables e below (T1.setTop (mkF m 5 #[.val (.ref a), .val (.int x)] [(.ref a)])) t
    refine XS.iloadN X1.here hx rfl (hb hby d5_5) rfl ?_
    show Steps p.tables e below (T1.setTop (mkF m 6 #[.val (.ref a), .val (.int x)] [(.int x), (.ref a)])) t
    refine st2 _ ?_
    exact k
  have f4 : Exa Z h2 a "java/lang/Integer" := (Ea.wr W2)
  obtain ⟨fs, hr, hrun, hended, hW, hsame⟩ := X2.leave (v := none) (fun _ => rfl)
  refine ⟨_, _, R3 _ ?_, hrun, hended, _, _, rfl, ?_, ⟨_, rfl⟩, hW, hsame.mono (by decide) (by decide)⟩
  · show Steps p.tables e below (T2.setTop (mkF m 9 #[.val (.ref a), .val (.int x)] [])) _
    exact X2.returnOut hx Bd.returns (hb hby d5_9) hr
  · show Q_boxinitI Z wcI ccI wcJ ccJ a x u1 h0 n0 _ T2.heap _
    rw [e2]
    exact ⟨rfl, N2, K2, f4, fw2⟩
theorem d3_0 : decode jdk_33_method_22_code 0 = .ok (.iload_n 0, 1) := by decide +kernel
theorem d3_1 : decode jdk_33_method_22_code 1 = .ok (.bipush (-128), 2) := by decide +kernel
theorem d3_3 : decode jdk_33_method_22_code 3 = .ok (.if_icmp .lt 20, 3) := by decide +kernel
theorem d3_23 : decode jdk_33_method_22_code 23 = .ok (.new 1, 3) := by decide +kernel
theorem d3_26 : decode jdk_33_method_22_code 26 = .ok (.dup, 1) := by decide +kernel
theorem d3_27 : decode jdk_33_method_22_code 27 = .ok (.iload_n 0, 1) := by decide +kernel
theorem pd_1 : parseMethodDescriptor "(I)V" = some ⟨[.int], none⟩ := by decide +kernel
theorem d3_28 : decode jdk_33_method_22_code 28 = .ok (.invokespecial 199, 3) := by decide +kernel
theorem d3_31 : decode jdk_33_method_22_code 31 = .ok (.areturn, 1) := by decide +kernel
theorem d3_6 : decode jdk_33_method_22_code 6 = .ok (.iload_n 0, 1) := by decide +kernel
theorem d3_7 : decode jdk_33_method_22_code 7 = .ok (.getstatic 191, 3) := by decide +kernel
theorem d3_10 : decode jdk_33_method_22_code 10 = .ok (.if_icmp .gt 13, 3) := by decide +kernel
theorem d3_13 : decode jdk_33_method_22_code 13 = .ok (.getstatic 195, 3) := by decide +kernel
theorem d3_16 : decode jdk_33_method_22_code 16 = .ok (.iload_n 0, 1) := by decide +kernel
theorem d3_17 : decode jdk_33_method_22_code 17 = .ok (.sipush 128, 3) := by decide +kernel
theorem d3_20 : decode jdk_33_method_22_code 20 = .ok (.iadd, 1) := by decide +kernel
theorem d3_21 : decode jdk_33_method_22_code 21 = .ok (.aaload, 1) := by decide +kernel
theorem d3_22 : decode jdk_33_method_22_code 22 = .ok (.areturn, 1) := by decide +kernel
theorem ef_valueOfI (m : MethodId) (x : Int32) : entryFrame m #[(.int x)] 1 = mkF m 0 #[.val (.int x)] [] := by first | (simp [entryFrame, mkF, argsToLocals, Value.category]; done) | rfl
def Q_valueOfI (Z : State) (wcI : Addr) (ccI : Cell) (wcJ : Addr) (ccJ : Cell) (x : Int32) (h0 : Heap) (n0 : Nat) (vv_ : Option Value) (hh_ : Heap) (LL_ : List Loc) : Prop := ∃ (b : Addr), vv_ = some (.ref b) ∧ (Fr n0 LL_) ∧ (Keep h0 hh_ []) ∧ (Exa Z hh_ b "java/lang/Integer")
set_option maxRecDepth 65536 in
set_option maxHeartbeats 40000000 in
theorem valueOfI (l : Launch) (Z : State) (a0 : Array Value) (hw : ∀ d ∈ tables_1, d.before a0 Z = true) (ws : List Jvm.Cond) (wcI : Addr) (ccI : Cell) (wcJ : Addr) (ccJ : Cell) (x : Int32) (h0 : Heap) (n0 : Nat) (O0 : Old Z n0 h0) (S_cI : Sta Z Z.heap "java/lang/Integer$IntegerCache" "cache" "[Ljava/lang/Integer;" (.ref wcI)) (B_cI : Bxs Z wcI ccI "java/lang/Integer" "I" 256 (fun j => .int (j - 128))) (S_hi : Sta Z Z.heap "java/lang/Integer$IntegerCache" "high" "I" (.int (127 : Int32))) (S_cJ : Sta Z Z.heap "java/lang/Long$LongCache" "cache" "[Ljava/lang/Long;" (.ref wcJ)) (B_cJ : Bxs Z wcJ ccJ "java/lang/Long" "J" 256 (fun j => .long (j - 128).toInt64)) :
    MetFree l (⟨"java/lang/Integer", "valueOf", "(I)Ljava/lang/Integer;"⟩ : MethodName) (head1 (Jvm.Cond.code (⟨"java/lang/Integer", "valueOf", "(I)Ljava/lang/Integer;"⟩ : MethodName) jdk_33_method_22_code 1 (some (.object "java/lang/Integer")) :: ws) ({ frames := 3, cells := 1, slots := 1, locals := 38 } : Room)) (fun aa_ U_ => aa_ = #[(.int x)] ∧ Z.Warmed39 U_.vm ∧ U_.heap = h0) (fun _ _ _ _ _ => True) (fun _ U_ oo_ V_ => ∃ vv_ LL_, oo_ = .returned vv_ ∧ Q_valueOfI Z wcI ccI wcJ ccJ x h0 n0 vv_ V_.heap LL_ ∧ FrameEnd U_ oo_ V_ LL_ ({ frames := 3, cells := 1, slots := 1, locals := 38 } : Room).cells ({ frames := 3, cells := 1, slots := 1, locals := 38 } : Room).slots) := by
  refine MetFree.of_bodySF (plainFor_of_name pn_java_lang_Integer) hisR ?_
  intro p e s m args below meth c s₁ Bd hml0 hP hK
  obtain ⟨rfl, hZ, hh⟩ := hP
  have hx := Bd.exec
  have hby := Bd.bytes
  have hml : c.maxLocals = 1 := hml0
  have hown : s.vm.findClass "java/lang/Integer" = some m.cls := findClass_of_methodNamed Bd.named
  have hnm := (name_of_methodNamed Bd.named Bd.method).1
  have X0 : Stand p l e ({ frames := 3, cells := 1, slots := 1, locals := 38 } : Room) s m #[(.int x)] below meth c s₁ [] 0 0 := Stand.of_body Bd
  have e0 : s₁.heap = h0 := by rw [← hh, Bd.state]; rfl
  have N0 := Fr.nil n0
  have Z0 : n0 ≤ h0.size := O0.1 ▸ O0.2.1
  have hk0 := Nat.zero_le h0.size
  have K0 : Keep h0 h0 [] := Keep.refl _ _
  have R0 : ∀ t, Steps p.tables e below (s₁.setTop (mkF m 0 #[.val (.int x)] [])) t → Steps p.tables e below (s₁.setTop (entryFrame m #[(.int x)] 1)) t := fun t k => castTop (ef_valueOfI m x) k
  have R1 : ∀ t, Steps p.tables e below (s₁.setTop (mkF m 3 #[.val (.int x)] [(.int (-128 : Int32)), (.int x)])) t → Steps p.tables e below (s₁.setTop (entryFrame m #[(.int x)] 1)) t := by
    intro t k
    refine R0 t ?_
    show Steps p.tables e below (s₁.setTop (mkF m 0 #[.val (.int x)] [])) t
    refine XS.iloadN X0.here hx rfl (hb hby d3_0) rfl ?_
    show Steps p.tables e below (s₁.setTop (mkF m 1 #[.val (.int x)] [(.int x)])) t
    refine XS.bipush X0.here hx rfl (hb hby d3_1) ?_
    exact k
  by_cases hlo : x < (-128 : Int32)
  · obtain ⟨T2, h2, X2, e2, E2, A2, D2, -, st2⟩ := newO X0 hx hZ hown (hw _ (List.mem_of_getElem? (i := 30) rfl)) (hw _ (List.mem_of_getElem? (i := 31) rfl)) (hw _ (List.mem_of_getElem? (i := 15) rfl)) e0 (g := (mkF m 23 #[.val (.int x)] [])) rfl (hb hby d3_23) (by decide) (by decide)
    obtain ⟨b2, gg2⟩ : ∃ z, z = h0.size := ⟨_, rfl⟩
    rw [← gg2] at A2 D2 st2
    have g_b2 : n0 ≤ b2 := Nat.le_trans Z0 (Nat.le_of_eq gg2.symm)
    have sz_b2 : h0.size ≤ b2 := Nat.le_trans K0.1 (Nat.le_of_eq gg2.symm)
    have Z2 : n0 ≤ h2.size := Nat.le_trans Z0 E2.1
    have K2 : Keep h0 h2 [] := K0.ext E2
    have O2 : Old Z n0 h2 := O0.ext E2
    have F2_value : Fld Z h2 b2 "java/lang/Integer" "value" "I" (.int (0 : Int32)) := D2 (Or.inr (hw _ (List.mem_of_getElem? (i := 44) rfl))) (ty := .int) (by decide)
    obtain ⟨_, _, ⟨T3, L3, k3, n3⟩, -, X3, ⟨Lc3, hQ3, l3, y3, z3⟩, st3⟩ := X2.specialBack hx (y := (⟨"java/lang/Integer", "<init>", "(I)V"⟩ : MethodName)) rfl hown (mvT hZ (hw _ (List.mem_of_getElem? (i := 32) rfl))) (mvT hZ (hw _ (List.mem_of_getElem? (i := 33) rfl))) (mvT hZ (hw _ (List.mem_of_getElem? (i := 35) rfl))) (by decide) (backOf (W := 1) (boxinitI l Z a0 hw [] wcI ccI wcJ ccJ b2 x (.int (0 : Int32)) h2 n0 O2 S_cI B_cI S_hi S_cJ B_cJ g_b2  A2 F2_value) hZ (hw _ (List.mem_of_getElem? (i := 35) rfl)) (hw _ (List.mem_of_getElem? (i := 15) rfl)) (by decide) (by decide)) (g := (mkF m 28 #[.val (.int x)] [(.int x), (.ref b2), (.ref b2)])) rfl (by rw [hml]; rfl) (Steps.refl _) (a := b2) (argsL := [(.int x)]) (rest := [(.ref b2)]) (lenOf pd_1 rfl) rfl (by show 2 * 0 + _ ≤ _; exact Nat.le_of_eq rfl) (hb hby d3_28) (fun _ _ => ⟨rfl, e2, (by decide : 1 + 0 ≤ _), (by decide : 1 + 0 ≤ _)⟩)
    dsimp only [Pt.U, Pt.locs, Pt.cells, Pt.slots] at X3 l3 y3 z3 st3 hQ3
    subst l3 y3 z3
    obtain ⟨rfl, N3q, K3q, y3_0, y3_1⟩ := hQ3
    have N3 := Fr.app N0 N3q
    have Z3 : n0 ≤ T3.heap.size := Nat.le_trans Z2 K3q.1
    have K3 : Keep h0 T3.heap [] := K2.trans K3q (allS (Or.inr sz_b2) all0)
    have O3 : Old Z n0 T3.heap := O2.keep K3q (allS g_b2 all0)
    have R4 : ∀ t, Steps p.tables e below (T3.setTop (mkF m 31 #[.val (.int x)] [(.ref b2)])) t → Steps p.tables e below (s₁.setTop (entryFrame m #[(.int x)] 1)) t := by
      intro t k
      refine R1 t ?_
      show Steps p.tables e below (s₁.setTop (mkF m 3 #[.val (.int x)] [(.int (-128 : Int32)), (.int x)])) t
      refine XS.icmpYes X0.here hx rfl (pc0 := 3) (pc' := 23) rfl (hb hby d3_3) rfl (tlt (hlo : x < (-128 : Int32))).1 (by decide) (by decide) ?_
      show Steps p.tables e below (s₁.setTop (mkF m 23 #[.val (.int x)] [])) t
      refine st2 _ ?_
      show Steps p.tables e below (T2.setTop (mkF m 26 #[.val (.int x)] [(.ref b2)])) t
      refine XS.dup X2.here hx rfl (hb hby d3_26) rfl rfl ?_
      show Steps p.tables e below (T2.setTop (mkF m 27 #[.val (.int x)] [(.ref b2), (.ref b2)])) t
      refine XS.iloadN X2.here hx rfl (hb hby d3_27) rfl ?_
      show Steps p.tables e below (T2.setTop (mkF m 28 #[.val (.int x)] [(.int x), (.ref b2), (.ref b2)])) t
      refine st3.trans ?_
      exact k
    obtain ⟨fs, hr, hrun, hended, hW, hsame⟩ := X3.leave (v := some (.ref b2)) (fun h => by rw [Bd.returns] at h; cases h)
    refine ⟨_, _, R4 _ ?_, hrun, hended, _, _, rfl, ?_, ⟨_, rfl⟩, hW, hsame.mono (by decide) (by decide)⟩
    · show Steps p.tables e below (T3.setTop (mkF m 31 #[.val (.int x)] [(.ref b2)])) _
      exact retOut X3 hx Bd.returns rfl (Or.inr (Or.inr (Or.inr (Or.inr ⟨rfl, rfl, rfl⟩)))) (hb hby d3_31) hr
    · show Q_valueOfI Z wcI ccI wcJ ccJ x h0 n0 _ T3.heap _
      exact ⟨b2, rfl, N3, K3, y3_0⟩
  · obtain ⟨T5, X5, e5, st5⟩ := getS2 X0 hx hZ hown (host := "") (Or.inl (hw _ (List.mem_of_getElem? (i := 17) rfl))) Via.refl e0 (S_hi.ext O0.2) (g := (mkF m 7 #[.val (.int x)] [(.int x)])) rfl (hb hby d3_7)
    have R6 : ∀ t, Steps p.tables e below (T5.setTop (mkF m 10 #[.val (.int x)] [(.int (127 : Int32)), (.int x)])) t → Steps p.tables e below (s₁.setTop (entryFrame m #[(.int x)] 1)) t := by
      intro t k
      refine R1 t ?_
      show Steps p.tables e below (s₁.setTop (mkF m 3 #[.val (.int x)] [(.int (-128 : Int32)), (.int x)])) t
      refine XS.icmpNo X0.here hx rfl (hb hby d3_3) rfl (flt (hlo : ¬ (x < (-128 : Int32)))).1 ?_
      show Steps p.tables e below (s₁.setTop (mkF m 6 #[.val (.int x)] [])) t
      refine XS.iloadN X0.here hx rfl (hb hby d3_6) rfl ?_
      show Steps p.tables e below (s₁.setTop (mkF m 7 #[.val (.int x)] [(.int x)])) t
      refine st5 _ ?_
      exact k
    by_cases hhi : (127 : Int32) < x
    · obtain ⟨T7, h7, X7, e7, E7, A7, D7, -, st7⟩ := newO X5 hx hZ hown (hw _ (List.mem_of_getElem? (i := 30) rfl)) (hw _ (List.mem_of_getElem? (i := 31) rfl)) (hw _ (List.mem_of_getElem? (i := 15) rfl)) e5 (g := (mkF m 23 #[.val (.int x)] [])) rfl (hb hby d3_23) (by decide) (by decide)
      obtain ⟨b7, gg7⟩ : ∃ z, z = h0.size := ⟨_, rfl⟩
      rw [← gg7] at A7 D7 st7
      have g_b7 : n0 ≤ b7 := Nat.le_trans Z0 (Nat.le_of_eq gg7.symm)
      have sz_b7 : h0.size ≤ b7 := Nat.le_trans K0.1 (Nat.le_of_eq gg7.symm)
      have Z7 : n0 ≤ h7.size := Nat.le_trans Z0 E7.1
      have K7 : Keep h0 h7 [] := K0.ext E7
      have O7 : Old Z n0 h7 := O0.ext E7
      have F7_value : Fld Z h7 b7 "java/lang/Integer" "value" "I" (.int (0 : Int32)) := D7 (Or.inr (hw _ (List.mem_of_getElem? (i := 44) rfl))) (ty := .int) (by decide)
      obtain ⟨_, _, ⟨T8, L8, k8, n8⟩, -, X8, ⟨Lc8, hQ8, l8, y8, z8⟩, st8⟩ := X7.specialBack hx (y := (⟨"java/lang/Integer", "<init>", "(I)V"⟩ : MethodName)) rfl hown (mvT hZ (hw _ (List.mem_of_getElem? (i := 32) rfl))) (mvT hZ (hw _ (List.mem_of_getElem? (i := 33) rfl))) (mvT hZ (hw _ (List.mem_of_getElem? (i := 35) rfl))) (by decide) (backOf (W := 1) (boxinitI l Z a0 hw [] wcI ccI wcJ ccJ b7 x (.int (0 : Int32)) h7 n0 O7 S_cI B_cI S_hi S_cJ B_cJ g_b7  A7 F7_value) hZ (hw _ (List.mem_of_getElem? (i := 35) rfl)) (hw _ (List.mem_of_getElem? (i := 15) rfl)) (by decide) (by decide)) (g := (mkF m 28 #[.val (.int x)] [(.int x), (.ref b7), (.ref b7)])) rfl (by rw [hml]; rfl) (Steps.refl _) (a := b7) (argsL := [(.int x)]) (rest := [(.ref b7)]) (lenOf pd_1 rfl) rfl (by show 2 * 0 + _ ≤ _; exact Nat.le_of_eq rfl) (hb hby d3_28) (fun _ _ => ⟨rfl, e7, (by decide : 1 + 0 ≤ _), (by decide : 1 + 0 ≤ _)⟩)
      dsimp only [Pt.U, Pt.locs, Pt.cells, Pt.slots] at X8 l8 y8 z8 st8 hQ8
      subst l8 y8 z8
      obtain ⟨rfl, N8q, K8q, y8_0, y8_1⟩ := hQ8
      have N8 := Fr.app N0 N8q
      have Z8 : n0 ≤ T8.heap.size := Nat.le_trans Z7 K8q.1
      have K8 : Keep h0 T8.heap [] := K7.trans K8q (allS (Or.inr sz_b7) all0)
      have O8 : Old Z n0 T8.heap := O7.keep K8q (allS g_b7 all0)
      have R9 : ∀ t, Steps p.tables e below (T8.setTop (mkF m 31 #[.val (.int x)] [(.ref b7)])) t → Steps p.tables e below (s₁.setTop (entryFrame m #[(.int x)] 1)) t := by
        intro t k
        refine R6 t ?_
        show Steps p.tables e below (T5.setTop (mkF m 10 #[.val (.int x)] [(.int (127 : Int32)), (.int x)])) t
        refine XS.icmpYes X5.here hx rfl (pc0 := 10) (pc' := 23) rfl (hb hby d3_10) rfl (tlt (hhi : (127 : Int32) < x)).2.2.1 (by decide) (by decide) ?_
        show Steps p.tables e below (T5.setTop (mkF m 23 #[.val (.int x)] [])) t
        refine st7 _ ?_
        show Steps p.tables e below (T7.setTop (mkF m 26 #[.val (.int x)] [(.ref b7)])) t
        refine XS.dup X7.here hx rfl (hb hby d3_26) rfl rfl ?_
        show Steps p.tables e below (T7.setTop (mkF m 27 #[.val (.int x)] [(.ref b7), (.ref b7)])) t
        refine XS.iloadN X7.here hx rfl (hb hby d3_27) rfl ?_
        show Steps p.tables e below (T7.setTop (mkF m 28 #[.val (.int x)] [(.int x), (.ref b7), (.ref b7)])) t
        refine st8.trans ?_
        exact k
      obtain ⟨fs, hr, hrun, hended, hW, hsame⟩ := X8.leave (v := some (.ref b7)) (fun h => by rw [Bd.returns] at h; cases h)
      refine ⟨_, _, R9 _ ?_, hrun, hended, _, _, rfl, ?_, ⟨_, rfl⟩, hW, hsame.mono (by decide) (by decide)⟩
      · show Steps p.tables e below (T8.setTop (mkF m 31 #[.val (.int x)] [(.ref b7)])) _
        exact retOut X8 hx Bd.returns rfl (Or.inr (Or.inr (Or.inr (Or.inr ⟨rfl, rfl, rfl⟩)))) (hb hby d3_31) hr
      · show Q_valueOfI Z wcI ccI wcJ ccJ x h0 n0 _ T8.heap _
        exact ⟨b7, rfl, N8, K8, y8_0⟩
    · have hix := own_idx hlo hhi
      obtain ⟨T10, X10, e10, st10⟩ := getS2 X5 hx hZ hown (host := "") (Or.inl (hw _ (List.mem_of_getElem? (i := 19) rfl))) Via.refl e5 (S_cI.ext O0.2) (g := (mkF m 13 #[.val (.int x)] [])) rfl (hb hby d3_13)
      obtain ⟨Ar11, S11, M11⟩ := B_cI.ext O0.2
      have in11 : ¬ ((x + (128 : Int32)) < 0 ∨ ccI.slots.size ≤ ((x + (128 : Int32))).toNatClampNeg) := inb_of S11 hix
      obtain ⟨b11, at11, Eb11, -⟩ := B_cI.2.2.2 _ in11
      have R12 : ∀ t, Steps p.tables e below (T10.setTop (mkF m 22 #[.val (.int x)] [(.ref b11)])) t → Steps p.tables e below (s₁.setTop (entryFrame m #[(.int x)] 1)) t := by
        intro t k
        refine R6 t ?_
        show Steps p.tables e below (T5.setTop (mkF m 10 #[.val (.int x)] [(.int (127 : Int32)), (.int x)])) t
        refine XS.icmpNo X5.here hx rfl (hb hby d3_10) rfl (flt (hhi : ¬ ((127 : Int32) < x))).2.2.1 ?_
        show Steps p.tables e below (T5.setTop (mkF m 13 #[.val (.int x)] [])) t
        refine st10 _ ?_
        show Steps p.tables e below (T10.setTop (mkF m 16 #[.val (.int x)] [(.ref wcI)])) t
        refine XS.iloadN X10.here hx rfl (hb hby d3_16) rfl ?_
        show Steps p.tables e below (T10.setTop (mkF m 17 #[.val (.int x)] [(.int x), (.ref wcI)])) t
        refine XS.sipush X10.here hx rfl (hb hby d3_17) ?_
        show Steps p.tables e below (T10.setTop (mkF m 20 #[.val (.int x)] [(.int (128 : Int32)), (.int x), (.ref wcI)])) t
        refine XS.iadd X10.here hx rfl (hb hby d3_20) rfl ?_
        show Steps p.tables e below (T10.setTop (mkF m 21 #[.val (.int x)] [(.int (x + (128 : Int32))), (.ref wcI)])) t
        refine X10.aaload hx (j := (x + (128 : Int32))) (v := (.ref b11)) (by rw [e10]; exact Ar11.1) (State.isArrayOf_alike hZ.alike Ar11.2.1) rfl Ar11.2.2 in11 at11 (g := (mkF m 21 #[.val (.int x)] [(.int (x + (128 : Int32))), (.ref wcI)])) rfl rfl (hb hby d3_21) _ ?_
        exact k
      obtain ⟨fs, hr, hrun, hended, hW, hsame⟩ := X10.leave (v := some (.ref b11)) (fun h => by rw [Bd.returns] at h; cases h)
      refine ⟨_, _, R12 _ ?_, hrun, hended, _, _, rfl, ?_, ⟨_, rfl⟩, hW, hsame.mono (by decide) (by decide)⟩
      · show Steps p.tables e below (T10.setTop (mkF m 22 #[.val (.int x)] [(.ref b11)])) _
        exact retOut X10 hx Bd.returns rfl (Or.inr (Or.inr (Or.inr (Or.inr ⟨rfl, rfl, rfl⟩)))) (hb hby d3_22) hr
      · show Q_valueOfI Z wcI ccI wcJ ccJ x h0 n0 _ T10.heap _
        rw [e10]
        exact ⟨b11, rfl, N0, K0, (Eb11.ext O0.2)⟩
theorem d8_0 : decode jdk_35_method_26_code 0 = .ok (.aload_n 0, 1) := by decide +kernel
theorem d8_1 : decode jdk_35_method_26_code 1 = .ok (.invokespecial 270, 3) := by decide +kernel
theorem d8_4 : decode jdk_35_method_26_code 4 = .ok (.aload_n 0, 1) := by decide +kernel
theorem d8_5 : decode jdk_35_method_26_code 5 = .ok (.lload_n 1, 1) := by decide +kernel
theorem d8_6 : decode jdk_35_method_26_code 6 = .ok (.putfield 273, 3) := by decide +kernel
theorem d8_9 : decode jdk_35_method_26_code 9 = .ok (.return_, 1) := by decide +kernel
theorem pn_java_lang_Long : plainName "java/lang/Long" = true := by first | (simp [plainName, overriddenIn]; done) | decide +kernel
theorem ef_boxinitJ (m : MethodId) (a : Addr) (x : Int64) (u1 : Value) : entryFrame m #[(.ref a), (.long x)] 3 = mkF m 0 #[.val (.ref a), .val (.long x), .second] [] := by first | (simp [entryFrame, mkF, argsToLocals, Value.category]; done) | rfl
def Q_boxinitJ (Z : State) (wcI : Addr) (ccI : Cell) (wcJ : Addr) (ccJ : Cell) (a : Addr) (x : Int64) (u1 : Value) (h0 : Heap) (n0 : Nat) (vv_ : Option Value) (hh_ : Heap) (LL_ : List Loc) : Prop := vv_ = none ∧ (Fr n0 LL_) ∧ (Keep h0 hh_ [a]) ∧ (Exa Z hh_ a "java/lang/Long") ∧ (Fld Z hh_ a "java/lang/Long" "value" "J" (.long x))
set_option maxRecDepth 65536 in
set_option maxHeartbeats 40000000 in
theorem boxinitJ (l : Launch) (Z : State) (a0 : Array Value) (hw : ∀ d ∈ tables_1, d.before a0 Z = true) (ws : List Jvm.Cond) (wcI : Addr) (ccI : Cell) (wcJ : Addr) (ccJ : Cell) (a : Addr) (x : Int64) (u1 : Value) (h0 : Heap) (n0 : Nat) (O0 : Old Z n0 h0) (S_cI : Sta Z Z.heap "java/lang/Integer$IntegerCache" "cache" "[Ljava/lang/Integer;" (.ref wcI)) (B_cI : Bxs Z wcI ccI "java/lang/Integer" "I" 256 (fun j => .int (j - 128))) (S_hi : Sta Z Z.heap "java/lang/Integer$IntegerCache" "high" "I" (.int (127 : Int32))) (S_cJ : Sta Z Z.heap "java/lang/Long$LongCache" "cache" "[Ljava/lang/Long;" (.ref wcJ)) (B_cJ : Bxs Z wcJ ccJ "java/lang/Long" "J" 256 (fun j => .long (j - 128).toInt64)) (g_a : n0 ≤ a) (Ea : Exa Z h0 a "java/lang/Long") (Fa : Fld Z h0 a "java/lang/Long" "value" "J" u1) :
    MetFree l (⟨"java/lang/Long", "<init>", "(J)V"⟩ : MethodName) (head1 (Jvm.Cond.code (⟨"java/lang/Long", "<init>", "(J)V"⟩ : MethodName) jdk_35_method_26_code 3 none :: ws) ({ frames := 2, cells := 0, slots := 0, locals := 24 } : Room)) (fun aa_ U_ => aa_ = #[(.ref a), (.long x)] ∧ Z.Warmed39 U_.vm ∧ U_.heap = h0) (fun _ _ _ _ _ => True) (fun _ U_ oo_ V_ => ∃ vv_ LL_, oo_ = .returned vv_ ∧ Q_boxinitJ Z wcI ccI wcJ ccJ a x u1 h0 n0 vv_ V_.heap LL_ ∧ FrameEnd U_ oo_ V_ LL_ ({ frames := 2, cells := 0, slots := 0, locals := 24 } : Room).cells ({ frames := 2, cells := 0, slots := 0, locals := 24 } : Room).slots) := by
  refine MetFree.of_bodySF (plainFor_of_name pn_java_lang_Long) hisR ?_
  intro p e s m args below meth c s₁ Bd hml0 hP hK
  obtain ⟨rfl, hZ, hh⟩ := hP
  have hx := Bd.exec
  have hby := Bd.bytes
  have hml : c.maxLocals = 3 := hml0
  have hown : s.vm.findClass "java/lang/Long" = some m.cls := findClass_of_methodNamed Bd.named
  have hnm := (name_of_methodNamed Bd.named Bd.method).1
  have X0 : Stand p l e ({ frames := 2, cells := 0, slots := 0, locals := 24 } : Room) s m #[(.ref a), (.long x)] below meth c s₁ [] 0 0 := Stand.of_body Bd
  have e0 : s₁.heap = h0 := by rw [← hh, Bd.state]; rfl
  have N0 := Fr.nil n0
  have Z0 : n0 ≤ h0.size := O0.1 ▸ O0.2.1
  have hk0 := Nat.zero_le h0.size
  have K0 : Keep h0 h0 [a] := Keep.refl _ _
  have R0 : ∀ t, Steps p.tables e below (s₁.setTop (mkF m 0 #[.val (.ref a), .val (.long x), .second] [])) t → Steps p.tables e below (s₁.setTop (entryFrame m #[(.ref a), (.long x)] 3)) t := fun t k => castTop (ef_boxinitJ m a x u1) k
  obtain ⟨_, _, ⟨T1, L1, k1, n1⟩, -, X1, ⟨Lc1, hQ1, l1, y1, z1⟩, st1⟩ := X0.specialBack hx (y := (⟨"java/lang/Number", "<init>", "()V"⟩ : MethodName)) rfl hown (mvT hZ (hw _ (List.mem_of_getElem? (i := 60) rfl))) (mvT hZ (hw _ (List.mem_of_getElem? (i := 37) rfl))) (mvT hZ (hw _ (List.mem_of_getElem? (i := 41) rfl))) (by decide) (backOf (W := 0) (numinit l Z a0 hw [] wcI ccI wcJ ccJ a h0 n0 O0 S_cI B_cI S_hi S_cJ B_cJ   ) hZ (hw _ (List.mem_of_getElem? (i := 41) rfl)) (hw _ (List.mem_of_getElem? (i := 40) rfl)) (by decide) (by decide)) (g := (mkF m 1 #[.val (.ref a), .val (.long x), .second] [(.ref a)])) rfl (by rw [hml]; rfl) (Steps.refl _) (a := a) (argsL := []) (rest := []) (lenOf pd_0 rfl) rfl (by show 2 * 0 + _ ≤ _; exact Nat.le_of_eq rfl) (hb hby d8_1) (fun _ _ => ⟨rfl, e0, (by decide : 0 + 0 ≤ _), (by decide : 0 + 0 ≤ _)⟩)
  dsimp only [Pt.U, Pt.locs, Pt.cells, Pt.slots] at X1 l1 y1 z1 st1 hQ1
  subst l1 y1 z1
  obtain ⟨rfl, N1q, e1⟩ := hQ1
  have N1 := Fr.app N0 N1q
  obtain ⟨T2, h2, X2, e2, W2, st2⟩ := putF X1 hx hZ hown (host := "") (Or.inl (hw _ (List.mem_of_getElem? (i := 62) rfl))) Via.refl e1 Fa Ea (Or.inr ⟨(hw _ (List.mem_of_getElem? (i := 63) rfl)), rfl, hnm⟩) (hw _ (List.mem_of_getElem? (i := 55) rfl)) (ty := .long) (by decide) rfl rfl (g := (mkF m 6 #[.val (.ref a), .val (.long x), .second] [(.long x), (.ref a)])) rfl rfl (hb hby d8_6)
  have Z2 : n0 ≤ h2.size := Nat.le_trans Z0 (Keep.of_wr W2).1
  have K2 : Keep h0 h2 [a] := K0.wr W2 (Or.inl (List.mem_of_getElem? (i := 0) rfl))
  have O2 : Old Z n0 h2 := O0.wr W2 g_a
  have N2 := Fr.snoc X2 N1 g_a
  have fw2 : Fld Z h2 a "java/lang/Long" "value" "J" (.long x) := Fa.same W2
  have R3 : ∀ t, Steps p.tables e below (T2.setTop (mkF m 9 #[.val (.ref a), .val (.long x), .second] [])) t → Steps p.tables e below (s₁.setTop (entryFrame m #[(.ref a), (.long x)] 3)) t := by
    intro t k
    refine R0 t ?_
    show Steps p.tables e below (s₁.setTop (mkF m 0 #[.val (.ref a), .val (.long x), .second] [])) t
    refine XS.aloadN X0.here hx rfl (hb hby d8_0) rfl rfl ?_
    show Steps p.tables e below (s₁.setTop (mkF m 1 #[.val (.ref a), .val (.long x), .second] [(.ref a)])) t
    refine st1.trans ?_
    show Steps p.tables e below (T1.setTop (mkF m 4 #[.val (.ref a), .val (.long x), .second] [])) t
    refine XS.aloadN X1.here hx rfl (hb hby d8_4) rfl rfl ?_
    show Steps p.tables e below (T1.setTop (mkF m 5 #[.val (.ref a), .val (.long x), .second] [(.ref a)])) t
    refine XS.lloadN X1.here hx rfl (hb hby d8_5) rfl ?_
    show Steps p.tables e below (T1.setTop (mkF m 6 #[.val (.ref a), .val (.long x), .second] [(.long x), (.ref a)])) t
    refine st2 _ ?_
    exact k
  have f4 : Exa Z h2 a "java/lang/Long" := (Ea.wr W2)
  obtain ⟨fs, hr, hrun, hended, hW, hsame⟩ := X2.leave (v := none) (fun _ => rfl)
  refine ⟨_, _, R3 _ ?_, hrun, hended, _, _, rfl, ?_, ⟨_, rfl⟩, hW, hsame.mono (by decide) (by decide)⟩
  · show Steps p.tables e below (T2.setTop (mkF m 9 #[.val (.ref a), .val (.long x), .second] [])) _
    exact X2.returnOut hx Bd.returns (hb hby d8_9) hr
  · show Q_boxinitJ Z wcI ccI wcJ ccJ a x u1 h0 n0 _ T2.heap _
    rw [e2]
    exact ⟨rfl, N2, K2, f4, fw2⟩
theorem d7_0 : decode jdk_35_method_24_code 0 = .ok (.sipush 128, 3) := by decide +kernel
theorem d7_3 : decode jdk_35_method_24_code 3 = .ok (.istore_n 2, 1) := by decide +kernel
theorem d7_4 : decode jdk_35_method_24_code 4 = .ok (.lload_n 0, 1) := by decide +kernel
theorem d7_5 : decode jdk_35_method_24_code 5 = .ok (.ldc2_w 230, 3) := by decide +kernel
theorem d7_8 : decode jdk_35_method_24_code 8 = .ok (.lcmp, 1) := by decide +kernel
theorem d7_9 : decode jdk_35_method_24_code 9 = .ok (.ifCond .lt 22, 3) := by decide +kernel
theorem d7_31 : decode jdk_35_method_24_code 31 = .ok (.new 1, 3) := by decide +kernel
theorem d7_34 : decode jdk_35_method_24_code 34 = .ok (.dup, 1) := by decide +kernel
theorem d7_35 : decode jdk_35_method_24_code 35 = .ok (.lload_n 0, 1) := by decide +kernel
theorem pd_2 : parseMethodDescriptor "(J)V" = some ⟨[.long], none⟩ := by decide +kernel
theorem d7_36 : decode jdk_35_method_24_code 36 = .ok (.invokespecial 240, 3) := by decide +kernel
theorem d7_39 : decode jdk_35_method_24_code 39 = .ok (.areturn, 1) := by decide +kernel
theorem d7_12 : decode jdk_35_method_24_code 12 = .ok (.lload_n 0, 1) := by decide +kernel
theorem d7_13 : decode jdk_35_method_24_code 13 = .ok (.ldc2_w 232, 3) := by decide +kernel
theorem d7_16 : decode jdk_35_method_24_code 16 = .ok (.lcmp, 1) := by decide +kernel
theorem d7_17 : decode jdk_35_method_24_code 17 = .ok (.ifCond .gt 14, 3) := by decide +kernel
theorem d7_20 : decode jdk_35_method_24_code 20 = .ok (.getstatic 234, 3) := by decide +kernel
theorem d7_23 : decode jdk_35_method_24_code 23 = .ok (.lload_n 0, 1) := by decide +kernel
theorem d7_24 : decode jdk_35_method_24_code 24 = .ok (.l2i, 1) := by decide +kernel
theorem d7_25 : decode jdk_35_method_24_code 25 = .ok (.sipush 128, 3) := by decide +kernel
theorem d7_28 : decode jdk_35_method_24_code 28 = .ok (.iadd, 1) := by decide +kernel
theorem d7_29 : decode jdk_35_method_24_code 29 = .ok (.aaload, 1) := by decide +kernel
theorem d7_30 : decode jdk_35_method_24_code 30 = .ok (.areturn, 1) := by decide +kernel
theorem ef_valueOfJ (m : MethodId) (x : Int64) : entryFrame m #[(.long x)] 3 = mkF m 0 #[.val (.long x), .second, .unset] [] := by first | (simp [entryFrame, mkF, argsToLocals, Value.category]; done) | rfl
def Q_valueOfJ (Z : State) (wcI : Addr) (ccI : Cell) (wcJ : Addr) (ccJ : Cell) (x : Int64) (h0 : Heap) (n0 : Nat) (vv_ : Option Value) (hh_ : Heap) (LL_ : List Loc) : Prop := ∃ (b : Addr), vv_ = some (.ref b) ∧ (Fr n0 LL_) ∧ (Keep h0 hh_ []) ∧ (Exa Z hh_ b "java/lang/Long")
set_option maxRecDepth 65536 in
set_option maxHeartbeats 40000000 in
theorem valueOfJ (l : Launch) (Z : State) (a0 : Array Value) (hw : ∀ d ∈ tables_1, d.before a0 Z = true) (ws : List Jvm.Cond) (wcI : Addr) (ccI : Cell) (wcJ : Addr) (ccJ : Cell) (x : Int64) (h0 : Heap) (n0 : Nat) (O0 : Old Z n0 h0) (S_cI : Sta Z Z.heap "java/lang/Integer$IntegerCache" "cache" "[Ljava/lang/Integer;" (.ref wcI)) (B_cI : Bxs Z wcI ccI "java/lang/Integer" "I" 256 (fun j => .int (j - 128))) (S_hi : Sta Z Z.heap "java/lang/Integer$IntegerCache" "high" "I" (.int (127 : Int32))) (S_cJ : Sta Z Z.heap "java/lang/Long$LongCache" "cache" "[Ljava/lang/Long;" (.ref wcJ)) (B_cJ : Bxs Z wcJ ccJ "java/lang/Long" "J" 256 (fun j => .long (j - 128).toInt64)) :
    MetFree l (⟨"java/lang/Long", "valueOf", "(J)Ljava/lang/Long;"⟩ : MethodName) (head1 (Jvm.Cond.code (⟨"java/lang/Long", "valueOf", "(J)Ljava/lang/Long;"⟩ : MethodName) jdk_35_method_24_code 3 (some (.object "java/lang/Long")) :: ws) ({ frames := 3, cells := 1, slots := 1, locals := 39 } : Room)) (fun aa_ U_ => aa_ = #[(.long x)] ∧ Z.Warmed39 U_.vm ∧ U_.heap = h0) (fun _ _ _ _ _ => True) (fun _ U_ oo_ V_ => ∃ vv_ LL_, oo_ = .returned vv_ ∧ Q_valueOfJ Z wcI ccI wcJ ccJ x h0 n0 vv_ V_.heap LL_ ∧ FrameEnd U_ oo_ V_ LL_ ({ frames := 3, cells := 1, slots := 1, locals := 39 } : Room).cells ({ frames := 3, cells := 1, slots := 1, locals := 39 } : Room).slots) := by
  refine MetFree.of_bodySF (plainFor_of_name pn_java_lang_Long) hisR ?_
  intro p e s m args below meth c s₁ Bd hml0 hP hK
  obtain ⟨rfl, hZ, hh⟩ := hP
  have hx := Bd.exec
  have hby := Bd.bytes
  have hml : c.maxLocals = 3 := hml0
  have hown : s.vm.findClass "java/lang/Long" = some m.cls := findClass_of_methodNamed Bd.named
  have hnm := (name_of_methodNamed Bd.named Bd.method).1
  have X0 : Stand p l e ({ frames := 3, cells := 1, slots := 1, locals := 39 } : Room) s m #[(.long x)] below meth c s₁ [] 0 0 := Stand.of_body Bd
  have e0 : s₁.heap = h0 := by rw [← hh, Bd.state]; rfl
  have N0 := Fr.nil n0
  have Z0 : n0 ≤ h0.size := O0.1 ▸ O0.2.1
  have hk0 := Nat.zero_le h0.size
  have K0 : Keep h0 h0 [] := Keep.refl _ _
  have R0 : ∀ t, Steps p.tables e below (s₁.setTop (mkF m 0 #[.val (.long x), .second, .unset] [])) t → Steps p.tables e below (s₁.setTop (entryFrame m #[(.long x)] 3)) t := fun t k => castTop (ef_valueOfJ m x) k
  have R1 : ∀ t, Steps p.tables e below (s₁.setTop (mkF m 9 #[.val (.long x), .second, .val (.int (128 : Int32))] [(.int (lcmpW x (-128 : Int64)))])) t → Steps p.tables e below (s₁.setTop (entryFrame m #[(.long x)] 3)) t := by
    intro t k
    refine R0 t ?_
    show Steps p.tables e below (s₁.setTop (mkF m 0 #[.val (.long x), .second, .unset] [])) t
    refine XS.sipush X0.here hx rfl (hb hby d7_0) ?_
    show Steps p.tables e below (s₁.setTop (mkF m 3 #[.val (.long x), .second, .unset] [(.int (128 : Int32))])) t
    refine XS.istoreN X0.here hx rfl (hb hby d7_3) rfl (l' := #[.val (.long x), .second, .val (.int (128 : Int32))]) rfl ?_
    show Steps p.tables e below (s₁.setTop (mkF m 4 #[.val (.long x), .second, .val (.int (128 : Int32))] [])) t
    refine XS.lloadN X0.here hx rfl (hb hby d7_4) rfl ?_
    show Steps p.tables e below (s₁.setTop (mkF m 5 #[.val (.long x), .second, .val (.int (128 : Int32))] [(.long x)])) t
    refine X0.ldc2Long hx hown (mvT hZ (hw _ (List.mem_of_getElem? (i := 49) rfl))) (g := (mkF m 5 #[.val (.long x), .second, .val (.int (128 : Int32))] [(.long x)])) rfl (hb hby d7_5) _ ?_
    show Steps p.tables e below (s₁.setTop (mkF m 8 #[.val (.long x), .second, .val (.int (128 : Int32))] [(.long (-128 : Int64)), (.long x)])) t
    refine XS.lcmp X0.here hx rfl (hb hby d7_8) rfl ?_
    exact k
  by_cases hlo : (lcmpW x (-128 : Int64)) < (0 : Int32)
  · obtain ⟨T2, h2, X2, e2, E2, A2, D2, -, st2⟩ := newO X0 hx hZ hown (hw _ (List.mem_of_getElem? (i := 54) rfl)) (hw _ (List.mem_of_getElem? (i := 55) rfl)) (hw _ (List.mem_of_getElem? (i := 47) rfl)) e0 (g := (mkF m 31 #[.val (.long x), .second, .val (.int (128 : Int32))] [])) rfl (hb hby d7_31) (by decide) (by decide)
    obtain ⟨b2, gg2⟩ : ∃ z, z = h0.size := ⟨_, rfl⟩
    rw [← gg2] at A2 D2 st2
    have g_b2 : n0 ≤ b2 := Nat.le_trans Z0 (Nat.le_of_eq gg2.symm)
    have sz_b2 : h0.size ≤ b2 := Nat.le_trans K0.1 (Nat.le_of_eq gg2.symm)
    have Z2 : n0 ≤ h2.size := Nat.le_trans Z0 E2.1
    have K2 : Keep h0 h2 [] := K0.ext E2
    have O2 : Old Z n0 h2 := O0.ext E2
    have F2_value : Fld Z h2 b2 "java/lang/Long" "value" "J" (.long (0 : Int64)) := D2 (Or.inr (hw _ (List.mem_of_getElem? (i := 63) rfl))) (ty := .long) (by decide)
    obtain ⟨_, _, ⟨T3, L3, k3, n3⟩, -, X3, ⟨Lc3, hQ3, l3, y3, z3⟩, st3⟩ := X2.specialBack hx (y := (⟨"java/lang/Long", "<init>", "(J)V"⟩ : MethodName)) rfl hown (mvT hZ (hw _ (List.mem_of_getElem? (i := 56) rfl))) (mvT hZ (hw _ (List.mem_of_getElem? (i := 57) rfl))) (mvT hZ (hw _ (List.mem_of_getElem? (i := 59) rfl))) (by decide) (backOf (W := 1) (boxinitJ l Z a0 hw [] wcI ccI wcJ ccJ b2 x (.long (0 : Int64)) h2 n0 O2 S_cI B_cI S_hi S_cJ B_cJ g_b2  A2 F2_value) hZ (hw _ (List.mem_of_getElem? (i := 59) rfl)) (hw _ (List.mem_of_getElem? (i := 47) rfl)) (by decide) (by decide)) (g := (mkF m 36 #[.val (.long x), .second, .val (.int (128 : Int32))] [(.long x), (.ref b2), (.ref b2)])) rfl (by rw [hml]; rfl) (Steps.refl _) (a := b2) (argsL := [(.long x)]) (rest := [(.ref b2)]) (lenOf pd_2 rfl) rfl (by show 2 * 0 + _ ≤ _; exact Nat.le_of_eq rfl) (hb hby d7_36) (fun _ _ => ⟨rfl, e2, (by decide : 1 + 0 ≤ _), (by decide : 1 + 0 ≤ _)⟩)
    dsimp only [Pt.U, Pt.locs, Pt.cells, Pt.slots] at X3 l3 y3 z3 st3 hQ3
    subst l3 y3 z3
    obtain ⟨rfl, N3q, K3q, y3_0, y3_1⟩ := hQ3
    have N3 := Fr.app N0 N3q
    have Z3 : n0 ≤ T3.heap.size := Nat.le_trans Z2 K3q.1
    have K3 : Keep h0 T3.heap [] := K2.trans K3q (allS (Or.inr sz_b2) all0)
    have O3 : Old Z n0 T3.heap := O2.keep K3q (allS g_b2 all0)
    have R4 : ∀ t, Steps p.tables e below (T3.setTop (mkF m 39 #[.val (.long x), .second, .val (.int (128 : Int32))] [(.ref b2)])) t → Steps p.tables e below (s₁.setTop (entryFrame m #[(.long x)] 3)) t := by
      intro t k
      refine R1 t ?_
      show Steps p.tables e below (s₁.setTop (mkF m 9 #[.val (.long x), .second, .val (.int (128 : Int32))] [(.int (lcmpW x (-128 : Int64)))])) t
      refine XS.ifYes X0.here hx rfl (pc0 := 9) (pc' := 31) rfl (hb hby d7_9) rfl ((if0 _ _).trans (tlt (hlo : (lcmpW x (-128 : Int64)) < (0 : Int32))).1) (by decide) (by decide) ?_
      show Steps p.tables e below (s₁.setTop (mkF m 31 #[.val (.long x), .second, .val (.int (128 : Int32))] [])) t
      refine st2 _ ?_
      show Steps p.tables e below (T2.setTop (mkF m 34 #[.val (.long x), .second, .val (.int (128 : Int32))] [(.ref b2)])) t
      refine XS.dup X2.here hx rfl (hb hby d7_34) rfl rfl ?_
      show Steps p.tables e below (T2.setTop (mkF m 35 #[.val (.long x), .second, .val (.int (128 : Int32))] [(.ref b2), (.ref b2)])) t
      refine XS.lloadN X2.here hx rfl (hb hby d7_35) rfl ?_
      show Steps p.tables e below (T2.setTop (mkF m 36 #[.val (.long x), .second, .val (.int (128 : Int32))] [(.long x), (.ref b2), (.ref b2)])) t
      refine st3.trans ?_
      exact k
    obtain ⟨fs, hr, hrun, hended, hW, hsame⟩ := X3.leave (v := some (.ref b2)) (fun h => by rw [Bd.returns] at h; cases h)
    refine ⟨_, _, R4 _ ?_, hrun, hended, _, _, rfl, ?_, ⟨_, rfl⟩, hW, hsame.mono (by decide) (by decide)⟩
    · show Steps p.tables e below (T3.setTop (mkF m 39 #[.val (.long x), .second, .val (.int (128 : Int32))] [(.ref b2)])) _
      exact retOut X3 hx Bd.returns rfl (Or.inr (Or.inr (Or.inr (Or.inr ⟨rfl, rfl, rfl⟩)))) (hb hby d7_39) hr
    · show Q_valueOfJ Z wcI ccI wcJ ccJ x h0 n0 _ T3.heap _
      exact ⟨b2, rfl, N3, K3, y3_0⟩
  · have R5 : ∀ t, Steps p.tables e below (s₁.setTop (mkF m 17 #[.val (.long x), .second, .val (.int (128 : Int32))] [(.int (lcmpW x (127 : Int64)))])) t → Steps p.tables e below (s₁.setTop (entryFrame m #[(.long x)] 3)) t := by
      intro t k
      refine R1 t ?_
      show Steps p.tables e below (s₁.setTop (mkF m 9 #[.val (.long x), .second, .val (.int (128 : Int32))] [(.int (lcmpW x (-128 : Int64)))])) t
      refine XS.ifNo X0.here hx rfl (hb hby d7_9) rfl ((if0 _ _).trans (flt (hlo : ¬ ((lcmpW x (-128 : Int64)) < (0 : Int32)))).1) ?_
      show Steps p.tables e below (s₁.setTop (mkF m 12 #[.val (.long x), .second, .val (.int (128 : Int32))] [])) t
      refine XS.lloadN X0.here hx rfl (hb hby d7_12) rfl ?_
      show Steps p.tables e below (s₁.setTop (mkF m 13 #[.val (.long x), .second, .val (.int (128 : Int32))] [(.long x)])) t
      refine X0.ldc2Long hx hown (mvT hZ (hw _ (List.mem_of_getElem? (i := 50) rfl))) (g := (mkF m 13 #[.val (.long x), .second, .val (.int (128 : Int32))] [(.long x)])) rfl (hb hby d7_13) _ ?_
      show Steps p.tables e below (s₁.setTop (mkF m 16 #[.val (.long x), .second, .val (.int (128 : Int32))] [(.long (127 : Int64)), (.long x)])) t
      refine XS.lcmp X0.here hx rfl (hb hby d7_16) rfl ?_
      exact k
    by_cases hhi : (0 : Int32) < (lcmpW x (127 : Int64))
    · obtain ⟨T6, h6, X6, e6, E6, A6, D6, -, st6⟩ := newO X0 hx hZ hown (hw _ (List.mem_of_getElem? (i := 54) rfl)) (hw _ (List.mem_of_getElem? (i := 55) rfl)) (hw _ (List.mem_of_getElem? (i := 47) rfl)) e0 (g := (mkF m 31 #[.val (.long x), .second, .val (.int (128 : Int32))] [])) rfl (hb hby d7_31) (by decide) (by decide)
      obtain ⟨b6, gg6⟩ : ∃ z, z = h0.size := ⟨_, rfl⟩
      rw [← gg6] at A6 D6 st6
      have g_b6 : n0 ≤ b6 := Nat.le_trans Z0 (Nat.le_of_eq gg6.symm)
      have sz_b6 : h0.size ≤ b6 := Nat.le_trans K0.1 (Nat.le_of_eq gg6.symm)
      have Z6 : n0 ≤ h6.size := Nat.le_trans Z0 E6.1
      have K6 : Keep h0 h6 [] := K0.ext E6
      have O6 : Old Z n0 h6 := O0.ext E6
      have F6_value : Fld Z h6 b6 "java/lang/Long" "value" "J" (.long (0 : Int64)) := D6 (Or.inr (hw _ (List.mem_of_getElem? (i := 63) rfl))) (ty := .long) (by decide)
      obtain ⟨_, _, ⟨T7, L7, k7, n7⟩, -, X7, ⟨Lc7, hQ7, l7, y7, z7⟩, st7⟩ := X6.specialBack hx (y := (⟨"java/lang/Long", "<init>", "(J)V"⟩ : MethodName)) rfl hown (mvT hZ (hw _ (List.mem_of_getElem? (i := 56) rfl))) (mvT hZ (hw _ (List.mem_of_getElem? (i := 57) rfl))) (mvT hZ (hw _ (List.mem_of_getElem? (i := 59) rfl))) (by decide) (backOf (W := 1) (boxinitJ l Z a0 hw [] wcI ccI wcJ ccJ b6 x (.long (0 : Int64)) h6 n0 O6 S_cI B_cI S_hi S_cJ B_cJ g_b6  A6 F6_value) hZ (hw _ (List.mem_of_getElem? (i := 59) rfl)) (hw _ (List.mem_of_getElem? (i := 47) rfl)) (by decide) (by decide)) (g := (mkF m 36 #[.val (.long x), .second, .val (.int (128 : Int32))] [(.long x), (.ref b6), (.ref b6)])) rfl (by rw [hml]; rfl) (Steps.refl _) (a := b6) (argsL := [(.long x)]) (rest := [(.ref b6)]) (lenOf pd_2 rfl) rfl (by show 2 * 0 + _ ≤ _; exact Nat.le_of_eq rfl) (hb hby d7_36) (fun _ _ => ⟨rfl, e6, (by decide : 1 + 0 ≤ _), (by decide : 1 + 0 ≤ _)⟩)
      dsimp only [Pt.U, Pt.locs, Pt.cells, Pt.slots] at X7 l7 y7 z7 st7 hQ7
      subst l7 y7 z7
      obtain ⟨rfl, N7q, K7q, y7_0, y7_1⟩ := hQ7
      have N7 := Fr.app N0 N7q
      have Z7 : n0 ≤ T7.heap.size := Nat.le_trans Z6 K7q.1
      have K7 : Keep h0 T7.heap [] := K6.trans K7q (allS (Or.inr sz_b6) all0)
      have O7 : Old Z n0 T7.heap := O6.keep K7q (allS g_b6 all0)
      have R8 : ∀ t, Steps p.tables e below (T7.setTop (mkF m 39 #[.val (.long x), .second, .val (.int (128 : Int32))] [(.ref b6)])) t → Steps p.tables e below (s₁.setTop (entryFrame m #[(.long x)] 3)) t := by
        intro t k
        refine R5 t ?_
        show Steps p.tables e below (s₁.setTop (mkF m 17 #[.val (.long x), .second, .val (.int (128 : Int32))] [(.int (lcmpW x (127 : Int64)))])) t
        refine XS.ifYes X0.here hx rfl (pc0 := 17) (pc' := 31) rfl (hb hby d7_17) rfl ((if0 _ _).trans (tlt (hhi : (0 : Int32) < (lcmpW x (127 : Int64)))).2.2.1) (by decide) (by decide) ?_
        show Steps p.tables e below (s₁.setTop (mkF m 31 #[.val (.long x), .second, .val (.int (128 : Int32))] [])) t
        refine st6 _ ?_
        show Steps p.tables e below (T6.setTop (mkF m 34 #[.val (.long x), .second, .val (.int (128 : Int32))] [(.ref b6)])) t
        refine XS.dup X6.here hx rfl (hb hby d7_34) rfl rfl ?_
        show Steps p.tables e below (T6.setTop (mkF m 35 #[.val (.long x), .second, .val (.int (128 : Int32))] [(.ref b6), (.ref b6)])) t
        refine XS.lloadN X6.here hx rfl (hb hby d7_35) rfl ?_
        show Steps p.tables e below (T6.setTop (mkF m 36 #[.val (.long x), .second, .val (.int (128 : Int32))] [(.long x), (.ref b6), (.ref b6)])) t
        refine st7.trans ?_
        exact k
      obtain ⟨fs, hr, hrun, hended, hW, hsame⟩ := X7.leave (v := some (.ref b6)) (fun h => by rw [Bd.returns] at h; cases h)
      refine ⟨_, _, R8 _ ?_, hrun, hended, _, _, rfl, ?_, ⟨_, rfl⟩, hW, hsame.mono (by decide) (by decide)⟩
      · show Steps p.tables e below (T7.setTop (mkF m 39 #[.val (.long x), .second, .val (.int (128 : Int32))] [(.ref b6)])) _
        exact retOut X7 hx Bd.returns rfl (Or.inr (Or.inr (Or.inr (Or.inr ⟨rfl, rfl, rfl⟩)))) (hb hby d7_39) hr
      · show Q_valueOfJ Z wcI ccI wcJ ccJ x h0 n0 _ T7.heap _
        exact ⟨b6, rfl, N7, K7, y7_0⟩
    · have hix := own_idx (own_l2i hlo hhi).1 (own_l2i hlo hhi).2
      obtain ⟨T9, X9, e9, st9⟩ := getS2 X0 hx hZ hown (host := "") (Or.inl (hw _ (List.mem_of_getElem? (i := 51) rfl))) Via.refl e0 (S_cJ.ext O0.2) (g := (mkF m 20 #[.val (.long x), .second, .val (.int (128 : Int32))] [])) rfl (hb hby d7_20)
      obtain ⟨Ar10, S10, M10⟩ := B_cJ.ext O0.2
      have in10 : ¬ (((x.toInt32) + (128 : Int32)) < 0 ∨ ccJ.slots.size ≤ (((x.toInt32) + (128 : Int32))).toNatClampNeg) := inb_of S10 hix
      obtain ⟨b10, at10, Eb10, -⟩ := B_cJ.2.2.2 _ in10
      have R11 : ∀ t, Steps p.tables e below (T9.setTop (mkF m 30 #[.val (.long x), .second, .val (.int (128 : Int32))] [(.ref b10)])) t → Steps p.tables e below (s₁.setTop (entryFrame m #[(.long x)] 3)) t := by
        intro t k
        refine R5 t ?_
        show Steps p.tables e below (s₁.setTop (mkF m 17 #[.val (.long x), .second, .val (.int (128 : Int32))] [(.int (lcmpW x (127 : Int64)))])) t
        refine XS.ifNo X0.here hx rfl (hb hby d7_17) rfl ((if0 _ _).trans (flt (hhi : ¬ ((0 : Int32) < (lcmpW x (127 : Int64))))).2.2.1) ?_
        show Steps p.tables e below (s₁.setTop (mkF m 20 #[.val (.long x), .second, .val (.int (128 : Int32))] [])) t
        refine st9 _ ?_
        show Steps p.tables e below (T9.setTop (mkF m 23 #[.val (.long x), .second, .val (.int (128 : Int32))] [(.ref wcJ)])) t
        refine XS.lloadN X9.here hx rfl (hb hby d7_23) rfl ?_
        show Steps p.tables e below (T9.setTop (mkF m 24 #[.val (.long x), .second, .val (.int (128 : Int32))] [(.long x), (.ref wcJ)])) t
        refine XS.l2i X9.here hx rfl (hb hby d7_24) rfl ?_
        show Steps p.tables e below (T9.setTop (mkF m 25 #[.val (.long x), .second, .val (.int (128 : Int32))] [(.int (x.toInt32)), (.ref wcJ)])) t
        refine XS.sipush X9.here hx rfl (hb hby d7_25) ?_
        show Steps p.tables e below (T9.setTop (mkF m 28 #[.val (.long x), .second, .val (.int (128 : Int32))] [(.int (128 : Int32)), (.int (x.toInt32)), (.ref wcJ)])) t
        refine XS.iadd X9.here hx rfl (hb hby d7_28) rfl ?_
        show Steps p.tables e below (T9.setTop (mkF m 29 #[.val (.long x), .second, .val (.int (128 : Int32))] [(.int ((x.toInt32) + (128 : Int32))), (.ref wcJ)])) t
        refine X9.aaload hx (j := ((x.toInt32) + (128 : Int32))) (v := (.ref b10)) (by rw [e9]; exact Ar10.1) (State.isArrayOf_alike hZ.alike Ar10.2.1) rfl Ar10.2.2 in10 at10 (g := (mkF m 29 #[.val (.long x), .second, .val (.int (128 : Int32))] [(.int ((x.toInt32) + (128 : Int32))), (.ref wcJ)])) rfl rfl (hb hby d7_29) _ ?_
        exact k
      obtain ⟨fs, hr, hrun, hended, hW, hsame⟩ := X9.leave (v := some (.ref b10)) (fun h => by rw [Bd.returns] at h; cases h)
      refine ⟨_, _, R11 _ ?_, hrun, hended, _, _, rfl, ?_, ⟨_, rfl⟩, hW, hsame.mono (by decide) (by decide)⟩
      · show Steps p.tables e below (T9.setTop (mkF m 30 #[.val (.long x), .second, .val (.int (128 : Int32))] [(.ref b10)])) _
        exact retOut X9 hx Bd.returns rfl (Or.inr (Or.inr (Or.inr (Or.inr ⟨rfl, rfl, rfl⟩)))) (hb hby d7_30) hr
      · show Q_valueOfJ Z wcI ccI wcJ ccJ x h0 n0 _ T9.heap _
        rw [e9]
        exact ⟨b10, rfl, N0, K0, (Eb10.ext O0.2)⟩
theorem d1_0 : decode prog_23_method_1_code 0 = .ok (.aload_n 0, 1) := by decide +kernel
theorem d1_1 : decode prog_23_method_1_code 1 = .ok (.invokespecial 1, 3) := by decide +kernel
theorem d1_4 : decode prog_23_method_1_code 4 = .ok (.aload_n 0, 1) := by decide +kernel
theorem d1_5 : decode prog_23_method_1_code 5 = .ok (.lload_n 1, 1) := by decide +kernel
theorem d1_6 : decode prog_23_method_1_code 6 = .ok (.putfield 7, 3) := by decide +kernel
theorem d1_9 : decode prog_23_method_1_code 9 = .ok (.aload_n 0, 1) := by decide +kernel
theorem d1_10 : decode prog_23_method_1_code 10 = .ok (.iload_n 3, 1) := by decide +kernel
theorem d1_11 : decode prog_23_method_1_code 11 = .ok (.putfield 13, 3) := by decide +kernel
theorem d1_14 : decode prog_23_method_1_code 14 = .ok (.return_, 1) := by decide +kernel
theorem pn_com_example_ballot_ballot_model_Vote : plainName "com/example/ballot/ballot/model/Vote" = true := by first | (simp [plainName, overriddenIn]; done) | decide +kernel
theorem ef_vinit (m : MethodId) (a : Addr) (q : Int64) (x : Int32) (u1 : Value) (u2 : Value) : entryFrame m #[(.ref a), (.long q), (.int x)] 4 = mkF m 0 #[.val (.ref a), .val (.long q), .second, .val (.int x)] [] := by first | (simp [entryFrame, mkF, argsToLocals, Value.category]; done) | rfl
def Q_vinit (Z : State) (wcI : Addr) (ccI : Cell) (wcJ : Addr) (ccJ : Cell) (a : Addr) (q : Int64) (x : Int32) (u1 : Value) (u2 : Value) (h0 : Heap) (n0 : Nat) (vv_ : Option Value) (hh_ : Heap) (LL_ : List Loc) : Prop := vv_ = none ∧ (Fr n0 LL_) ∧ (Keep h0 hh_ [a]) ∧ (Exa Z hh_ a "com/example/ballot/ballot/model/Vote") ∧ (Fld Z hh_ a "com/example/ballot/ballot/model/Vote" "epoch" "J" (.long q)) ∧ (Fld Z hh_ a "com/example/ballot/ballot/model/Vote" "candidate" "I" (.int x))
set_option maxRecDepth 65536 in
set_option maxHeartbeats 40000000 in
theorem vinit (l : Launch) (Z : State) (a0 : Array Value) (hw : ∀ d ∈ tables_1, d.before a0 Z = true) (ws : List Jvm.Cond) (wcI : Addr) (ccI : Cell) (wcJ : Addr) (ccJ : Cell) (a : Addr) (q : Int64) (x : Int32) (u1 : Value) (u2 : Value) (h0 : Heap) (n0 : Nat) (O0 : Old Z n0 h0) (S_cI : Sta Z Z.heap "java/lang/Integer$IntegerCache" "cache" "[Ljava/lang/Integer;" (.ref wcI)) (B_cI : Bxs Z wcI ccI "java/lang/Integer" "I" 256 (fun j => .int (j - 128))) (S_hi : Sta Z Z.heap "java/lang/Integer$IntegerCache" "high" "I" (.int (127 : Int32))) (S_cJ : Sta Z Z.heap "java/lang/Long$LongCache" "cache" "[Ljava/lang/Long;" (.ref wcJ)) (B_cJ : Bxs Z wcJ ccJ "java/lang/Long" "J" 256 (fun j => .long (j - 128).toInt64)) (g_a : n0 ≤ a) (Ea : Exa Z h0 a "com/example/ballot/ballot/model/Vote") (F1 : Fld Z h0 a "com/example/ballot/ballot/model/Vote" "epoch" "J" u1) (F2 : Fld Z h0 a "com/example/ballot/ballot/model/Vote" "candidate" "I" u2) :
    MetFree l (⟨"com/example/ballot/ballot/model/Vote", "<init>", "(JI)V"⟩ : MethodName) (head1 (Jvm.Cond.code (⟨"com/example/ballot/ballot/model/Vote", "<init>", "(JI)V"⟩ : MethodName) prog_23_method_1_code 4 none :: ws) ({ frames := 1, cells := 0, slots := 0, locals := 12 } : Room)) (fun aa_ U_ => aa_ = #[(.ref a), (.long q), (.int x)] ∧ Z.Warmed39 U_.vm ∧ U_.heap = h0) (fun _ _ _ _ _ => True) (fun _ U_ oo_ V_ => ∃ vv_ LL_, oo_ = .returned vv_ ∧ Q_vinit Z wcI ccI wcJ ccJ a q x u1 u2 h0 n0 vv_ V_.heap LL_ ∧ FrameEnd U_ oo_ V_ LL_ ({ frames := 1, cells := 0, slots := 0, locals := 12 } : Room).cells ({ frames := 1, cells := 0, slots := 0, locals := 12 } : Room).slots) := by
  refine MetFree.of_bodySF (plainFor_of_name pn_com_example_ballot_ballot_model_Vote) hisR ?_
  intro p e s m args below meth c s₁ Bd hml0 hP hK
  obtain ⟨rfl, hZ, hh⟩ := hP
  have hx := Bd.exec
  have hby := Bd.bytes
  have hml : c.maxLocals = 4 := hml0
  have hown : s.vm.findClass "com/example/ballot/ballot/model/Vote" = some m.cls := findClass_of_methodNamed Bd.named
  have hnm := (name_of_methodNamed Bd.named Bd.method).1
  have X0 : Stand p l e ({ frames := 1, cells := 0, slots := 0, locals := 12 } : Room) s m #[(.ref a), (.long q), (.int x)] below meth c s₁ [] 0 0 := Stand.of_body Bd
  have e0 : s₁.heap = h0 := by rw [← hh, Bd.state]; rfl
  have N0 := Fr.nil n0
  have Z0 : n0 ≤ h0.size := O0.1 ▸ O0.2.1
  have hk0 := Nat.zero_le h0.size
  have K0 : Keep h0 h0 [a] := Keep.refl _ _
  have R0 : ∀ t, Steps p.tables e below (s₁.setTop (mkF m 0 #[.val (.ref a), .val (.long q), .second, .val (.int x)] [])) t → Steps p.tables e below (s₁.setTop (entryFrame m #[(.ref a), (.long q), (.int x)] 4)) t := fun t k => castTop (ef_vinit m a q x u1 u2) k
  obtain ⟨T1, X1, e1, st1⟩ := initO X0 hx hZ hown (hw _ (List.mem_of_getElem? (i := 6) rfl)) (hw _ (List.mem_of_getElem? (i := 7) rfl)) (hw _ (List.mem_of_getElem? (i := 8) rfl)) e0 (g := (mkF m 1 #[.val (.ref a), .val (.long q), .second, .val (.int x)] [(.ref a)])) rfl (by rw [hml]; rfl) rfl (hb hby d1_1) (by decide) (W := 0) (by show 2 * 0 + _ ≤ _; exact Nat.le_of_eq rfl) (by decide)
  obtain ⟨T2, h2, X2, e2, W2, st2⟩ := putF X1 hx hZ hown (host := "") (Or.inl (hw _ (List.mem_of_getElem? (i := 9) rfl))) Via.refl e1 F1 Ea (Or.inr ⟨(hw _ (List.mem_of_getElem? (i := 10) rfl)), rfl, hnm⟩) (hw _ (List.mem_of_getElem? (i := 1) rfl)) (ty := .long) (by decide) rfl rfl (g := (mkF m 6 #[.val (.ref a), .val (.long q), .second, .val (.int x)] [(.long q), (.ref a)])) rfl rfl (hb hby d1_6)
  have Z2 : n0 ≤ h2.size := Nat.le_trans Z0 (Keep.of_wr W2).1
  have K2 : Keep h0 h2 [a] := K0.wr W2 (Or.inl (List.mem_of_getElem? (i := 0) rfl))
  have O2 : Old Z n0 h2 := O0.wr W2 g_a
  have N2 := Fr.snoc X2 N0 g_a
  have fw2 : Fld Z h2 a "com/example/ballot/ballot/model/Vote" "epoch" "J" (.long q) := F1.same W2
  have f4 : Exa Z h2 a "com/example/ballot/ballot/model/Vote" := (Ea.wr W2)
  have f5 : Fld Z h2 a "com/example/ballot/ballot/model/Vote" "candidate" "I" u2 := (F2.other W2 (Or.inr (slot_ne (Or.inr (hw _ (List.mem_of_getElem? (i := 12) rfl))) (Or.inr (hw _ (List.mem_of_getElem? (i := 10) rfl))) (by decide) (t := .int) (t' := .long) (by decide) (by decide))))
  obtain ⟨T3, h3, X3, e3, W3, st3⟩ := putF X2 hx hZ hown (host := "") (Or.inl (hw _ (List.mem_of_getElem? (i := 11) rfl))) Via.refl e2 f5 f4 (Or.inr ⟨(hw _ (List.mem_of_getElem? (i := 12) rfl)), rfl, hnm⟩) (hw _ (List.mem_of_getElem? (i := 1) rfl)) (ty := .int) (by decide) rfl rfl (g := (mkF m 11 #[.val (.ref a), .val (.long q), .second, .val (.int x)] [(.int x), (.ref a)])) rfl rfl (hb hby d1_11)
  have Z3 : n0 ≤ h3.size := Nat.le_trans Z2 (Keep.of_wr W3).1
  have K3 : Keep h0 h3 [a] := K2.wr W3 (Or.inl (List.mem_of_getElem? (i := 0) rfl))
  have O3 : Old Z n0 h3 := O2.wr W3 g_a
  have N3 := Fr.snoc X3 N2 g_a
  have fw3 : Fld Z h3 a "com/example/ballot/ballot/model/Vote" "candidate" "I" (.int x) := f5.same W3
  have R6 : ∀ t, Steps p.tables e below (T3.setTop (mkF m 14 #[.val (.ref a), .val (.long q), .second, .val (.int x)] [])) t → Steps p.tables e below (s₁.setTop (entryFrame m #[(.ref a), (.long q), (.int x)] 4)) t := by
    intro t k
    refine R0 t ?_
    show Steps p.tables e below (s₁.setTop (mkF m 0 #[.val (.ref a), .val (.long q), .second, .val (.int x)] [])) t
    refine XS.aloadN X0.here hx rfl (hb hby d1_0) rfl rfl ?_
    show Steps p.tables e below (s₁.setTop (mkF m 1 #[.val (.ref a), .val (.long q), .second, .val (.int x)] [(.ref a)])) t
    refine st1 _ ?_
    show Steps p.tables e below (T1.setTop (mkF m 4 #[.val (.ref a), .val (.long q), .second, .val (.int x)] [])) t
    refine XS.aloadN X1.here hx rfl (hb hby d1_4) rfl rfl ?_
    show Steps p.tables e below (T1.setTop (mkF m 5 #[.val (.ref a), .val (.long q), .second, .val (.int x)] [(.ref a)])) t
    refine XS.lloadN X1.here hx rfl (hb hby d1_5) rfl ?_
    show Steps p.tables e below (T1.setTop (mkF m 6 #[.val (.ref a), .val (.long q), .second, .val (.int x)] [(.long q), (.ref a)])) t
    refine st2 _ ?_
    show Steps p.tables e below (T2.setTop (mkF m 9 #[.val (.ref a), .val (.long q), .second, .val (.int x)] [])) t
    refine XS.aloadN X2.here hx rfl (hb hby d1_9) rfl rfl ?_
    show Steps p.tables e below (T2.setTop (mkF m 10 #[.val (.ref a), .val (.long q), .second, .val (.int x)] [(.ref a)])) t
    refine XS.iloadN X2.here hx rfl (hb hby d1_10) rfl ?_
    show Steps p.tables e below (T2.setTop (mkF m 11 #[.val (.ref a), .val (.long q), .second, .val (.int x)] [(.int x), (.ref a)])) t
    refine st3 _ ?_
    exact k
  have f7 : Exa Z h3 a "com/example/ballot/ballot/model/Vote" := (f4.wr W3)
  have f8 : Fld Z h3 a "com/example/ballot/ballot/model/Vote" "epoch" "J" (.long q) := (fw2.other W3 (Or.inr (slot_ne (Or.inr (hw _ (List.mem_of_getElem? (i := 10) rfl))) (Or.inr (hw _ (List.mem_of_getElem? (i := 12) rfl))) (by decide) (t := .long) (t' := .int) (by decide) (by decide))))
  obtain ⟨fs, hr, hrun, hended, hW, hsame⟩ := X3.leave (v := none) (fun _ => rfl)
  refine ⟨_, _, R6 _ ?_, hrun, hended, _, _, rfl, ?_, ⟨_, rfl⟩, hW, hsame.mono (by decide) (by decide)⟩
  · show Steps p.tables e below (T3.setTop (mkF m 14 #[.val (.ref a), .val (.long q), .second, .val (.int x)] [])) _
    exact X3.returnOut hx Bd.returns (hb hby d1_14) hr
  · show Q_vinit Z wcI ccI wcJ ccJ a q x u1 u2 h0 n0 _ T3.heap _
    rw [e3]
    exact ⟨rfl, N3, K3, f7, f8, fw3⟩
theorem d4_0 : decode prog_23_method_4_code 0 = .ok (.aload_n 1, 1) := by decide +kernel
theorem d4_1 : decode prog_23_method_4_code 1 = .ok (.instanceof 8, 3) := by decide +kernel
theorem d4_4 : decode prog_23_method_4_code 4 = .ok (.ifCond .ne 5, 3) := by decide +kernel
theorem d4_9 : decode prog_23_method_4_code 9 = .ok (.aload_n 1, 1) := by decide +kernel
theorem d4_10 : decode prog_23_method_4_code 10 = .ok (.checkcast 8, 3) := by decide +kernel
theorem d4_13 : decode prog_23_method_4_code 13 = .ok (.astore_n 2, 1) := by decide +kernel
theorem d4_14 : decode prog_23_method_4_code 14 = .ok (.aload_n 0, 1) := by decide +kernel
theorem d4_15 : decode prog_23_method_4_code 15 = .ok (.getfield 7, 3) := by decide +kernel
theorem d4_18 : decode prog_23_method_4_code 18 = .ok (.aload_n 2, 1) := by decide +kernel
theorem d4_19 : decode prog_23_method_4_code 19 = .ok (.getfield 7, 3) := by decide +kernel
theorem d4_22 : decode prog_23_method_4_code 22 = .ok (.lcmp, 1) := by decide +kernel
theorem d4_23 : decode prog_23_method_4_code 23 = .ok (.ifCond .ne 18, 3) := by decide +kernel
theorem d4_26 : decode prog_23_method_4_code 26 = .ok (.aload_n 0, 1) := by decide +kernel
theorem d4_27 : decode prog_23_method_4_code 27 = .ok (.getfield 13, 3) := by decide +kernel
theorem d4_30 : decode prog_23_method_4_code 30 = .ok (.aload_n 2, 1) := by decide +kernel
theorem d4_31 : decode prog_23_method_4_code 31 = .ok (.getfield 13, 3) := by decide +kernel
theorem d4_34 : decode prog_23_method_4_code 34 = .ok (.if_icmp .ne 7, 3) := by decide +kernel
theorem d4_37 : decode prog_23_method_4_code 37 = .ok (.iconst 1, 1) := by decide +kernel
theorem d4_38 : decode prog_23_method_4_code 38 = .ok (.goto 4, 3) := by decide +kernel
theorem d4_42 : decode prog_23_method_4_code 42 = .ok (.ireturn, 1) := by decide +kernel
theorem ef_eqT (m : MethodId) (a : Addr) (b : Addr) (q1 : Int64) (q2 : Int64) (c1 : Int32) (c2 : Int32) : entryFrame m #[(.ref a), (.ref b)] 3 = mkF m 0 #[.val (.ref a), .val (.ref b), .unset] [] := by first | (simp [entryFrame, mkF, argsToLocals, Value.category]; done) | rfl
def Q_eqT (Z : State) (wcI : Addr) (ccI : Cell) (wcJ : Addr) (ccJ : Cell) (a : Addr) (b : Addr) (q1 : Int64) (q2 : Int64) (c1 : Int32) (c2 : Int32) (h0 : Heap) (n0 : Nat) (vv_ : Option Value) (hh_ : Heap) (LL_ : List Loc) : Prop := vv_ = some (.int (1 : Int32)) ∧ (Fr n0 LL_) ∧ (hh_ = h0)
set_option maxRecDepth 65536 in
set_option maxHeartbeats 40000000 in
theorem eqT (l : Launch) (Z : State) (a0 : Array Value) (hw : ∀ d ∈ tables_1, d.before a0 Z = true) (ws : List Jvm.Cond) (wcI : Addr) (ccI : Cell) (wcJ : Addr) (ccJ : Cell) (a : Addr) (b : Addr) (q1 : Int64) (q2 : Int64) (c1 : Int32) (c2 : Int32) (h0 : Heap) (n0 : Nat) (O0 : Old Z n0 h0) (S_cI : Sta Z Z.heap "java/lang/Integer$IntegerCache" "cache" "[Ljava/lang/Integer;" (.ref wcI)) (B_cI : Bxs Z wcI ccI "java/lang/Integer" "I" 256 (fun j => .int (j - 128))) (S_hi : Sta Z Z.heap "java/lang/Integer$IntegerCache" "high" "I" (.int (127 : Int32))) (S_cJ : Sta Z Z.heap "java/lang/Long$LongCache" "cache" "[Ljava/lang/Long;" (.ref wcJ)) (B_cJ : Bxs Z wcJ ccJ "java/lang/Long" "J" 256 (fun j => .long (j - 128).toInt64)) (Ea : Exa Z h0 a "com/example/ballot/ballot/model/Vote") (Eb : Exa Z h0 b "com/example/ballot/ballot/model/Vote") (Fa1 : Fld Z h0 a "com/example/ballot/ballot/model/Vote" "epoch" "J" (.long q1)) (Fb1 : Fld Z h0 b "com/example/ballot/ballot/model/Vote" "epoch" "J" (.long q2)) (Fa2 : Fld Z h0 a "com/example/ballot/ballot/model/Vote" "candidate" "I" (.int c1)) (Fb2 : Fld Z h0 b "com/example/ballot/ballot/model/Vote" "candidate" "I" (.int c2)) (hl : (lcmpW q1 q2) = (0 : Int32)) (hc : c1 = c2) :
    MetFree l (⟨"com/example/ballot/ballot/model/Vote", "equals", "(Ljava/lang/Object;)Z"⟩ : MethodName) (head1 (Jvm.Cond.code (⟨"com/example/ballot/ballot/model/Vote", "equals", "(Ljava/lang/Object;)Z"⟩ : MethodName) prog_23_method_4_code 3 (some .boolean) :: ws) ({ frames := 0, cells := 0, slots := 0, locals := 0 } : Room)) (fun aa_ U_ => aa_ = #[(.ref a), (.ref b)] ∧ Z.Warmed39 U_.vm ∧ U_.heap = h0) (fun _ _ _ _ _ => True) (fun _ U_ oo_ V_ => ∃ vv_ LL_, oo_ = .returned vv_ ∧ Q_eqT Z wcI ccI wcJ ccJ a b q1 q2 c1 c2 h0 n0 vv_ V_.heap LL_ ∧ FrameEnd U_ oo_ V_ LL_ ({ frames := 0, cells := 0, slots := 0, locals := 0 } : Room).cells ({ frames := 0, cells := 0, slots := 0, locals := 0 } : Room).slots) := by
  refine MetFree.of_bodySF (plainFor_of_name pn_com_example_ballot_ballot_model_Vote) hisR ?_
  intro p e s m args below meth c s₁ Bd hml0 hP hK
  obtain ⟨rfl, hZ, hh⟩ := hP
  have hx := Bd.exec
  have hby := Bd.bytes
  have hml : c.maxLocals = 3 := hml0
  have hown : s.vm.findClass "com/example/ballot/ballot/model/Vote" = some m.cls := findClass_of_methodNamed Bd.named
  have hnm := (name_of_methodNamed Bd.named Bd.method).1
  have X0 : Stand p l e ({ frames := 0, cells := 0, slots := 0, locals := 0 } : Room) s m #[(.ref a), (.ref b)] below meth c s₁ [] 0 0 := Stand.of_body Bd
  have e0 : s₁.heap = h0 := by rw [← hh, Bd.state]; rfl
  have N0 := Fr.nil n0
  have Z0 : n0 ≤ h0.size := O0.1 ▸ O0.2.1
  have hk0 := Nat.zero_le h0.size
  have K0 : Keep h0 h0 [] := Keep.refl _ _
  have R0 : ∀ t, Steps p.tables e below (s₁.setTop (mkF m 0 #[.val (.ref a), .val (.ref b), .unset] [])) t → Steps p.tables e below (s₁.setTop (entryFrame m #[(.ref a), (.ref b)] 3)) t := fun t k => castTop (ef_eqT m a b q1 q2 c1 c2) k
  obtain ⟨T1, X1, e1, st1⟩ := instY X0 hx hZ hown (hw _ (List.mem_of_getElem? (i := 25) rfl)) e0 (Ins.self Eb) (g := (mkF m 1 #[.val (.ref a), .val (.ref b), .unset] [(.ref b)])) rfl rfl (hb hby d4_1)
  obtain ⟨T2, X2, e2, st2⟩ := castY X1 hx hZ hown (hw _ (List.mem_of_getElem? (i := 25) rfl)) e1 (Ins.self Eb) (g := (mkF m 10 #[.val (.ref a), .val (.ref b), .unset] [(.ref b)])) rfl rfl (hb hby d4_10)
  obtain ⟨T3, X3, e3, st3⟩ := getF X2 hx hZ hown (host := "") (Or.inl (hw _ (List.mem_of_getElem? (i := 9) rfl))) Via.refl e2 Fa1 (g := (mkF m 15 #[.val (.ref a), .val (.ref b), .val (.ref b)] [(.ref a)])) rfl rfl (hb hby d4_15)
  obtain ⟨T4, X4, e4, st4⟩ := getF X3 hx hZ hown (host := "") (Or.inl (hw _ (List.mem_of_getElem? (i := 9) rfl))) Via.refl e3 Fb1 (g := (mkF m 19 #[.val (.ref a), .val (.ref b), .val (.ref b)] [(.ref b), (.long q1)])) rfl rfl (hb hby d4_19)
  obtain ⟨T5, X5, e5, st5⟩ := getF X4 hx hZ hown (host := "") (Or.inl (hw _ (List.mem_of_getElem? (i := 11) rfl))) Via.refl e4 Fa2 (g := (mkF m 27 #[.val (.ref a), .val (.ref b), .val (.ref b)] [(.ref a)])) rfl rfl (hb hby d4_27)
  obtain ⟨T6, X6, e6, st6⟩ := getF X5 hx hZ hown (host := "") (Or.inl (hw _ (List.mem_of_getElem? (i := 11) rfl))) Via.refl e5 Fb2 (g := (mkF m 31 #[.val (.ref a), .val (.ref b), .val (.ref b)] [(.ref b), (.int c1)])) rfl rfl (hb hby d4_31)
  have R7 : ∀ t, Steps p.tables e below (T6.setTop (mkF m 42 #[.val (.ref a), .val (.ref b), .val (.ref b)] [(.int (1 : Int32))])) t → Steps p.tables e below (s₁.setTop (entryFrame m #[(.ref a), (.ref b)] 3)) t := by
    intro t k
    refine R0 t ?_
    show Steps p.tables e below (s₁.setTop (mkF m 0 #[.val (.ref a), .val (.ref b), .unset] [])) t
    refine XS.aloadN X0.here hx rfl (hb hby d4_0) rfl rfl ?_
    show Steps p.tables e below (s₁.setTop (mkF m 1 #[.val (.ref a), .val (.ref b), .unset] [(.ref b)])) t
    refine st1 _ ?_
    show Steps p.tables e below (T1.setTop (mkF m 4 #[.val (.ref a), .val (.ref b), .unset] [(.int (1 : Int32))])) t
    refine XS.ifYes X1.here hx rfl (pc0 := 4) (pc' := 9) rfl (hb hby d4_4) rfl ((if0 _ _).trans (feq ((by decide) : ¬ ((1 : Int32) = (0 : Int32)))).2) (by decide) (by decide) ?_
    show Steps p.tables e below (T1.setTop (mkF m 9 #[.val (.ref a), .val (.ref b), .unset] [])) t
    refine XS.aloadN X1.here hx rfl (hb hby d4_9) rfl rfl ?_
    show Steps p.tables e below (T1.setTop (mkF m 10 #[.val (.ref a), .val (.ref b), .unset] [(.ref b)])) t
    refine st2 _ ?_
    show Steps p.tables e below (T2.setTop (mkF m 13 #[.val (.ref a), .val (.ref b), .unset] [(.ref b)])) t
    refine XS.astoreN X2.here hx rfl (hb hby d4_13) rfl rfl (l' := #[.val (.ref a), .val (.ref b), .val (.ref b)]) rfl ?_
    show Steps p.tables e below (T2.setTop (mkF m 14 #[.val (.ref a), .val (.ref b), .val (.ref b)] [])) t
    refine XS.aloadN X2.here hx rfl (hb hby d4_14) rfl rfl ?_
    show Steps p.tables e below (T2.setTop (mkF m 15 #[.val (.ref a), .val (.ref b), .val (.ref b)] [(.ref a)])) t
    refine st3 _ ?_
    show Steps p.tables e below (T3.setTop (mkF m 18 #[.val (.ref a), .val (.ref b), .val (.ref b)] [(.long q1)])) t
    refine XS.aloadN X3.here hx rfl (hb hby d4_18) rfl rfl ?_
    show Steps p.tables e below (T3.setTop (mkF m 19 #[.val (.ref a), .val (.ref b), .val (.ref b)] [(.ref b), (.long q1)])) t
    refine st4 _ ?_
    show Steps p.tables e below (T4.setTop (mkF m 22 #[.val (.ref a), .val (.ref b), .val (.ref b)] [(.long q2), (.long q1)])) t
    refine XS.lcmp X4.here hx rfl (hb hby d4_22) rfl ?_
    show Steps p.tables e below (T4.setTop (mkF m 23 #[.val (.ref a), .val (.ref b), .val (.ref b)] [(.int (lcmpW q1 q2))])) t
    refine XS.ifNo X4.here hx rfl (hb hby d4_23) rfl ((if0 _ _).trans (teq (hl : (lcmpW q1 q2) = (0 : Int32))).2) ?_
    show Steps p.tables e below (T4.setTop (mkF m 26 #[.val (.ref a), .val (.ref b), .val (.ref b)] [])) t
    refine XS.aloadN X4.here hx rfl (hb hby d4_26) rfl rfl ?_
    show Steps p.tables e below (T4.setTop (mkF m 27 #[.val (.ref a), .val (.ref b), .val (.ref b)] [(.ref a)])) t
    refine st5 _ ?_
    show Steps p.tables e below (T5.setTop (mkF m 30 #[.val (.ref a), .val (.ref b), .val (.ref b)] [(.int c1)])) t
    refine XS.aloadN X5.here hx rfl (hb hby d4_30) rfl rfl ?_
    show Steps p.tables e below (T5.setTop (mkF m 31 #[.val (.ref a), .val (.ref b), .val (.ref b)] [(.ref b), (.int c1)])) t
    refine st6 _ ?_
    show Steps p.tables e below (T6.setTop (mkF m 34 #[.val (.ref a), .val (.ref b), .val (.ref b)] [(.int c2), (.int c1)])) t
    refine XS.icmpNo X6.here hx rfl (hb hby d4_34) rfl (teq (hc : c1 = c2)).2 ?_
    show Steps p.tables e below (T6.setTop (mkF m 37 #[.val (.ref a), .val (.ref b), .val (.ref b)] [])) t
    refine XS.iconst X6.here hx rfl (hb hby d4_37) ?_
    show Steps p.tables e below (T6.setTop (mkF m 38 #[.val (.ref a), .val (.ref b), .val (.ref b)] [(.int (1 : Int32))])) t
    refine XS.goto X6.here hx rfl (pc0 := 38) (pc' := 42) rfl (hb hby d4_38) (by decide) (by decide) ?_
    exact k
  obtain ⟨fs, hr, hrun, hended, hW, hsame⟩ := X6.leave (v := some (.int (1 : Int32))) (fun h => by rw [Bd.returns] at h; cases h)
  refine ⟨_, _, R7 _ ?_, hrun, hended, _, _, rfl, ?_, ⟨_, rfl⟩, hW, hsame.mono (by decide) (by decide)⟩
  · show Steps p.tables e below (T6.setTop (mkF m 42 #[.val (.ref a), .val (.ref b), .val (.ref b)] [(.int (1 : Int32))])) _
    exact retN X6 hx (t := .boolean) Bd.returns (by simp) (hb hby d4_42) hr
  · show Q_eqT Z wcI ccI wcJ ccJ a b q1 q2 c1 c2 h0 n0 _ T6.heap _
    rw [e6]
    exact ⟨rfl, N0, rfl⟩
theorem d4_41 : decode prog_23_method_4_code 41 = .ok (.iconst 0, 1) := by decide +kernel
theorem ef_eqF1 (m : MethodId) (a : Addr) (b : Addr) (q1 : Int64) (q2 : Int64) (c1 : Int32) (c2 : Int32) : entryFrame m #[(.ref a), (.ref b)] 3 = mkF m 0 #[.val (.ref a), .val (.ref b), .unset] [] := by first | (simp [entryFrame, mkF, argsToLocals, Value.category]; done) | rfl
def Q_eqF1 (Z : State) (wcI : Addr) (ccI : Cell) (wcJ : Addr) (ccJ : Cell) (a : Addr) (b : Addr) (q1 : Int64) (q2 : Int64) (c1 : Int32) (c2 : Int32) (h0 : Heap) (n0 : Nat) (vv_ : Option Value) (hh_ : Heap) (LL_ : List Loc) : Prop := vv_ = some (.int (0 : Int32)) ∧ (Fr n0 LL_) ∧ (hh_ = h0)
set_option maxRecDepth 65536 in
set_option maxHeartbeats 40000000 in
theorem eqF1 (l : Launch) (Z : State) (a0 : Array Value) (hw : ∀ d ∈ tables_1, d.before a0 Z = true) (ws : List Jvm.Cond) (wcI : Addr) (ccI : Cell) (wcJ : Addr) (ccJ : Cell) (a : Addr) (b : Addr) (q1 : Int64) (q2 : Int64) (c1 : Int32) (c2 : Int32) (h0 : Heap) (n0 : Nat) (O0 : Old Z n0 h0) (S_cI : Sta Z Z.heap "java/lang/Integer$IntegerCache" "cache" "[Ljava/lang/Integer;" (.ref wcI)) (B_cI : Bxs Z wcI ccI "java/lang/Integer" "I" 256 (fun j => .int (j - 128))) (S_hi : Sta Z Z.heap "java/lang/Integer$IntegerCache" "high" "I" (.int (127 : Int32))) (S_cJ : Sta Z Z.heap "java/lang/Long$LongCache" "cache" "[Ljava/lang/Long;" (.ref wcJ)) (B_cJ : Bxs Z wcJ ccJ "java/lang/Long" "J" 256 (fun j => .long (j - 128).toInt64)) (Ea : Exa Z h0 a "com/example/ballot/ballot/model/Vote") (Eb : Exa Z h0 b "com/example/ballot/ballot/model/Vote") (Fa1 : Fld Z h0 a "com/example/ballot/ballot/model/Vote" "epoch" "J" (.long q1)) (Fb1 : Fld Z h0 b "com/example/ballot/ballot/model/Vote" "epoch" "J" (.long q2)) (Fa2 : Fld Z h0 a "com/example/ballot/ballot/model/Vote" "candidate" "I" (.int c1)) (Fb2 : Fld Z h0 b "com/example/ballot/ballot/model/Vote" "candidate" "I" (.int c2)) (hl : ¬ ((lcmpW q1 q2) = (0 : Int32))) :
    MetFree l (⟨"com/example/ballot/ballot/model/Vote", "equals", "(Ljava/lang/Object;)Z"⟩ : MethodName) (head1 (Jvm.Cond.code (⟨"com/example/ballot/ballot/model/Vote", "equals", "(Ljava/lang/Object;)Z"⟩ : MethodName) prog_23_method_4_code 3 (some .boolean) :: ws) ({ frames := 0, cells := 0, slots := 0, locals := 0 } : Room)) (fun aa_ U_ => aa_ = #[(.ref a), (.ref b)] ∧ Z.Warmed39 U_.vm ∧ U_.heap = h0) (fun _ _ _ _ _ => True) (fun _ U_ oo_ V_ => ∃ vv_ LL_, oo_ = .returned vv_ ∧ Q_eqF1 Z wcI ccI wcJ ccJ a b q1 q2 c1 c2 h0 n0 vv_ V_.heap LL_ ∧ FrameEnd U_ oo_ V_ LL_ ({ frames := 0, cells := 0, slots := 0, locals := 0 } : Room).cells ({ frames := 0, cells := 0, slots := 0, locals := 0 } : Room).slots) := by
  refine MetFree.of_bodySF (plainFor_of_name pn_com_example_ballot_ballot_model_Vote) hisR ?_
  intro p e s m args below meth c s₁ Bd hml0 hP hK
  obtain ⟨rfl, hZ, hh⟩ := hP
  have hx := Bd.exec
  have hby := Bd.bytes
  have hml : c.maxLocals = 3 := hml0
  have hown : s.vm.findClass "com/example/ballot/ballot/model/Vote" = some m.cls := findClass_of_methodNamed Bd.named
  have hnm := (name_of_methodNamed Bd.named Bd.method).1
  have X0 : Stand p l e ({ frames := 0, cells := 0, slots := 0, locals := 0 } : Room) s m #[(.ref a), (.ref b)] below meth c s₁ [] 0 0 := Stand.of_body Bd
  have e0 : s₁.heap = h0 := by rw [← hh, Bd.state]; rfl
  have N0 := Fr.nil n0
  have Z0 : n0 ≤ h0.size := O0.1 ▸ O0.2.1
  have hk0 := Nat.zero_le h0.size
  have K0 : Keep h0 h0 [] := Keep.refl _ _
  have R0 : ∀ t, Steps p.tables e below (s₁.setTop (mkF m 0 #[.val (.ref a), .val (.ref b), .unset] [])) t → Steps p.tables e below (s₁.setTop (entryFrame m #[(.ref a), (.ref b)] 3)) t := fun t k => castTop (ef_eqF1 m a b q1 q2 c1 c2) k
  obtain ⟨T1, X1, e1, st1⟩ := instY X0 hx hZ hown (hw _ (List.mem_of_getElem? (i := 25) rfl)) e0 (Ins.self Eb) (g := (mkF m 1 #[.val (.ref a), .val (.ref b), .unset] [(.ref b)])) rfl rfl (hb hby d4_1)
  obtain ⟨T2, X2, e2, st2⟩ := castY X1 hx hZ hown (hw _ (List.mem_of_getElem? (i := 25) rfl)) e1 (Ins.self Eb) (g := (mkF m 10 #[.val (.ref a), .val (.ref b), .unset] [(.ref b)])) rfl rfl (hb hby d4_10)
  obtain ⟨T3, X3, e3, st3⟩ := getF X2 hx hZ hown (host := "") (Or.inl (hw _ (List.mem_of_getElem? (i := 9) rfl))) Via.refl e2 Fa1 (g := (mkF m 15 #[.val (.ref a), .val (.ref b), .val (.ref b)] [(.ref a)])) rfl rfl (hb hby d4_15)
  obtain ⟨T4, X4, e4, st4⟩ := getF X3 hx hZ hown (host := "") (Or.inl (hw _ (List.mem_of_getElem? (i := 9) rfl))) Via.refl e3 Fb1 (g := (mkF m 19 #[.val (.ref a), .val (.ref b), .val (.ref b)] [(.ref b), (.long q1)])) rfl rfl (hb hby d4_19)
  have R5 : ∀ t, Steps p.tables e below (T4.setTop (mkF m 42 #[.val (.ref a), .val (.ref b), .val (.ref b)] [(.int (0 : Int32))])) t → Steps p.tables e below (s₁.setTop (entryFrame m #[(.ref a), (.ref b)] 3)) t := by
    intro t k
    refine R0 t ?_
    show Steps p.tables e below (s₁.setTop (mkF m 0 #[.val (.ref a), .val (.ref b), .unset] [])) t
    refine XS.aloadN X0.here hx rfl (hb hby d4_0) rfl rfl ?_
    show Steps p.tables e below (s₁.setTop (mkF m 1 #[.val (.ref a), .val (.ref b), .unset] [(.ref b)])) t
    refine st1 _ ?_
    show Steps p.tables e below (T1.setTop (mkF m 4 #[.val (.ref a), .val (.ref b), .unset] [(.int (1 : Int32))])) t
    refine XS.ifYes X1.here hx rfl (pc0 := 4) (pc' := 9) rfl (hb hby d4_4) rfl ((if0 _ _).trans (feq ((by decide) : ¬ ((1 : Int32) = (0 : Int32)))).2) (by decide) (by decide) ?_
    show Steps p.tables e below (T1.setTop (mkF m 9 #[.val (.ref a), .val (.ref b), .unset] [])) t
    refine XS.aloadN X1.here hx rfl (hb hby d4_9) rfl rfl ?_
    show Steps p.tables e below (T1.setTop (mkF m 10 #[.val (.ref a), .val (.ref b), .unset] [(.ref b)])) t
    refine st2 _ ?_
    show Steps p.tables e below (T2.setTop (mkF m 13 #[.val (.ref a), .val (.ref b), .unset] [(.ref b)])) t
    refine XS.astoreN X2.here hx rfl (hb hby d4_13) rfl rfl (l' := #[.val (.ref a), .val (.ref b), .val (.ref b)]) rfl ?_
    show Steps p.tables e below (T2.setTop (mkF m 14 #[.val (.ref a), .val (.ref b), .val (.ref b)] [])) t
    refine XS.aloadN X2.here hx rfl (hb hby d4_14) rfl rfl ?_
    show Steps p.tables e below (T2.setTop (mkF m 15 #[.val (.ref a), .val (.ref b), .val (.ref b)] [(.ref a)])) t
    refine st3 _ ?_
    show Steps p.tables e below (T3.setTop (mkF m 18 #[.val (.ref a), .val (.ref b), .val (.ref b)] [(.long q1)])) t
    refine XS.aloadN X3.here hx rfl (hb hby d4_18) rfl rfl ?_
    show Steps p.tables e below (T3.setTop (mkF m 19 #[.val (.ref a), .val (.ref b), .val (.ref b)] [(.ref b), (.long q1)])) t
    refine st4 _ ?_
    show Steps p.tables e below (T4.setTop (mkF m 22 #[.val (.ref a), .val (.ref b), .val (.ref b)] [(.long q2), (.long q1)])) t
    refine XS.lcmp X4.here hx rfl (hb hby d4_22) rfl ?_
    show Steps p.tables e below (T4.setTop (mkF m 23 #[.val (.ref a), .val (.ref b), .val (.ref b)] [(.int (lcmpW q1 q2))])) t
    refine XS.ifYes X4.here hx rfl (pc0 := 23) (pc' := 41) rfl (hb hby d4_23) rfl ((if0 _ _).trans (feq (hl : ¬ ((lcmpW q1 q2) = (0 : Int32)))).2) (by decide) (by decide) ?_
    show Steps p.tables e below (T4.setTop (mkF m 41 #[.val (.ref a), .val (.ref b), .val (.ref b)] [])) t
    refine XS.iconst X4.here hx rfl (hb hby d4_41) ?_
    exact k
  obtain ⟨fs, hr, hrun, hended, hW, hsame⟩ := X4.leave (v := some (.int (0 : Int32))) (fun h => by rw [Bd.returns] at h; cases h)
  refine ⟨_, _, R5 _ ?_, hrun, hended, _, _, rfl, ?_, ⟨_, rfl⟩, hW, hsame.mono (by decide) (by decide)⟩
  · show Steps p.tables e below (T4.setTop (mkF m 42 #[.val (.ref a), .val (.ref b), .val (.ref b)] [(.int (0 : Int32))])) _
    exact retN X4 hx (t := .boolean) Bd.returns (by simp) (hb hby d4_42) hr
  · show Q_eqF1 Z wcI ccI wcJ ccJ a b q1 q2 c1 c2 h0 n0 _ T4.heap _
    rw [e4]
    exact ⟨rfl, N0, rfl⟩
theorem ef_eqF2 (m : MethodId) (a : Addr) (b : Addr) (q1 : Int64) (q2 : Int64) (c1 : Int32) (c2 : Int32) : entryFrame m #[(.ref a), (.ref b)] 3 = mkF m 0 #[.val (.ref a), .val (.ref b), .unset] [] := by first | (simp [entryFrame, mkF, argsToLocals, Value.category]; done) | rfl
def Q_eqF2 (Z : State) (wcI : Addr) (ccI : Cell) (wcJ : Addr) (ccJ : Cell) (a : Addr) (b : Addr) (q1 : Int64) (q2 : Int64) (c1 : Int32) (c2 : Int32) (h0 : Heap) (n0 : Nat) (vv_ : Option Value) (hh_ : Heap) (LL_ : List Loc) : Prop := vv_ = some (.int (0 : Int32)) ∧ (Fr n0 LL_) ∧ (hh_ = h0)
set_option maxRecDepth 65536 in
set_option maxHeartbeats 40000000 in
theorem eqF2 (l : Launch) (Z : State) (a0 : Array Value) (hw : ∀ d ∈ tables_1, d.before a0 Z = true) (ws : List Jvm.Cond) (wcI : Addr) (ccI : Cell) (wcJ : Addr) (ccJ : Cell) (a : Addr) (b : Addr) (q1 : Int64) (q2 : Int64) (c1 : Int32) (c2 : Int32) (h0 : Heap) (n0 : Nat) (O0 : Old Z n0 h0) (S_cI : Sta Z Z.heap "java/lang/Integer$IntegerCache" "cache" "[Ljava/lang/Integer;" (.ref wcI)) (B_cI : Bxs Z wcI ccI "java/lang/Integer" "I" 256 (fun j => .int (j - 128))) (S_hi : Sta Z Z.heap "java/lang/Integer$IntegerCache" "high" "I" (.int (127 : Int32))) (S_cJ : Sta Z Z.heap "java/lang/Long$LongCache" "cache" "[Ljava/lang/Long;" (.ref wcJ)) (B_cJ : Bxs Z wcJ ccJ "java/lang/Long" "J" 256 (fun j => .long (j - 128).toInt64)) (Ea : Exa Z h0 a "com/example/ballot/ballot/model/Vote") (Eb : Exa Z h0 b "com/example/ballot/ballot/model/Vote") (Fa1 : Fld Z h0 a "com/example/ballot/ballot/model/Vote" "epoch" "J" (.long q1)) (Fb1 : Fld Z h0 b "com/example/ballot/ballot/model/Vote" "epoch" "J" (.long q2)) (Fa2 : Fld Z h0 a "com/example/ballot/ballot/model/Vote" "candidate" "I" (.int c1)) (Fb2 : Fld Z h0 b "com/example/ballot/ballot/model/Vote" "candidate" "I" (.int c2)) (hl : (lcmpW q1 q2) = (0 : Int32)) (hc : ¬ (c1 = c2)) :
    MetFree l (⟨"com/example/ballot/ballot/model/Vote", "equals", "(Ljava/lang/Object;)Z"⟩ : MethodName) (head1 (Jvm.Cond.code (⟨"com/example/ballot/ballot/model/Vote", "equals", "(Ljava/lang/Object;)Z"⟩ : MethodName) prog_23_method_4_code 3 (some .boolean) :: ws) ({ frames := 0, cells := 0, slots := 0, locals := 0 } : Room)) (fun aa_ U_ => aa_ = #[(.ref a), (.ref b)] ∧ Z.Warmed39 U_.vm ∧ U_.heap = h0) (fun _ _ _ _ _ => True) (fun _ U_ oo_ V_ => ∃ vv_ LL_, oo_ = .returned vv_ ∧ Q_eqF2 Z wcI ccI wcJ ccJ a b q1 q2 c1 c2 h0 n0 vv_ V_.heap LL_ ∧ FrameEnd U_ oo_ V_ LL_ ({ frames := 0, cells := 0, slots := 0, locals := 0 } : Room).cells ({ frames := 0, cells := 0, slots := 0, locals := 0 } : Room).slots) := by
  refine MetFree.of_bodySF (plainFor_of_name pn_com_example_ballot_ballot_model_Vote) hisR ?_
  intro p e s m args below meth c s₁ Bd hml0 hP hK
  obtain ⟨rfl, hZ, hh⟩ := hP
  have hx := Bd.exec
  have hby := Bd.bytes
  have hml : c.maxLocals = 3 := hml0
  have hown : s.vm.findClass "com/example/ballot/ballot/model/Vote" = some m.cls := findClass_of_methodNamed Bd.named
  have hnm := (name_of_methodNamed Bd.named Bd.method).1
  have X0 : Stand p l e ({ frames := 0, cells := 0, slots := 0, locals := 0 } : Room) s m #[(.ref a), (.ref b)] below meth c s₁ [] 0 0 := Stand.of_body Bd
  have e0 : s₁.heap = h0 := by rw [← hh, Bd.state]; rfl
  have N0 := Fr.nil n0
  have Z0 : n0 ≤ h0.size := O0.1 ▸ O0.2.1
  have hk0 := Nat.zero_le h0.size
  have K0 : Keep h0 h0 [] := Keep.refl _ _
  have R0 : ∀ t, Steps p.tables e below (s₁.setTop (mkF m 0 #[.val (.ref a), .val (.ref b), .unset] [])) t → Steps p.tables e below (s₁.setTop (entryFrame m #[(.ref a), (.ref b)] 3)) t := fun t k => castTop (ef_eqF2 m a b q1 q2 c1 c2) k
  obtain ⟨T1, X1, e1, st1⟩ := instY X0 hx hZ hown (hw _ (List.mem_of_getElem? (i := 25) rfl)) e0 (Ins.self Eb) (g := (mkF m 1 #[.val (.ref a), .val (.ref b), .unset] [(.ref b)])) rfl rfl (hb hby d4_1)
  obtain ⟨T2, X2, e2, st2⟩ := castY X1 hx hZ hown (hw _ (List.mem_of_getElem? (i := 25) rfl)) e1 (Ins.self Eb) (g := (mkF m 10 #[.val (.ref a), .val (.ref b), .unset] [(.ref b)])) rfl rfl (hb hby d4_10)
  obtain ⟨T3, X3, e3, st3⟩ := getF X2 hx hZ hown (host := "") (Or.inl (hw _ (List.mem_of_getElem? (i := 9) rfl))) Via.refl e2 Fa1 (g := (mkF m 15 #[.val (.ref a), .val (.ref b), .val (.ref b)] [(.ref a)])) rfl rfl (hb hby d4_15)
  obtain ⟨T4, X4, e4, st4⟩ := getF X3 hx hZ hown (host := "") (Or.inl (hw _ (List.mem_of_getElem? (i := 9) rfl))) Via.refl e3 Fb1 (g := (mkF m 19 #[.val (.ref a), .val (.ref b), .val (.ref b)] [(.ref b), (.long q1)])) rfl rfl (hb hby d4_19)
  obtain ⟨T5, X5, e5, st5⟩ := getF X4 hx hZ hown (host := "") (Or.inl (hw _ (List.mem_of_getElem? (i := 11) rfl))) Via.refl e4 Fa2 (g := (mkF m 27 #[.val (.ref a), .val (.ref b), .val (.ref b)] [(.ref a)])) rfl rfl (hb hby d4_27)
  obtain ⟨T6, X6, e6, st6⟩ := getF X5 hx hZ hown (host := "") (Or.inl (hw _ (List.mem_of_getElem? (i := 11) rfl))) Via.refl e5 Fb2 (g := (mkF m 31 #[.val (.ref a), .val (.ref b), .val (.ref b)] [(.ref b), (.int c1)])) rfl rfl (hb hby d4_31)
  have R7 : ∀ t, Steps p.tables e below (T6.setTop (mkF m 42 #[.val (.ref a), .val (.ref b), .val (.ref b)] [(.int (0 : Int32))])) t → Steps p.tables e below (s₁.setTop (entryFrame m #[(.ref a), (.ref b)] 3)) t := by
    intro t k
    refine R0 t ?_
    show Steps p.tables e below (s₁.setTop (mkF m 0 #[.val (.ref a), .val (.ref b), .unset] [])) t
    refine XS.aloadN X0.here hx rfl (hb hby d4_0) rfl rfl ?_
    show Steps p.tables e below (s₁.setTop (mkF m 1 #[.val (.ref a), .val (.ref b), .unset] [(.ref b)])) t
    refine st1 _ ?_
    show Steps p.tables e below (T1.setTop (mkF m 4 #[.val (.ref a), .val (.ref b), .unset] [(.int (1 : Int32))])) t
    refine XS.ifYes X1.here hx rfl (pc0 := 4) (pc' := 9) rfl (hb hby d4_4) rfl ((if0 _ _).trans (feq ((by decide) : ¬ ((1 : Int32) = (0 : Int32)))).2) (by decide) (by decide) ?_
    show Steps p.tables e below (T1.setTop (mkF m 9 #[.val (.ref a), .val (.ref b), .unset] [])) t
    refine XS.aloadN X1.here hx rfl (hb hby d4_9) rfl rfl ?_
    show Steps p.tables e below (T1.setTop (mkF m 10 #[.val (.ref a), .val (.ref b), .unset] [(.ref b)])) t
    refine st2 _ ?_
    show Steps p.tables e below (T2.setTop (mkF m 13 #[.val (.ref a), .val (.ref b), .unset] [(.ref b)])) t
    refine XS.astoreN X2.here hx rfl (hb hby d4_13) rfl rfl (l' := #[.val (.ref a), .val (.ref b), .val (.ref b)]) rfl ?_
    show Steps p.tables e below (T2.setTop (mkF m 14 #[.val (.ref a), .val (.ref b), .val (.ref b)] [])) t
    refine XS.aloadN X2.here hx rfl (hb hby d4_14) rfl rfl ?_
    show Steps p.tables e below (T2.setTop (mkF m 15 #[.val (.ref a), .val (.ref b), .val (.ref b)] [(.ref a)])) t
    refine st3 _ ?_
    show Steps p.tables e below (T3.setTop (mkF m 18 #[.val (.ref a), .val (.ref b), .val (.ref b)] [(.long q1)])) t
    refine XS.aloadN X3.here hx rfl (hb hby d4_18) rfl rfl ?_
    show Steps p.tables e below (T3.setTop (mkF m 19 #[.val (.ref a), .val (.ref b), .val (.ref b)] [(.ref b), (.long q1)])) t
    refine st4 _ ?_
    show Steps p.tables e below (T4.setTop (mkF m 22 #[.val (.ref a), .val (.ref b), .val (.ref b)] [(.long q2), (.long q1)])) t
    refine XS.lcmp X4.here hx rfl (hb hby d4_22) rfl ?_
    show Steps p.tables e below (T4.setTop (mkF m 23 #[.val (.ref a), .val (.ref b), .val (.ref b)] [(.int (lcmpW q1 q2))])) t
    refine XS.ifNo X4.here hx rfl (hb hby d4_23) rfl ((if0 _ _).trans (teq (hl : (lcmpW q1 q2) = (0 : Int32))).2) ?_
    show Steps p.tables e below (T4.setTop (mkF m 26 #[.val (.ref a), .val (.ref b), .val (.ref b)] [])) t
    refine XS.aloadN X4.here hx rfl (hb hby d4_26) rfl rfl ?_
    show Steps p.tables e below (T4.setTop (mkF m 27 #[.val (.ref a), .val (.ref b), .val (.ref b)] [(.ref a)])) t
    refine st5 _ ?_
    show Steps p.tables e below (T5.setTop (mkF m 30 #[.val (.ref a), .val (.ref b), .val (.ref b)] [(.int c1)])) t
    refine XS.aloadN X5.here hx rfl (hb hby d4_30) rfl rfl ?_
    show Steps p.tables e below (T5.setTop (mkF m 31 #[.val (.ref a), .val (.ref b), .val (.ref b)] [(.ref b), (.int c1)])) t
    refine st6 _ ?_
    show Steps p.tables e below (T6.setTop (mkF m 34 #[.val (.ref a), .val (.ref b), .val (.ref b)] [(.int c2), (.int c1)])) t
    refine XS.icmpYes X6.here hx rfl (pc0 := 34) (pc' := 41) rfl (hb hby d4_34) rfl (feq (hc : ¬ (c1 = c2))).2 (by decide) (by decide) ?_
    show Steps p.tables e below (T6.setTop (mkF m 41 #[.val (.ref a), .val (.ref b), .val (.ref b)] [])) t
    refine XS.iconst X6.here hx rfl (hb hby d4_41) ?_
    exact k
  obtain ⟨fs, hr, hrun, hended, hW, hsame⟩ := X6.leave (v := some (.int (0 : Int32))) (fun h => by rw [Bd.returns] at h; cases h)
  refine ⟨_, _, R7 _ ?_, hrun, hended, _, _, rfl, ?_, ⟨_, rfl⟩, hW, hsame.mono (by decide) (by decide)⟩
  · show Steps p.tables e below (T6.setTop (mkF m 42 #[.val (.ref a), .val (.ref b), .val (.ref b)] [(.int (0 : Int32))])) _
    exact retN X6 hx (t := .boolean) Bd.returns (by simp) (hb hby d4_42) hr
  · show Q_eqF2 Z wcI ccI wcJ ccJ a b q1 q2 c1 c2 h0 n0 _ T6.heap _
    rw [e6]
    exact ⟨rfl, N0, rfl⟩
theorem d4_7 : decode prog_23_method_4_code 7 = .ok (.iconst 0, 1) := by decide +kernel
theorem d4_8 : decode prog_23_method_4_code 8 = .ok (.ireturn, 1) := by decide +kernel
theorem ef_eqN (m : MethodId) (a : Addr) : entryFrame m #[(.ref a), .null] 3 = mkF m 0 #[.val (.ref a), .val .null, .unset] [] := by first | (simp [entryFrame, mkF, argsToLocals, Value.category]; done) | rfl
def Q_eqN (Z : State) (wcI : Addr) (ccI : Cell) (wcJ : Addr) (ccJ : Cell) (a : Addr) (h0 : Heap) (n0 : Nat) (vv_ : Option Value) (hh_ : Heap) (LL_ : List Loc) : Prop := vv_ = some (.int (0 : Int32)) ∧ (Fr n0 LL_) ∧ (hh_ = h0)
set_option maxRecDepth 65536 in
set_option maxHeartbeats 40000000 in
theorem eqN (l : Launch) (Z : State) (a0 : Array Value) (hw : ∀ d ∈ tables_1, d.before a0 Z = true) (ws : List Jvm.Cond) (wcI : Addr) (ccI : Cell) (wcJ : Addr) (ccJ : Cell) (a : Addr) (h0 : Heap) (n0 : Nat) (O0 : Old Z n0 h0) (S_cI : Sta Z Z.heap "java/lang/Integer$IntegerCache" "cache" "[Ljava/lang/Integer;" (.ref wcI)) (B_cI : Bxs Z wcI ccI "java/lang/Integer" "I" 256 (fun j => .int (j - 128))) (S_hi : Sta Z Z.heap "java/lang/Integer$IntegerCache" "high" "I" (.int (127 : Int32))) (S_cJ : Sta Z Z.heap "java/lang/Long$LongCache" "cache" "[Ljava/lang/Long;" (.ref wcJ)) (B_cJ : Bxs Z wcJ ccJ "java/lang/Long" "J" 256 (fun j => .long (j - 128).toInt64)) :
    MetFree l (⟨"com/example/ballot/ballot/model/Vote", "equals", "(Ljava/lang/Object;)Z"⟩ : MethodName) (head1 (Jvm.Cond.code (⟨"com/example/ballot/ballot/model/Vote", "equals", "(Ljava/lang/Object;)Z"⟩ : MethodName) prog_23_method_4_code 3 (some .boolean) :: ws) ({ frames := 0, cells := 0, slots := 0, locals := 0 } : Room)) (fun aa_ U_ => aa_ = #[(.ref a), .null] ∧ Z.Warmed39 U_.vm ∧ U_.heap = h0) (fun _ _ _ _ _ => True) (fun _ U_ oo_ V_ => ∃ vv_ LL_, oo_ = .returned vv_ ∧ Q_eqN Z wcI ccI wcJ ccJ a h0 n0 vv_ V_.heap LL_ ∧ FrameEnd U_ oo_ V_ LL_ ({ frames := 0, cells := 0, slots := 0, locals := 0 } : Room).cells ({ frames := 0, cells := 0, slots := 0, locals := 0 } : Room).slots) := by
  refine MetFree.of_bodySF (plainFor_of_name pn_com_example_ballot_ballot_model_Vote) hisR ?_
  intro p e s m args below meth c s₁ Bd hml0 hP hK
  obtain ⟨rfl, hZ, hh⟩ := hP
  have hx := Bd.exec
  have hby := Bd.bytes
  have hml : c.maxLocals = 3 := hml0
  have hown : s.vm.findClass "com/example/ballot/ballot/model/Vote" = some m.cls := findClass_of_methodNamed Bd.named
  have hnm := (name_of_methodNamed Bd.named Bd.method).1
  have X0 : Stand p l e ({ frames := 0, cells := 0, slots := 0, locals := 0 } : Room) s m #[(.ref a), .null] below meth c s₁ [] 0 0 := Stand.of_body Bd
  have e0 : s₁.heap = h0 := by rw [← hh, Bd.state]; rfl
  have N0 := Fr.nil n0
  have Z0 : n0 ≤ h0.size := O0.1 ▸ O0.2.1
  have hk0 := Nat.zero_le h0.size
  have K0 : Keep h0 h0 [] := Keep.refl _ _
  have R0 : ∀ t, Steps p.tables e below (s₁.setTop (mkF m 0 #[.val (.ref a), .val .null, .unset] [])) t → Steps p.tables e below (s₁.setTop (entryFrame m #[(.ref a), .null] 3)) t := fun t k => castTop (ef_eqN m a) k
  have R1 : ∀ t, Steps p.tables e below (s₁.setTop (mkF m 8 #[.val (.ref a), .val .null, .unset] [(.int (0 : Int32))])) t → Steps p.tables e below (s₁.setTop (entryFrame m #[(.ref a), .null] 3)) t := by
    intro t k
    refine R0 t ?_
    show Steps p.tables e below (s₁.setTop (mkF m 0 #[.val (.ref a), .val .null, .unset] [])) t
    refine XS.aloadN X0.here hx rfl (hb hby d4_0) rfl rfl ?_
    show Steps p.tables e below (s₁.setTop (mkF m 1 #[.val (.ref a), .val .null, .unset] [.null])) t
    refine X0.instanceofNull hx (g := (mkF m 1 #[.val (.ref a), .val .null, .unset] [.null])) rfl rfl (hb hby d4_1) _ ?_
    show Steps p.tables e below (s₁.setTop (mkF m 4 #[.val (.ref a), .val .null, .unset] [(.int (0 : Int32))])) t
    refine XS.ifNo X0.here hx rfl (hb hby d4_4) rfl ((if0 _ _).trans (teq ((by decide) : (0 : Int32) = (0 : Int32))).2) ?_
    show Steps p.tables e below (s₁.setTop (mkF m 7 #[.val (.ref a), .val .null, .unset] [])) t
    refine XS.iconst X0.here hx rfl (hb hby d4_7) ?_
    exact k
  obtain ⟨fs, hr, hrun, hended, hW, hsame⟩ := X0.leave (v := some (.int (0 : Int32))) (fun h => by rw [Bd.returns] at h; cases h)
  refine ⟨_, _, R1 _ ?_, hrun, hended, _, _, rfl, ?_, ⟨_, rfl⟩, hW, hsame.mono (by decide) (by decide)⟩
  · show Steps p.tables e below (s₁.setTop (mkF m 8 #[.val (.ref a), .val .null, .unset] [(.int (0 : Int32))])) _
    exact retN X0 hx (t := .boolean) Bd.returns (by simp) (hb hby d4_8) hr
  · show Q_eqN Z wcI ccI wcJ ccJ a h0 n0 _ s₁.heap _
    rw [e0]
    exact ⟨rfl, N0, rfl⟩
theorem ef_eqOI (m : MethodId) (a : Addr) (b : Addr) : entryFrame m #[(.ref a), (.ref b)] 3 = mkF m 0 #[.val (.ref a), .val (.ref b), .unset] [] := by first | (simp [entryFrame, mkF, argsToLocals, Value.category]; done) | rfl
def Q_eqOI (Z : State) (wcI : Addr) (ccI : Cell) (wcJ : Addr) (ccJ : Cell) (a : Addr) (b : Addr) (h0 : Heap) (n0 : Nat) (vv_ : Option Value) (hh_ : Heap) (LL_ : List Loc) : Prop := vv_ = some (.int (0 : Int32)) ∧ (Fr n0 LL_) ∧ (hh_ = h0)
set_option maxRecDepth 65536 in
set_option maxHeartbeats 40000000 in
theorem eqOI (l : Launch) (Z : State) (a0 : Array Value) (hw : ∀ d ∈ tables_1, d.before a0 Z = true) (ws : List Jvm.Cond) (wcI : Addr) (ccI : Cell) (wcJ : Addr) (ccJ : Cell) (a : Addr) (b : Addr) (h0 : Heap) (n0 : Nat) (O0 : Old Z n0 h0) (S_cI : Sta Z Z.heap "java/lang/Integer$IntegerCache" "cache" "[Ljava/lang/Integer;" (.ref wcI)) (B_cI : Bxs Z wcI ccI "java/lang/Integer" "I" 256 (fun j => .int (j - 128))) (S_hi : Sta Z Z.heap "java/lang/Integer$IntegerCache" "high" "I" (.int (127 : Int32))) (S_cJ : Sta Z Z.heap "java/lang/Long$LongCache" "cache" "[Ljava/lang/Long;" (.ref wcJ)) (B_cJ : Bxs Z wcJ ccJ "java/lang/Long" "J" 256 (fun j => .long (j - 128).toInt64)) (Eb : Exa Z h0 b "java/lang/Integer") :
    MetFree l (⟨"com/example/ballot/ballot/model/Vote", "equals", "(Ljava/lang/Object;)Z"⟩ : MethodName) (head1 (Jvm.Cond.code (⟨"com/example/ballot/ballot/model/Vote", "equals", "(Ljava/lang/Object;)Z"⟩ : MethodName) prog_23_method_4_code 3 (some .boolean) :: ws) ({ frames := 0, cells := 0, slots := 0, locals := 0 } : Room)) (fun aa_ U_ => aa_ = #[(.ref a), (.ref b)] ∧ Z.Warmed39 U_.vm ∧ U_.heap = h0) (fun _ _ _ _ _ => True) (fun _ U_ oo_ V_ => ∃ vv_ LL_, oo_ = .returned vv_ ∧ Q_eqOI Z wcI ccI wcJ ccJ a b h0 n0 vv_ V_.heap LL_ ∧ FrameEnd U_ oo_ V_ LL_ ({ frames := 0, cells := 0, slots := 0, locals := 0 } : Room).cells ({ frames := 0, cells := 0, slots := 0, locals := 0 } : Room).slots) := by
  refine MetFree.of_bodySF (plainFor_of_name pn_com_example_ballot_ballot_model_Vote) hisR ?_
  intro p e s m args below meth c s₁ Bd hml0 hP hK
  obtain ⟨rfl, hZ, hh⟩ := hP
  have hx := Bd.exec
  have hby := Bd.bytes
  have hml : c.maxLocals = 3 := hml0
  have hown : s.vm.findClass "com/example/ballot/ballot/model/Vote" = some m.cls := findClass_of_methodNamed Bd.named
  have hnm := (name_of_methodNamed Bd.named Bd.method).1
  have X0 : Stand p l e ({ frames := 0, cells := 0, slots := 0, locals := 0 } : Room) s m #[(.ref a), (.ref b)] below meth c s₁ [] 0 0 := Stand.of_body Bd
  have e0 : s₁.heap = h0 := by rw [← hh, Bd.state]; rfl
  have N0 := Fr.nil n0
  have Z0 : n0 ≤ h0.size := O0.1 ▸ O0.2.1
  have hk0 := Nat.zero_le h0.size
  have K0 : Keep h0 h0 [] := Keep.refl _ _
  have R0 : ∀ t, Steps p.tables e below (s₁.setTop (mkF m 0 #[.val (.ref a), .val (.ref b), .unset] [])) t → Steps p.tables e below (s₁.setTop (entryFrame m #[(.ref a), (.ref b)] 3)) t := fun t k => castTop (ef_eqOI m a b) k
  obtain ⟨T1, X1, e1, st1⟩ := instNo X0 hx hZ hown (hw _ (List.mem_of_getElem? (i := 25) rfl)) e0 Eb (own_nsN (hw _ (List.mem_of_getElem? (i := 27) rfl)) (hw _ (List.mem_of_getElem? (i := 1) rfl)) (NS.step (hw _ (List.mem_of_getElem? (i := 27) rfl)) (NS.step (hw _ (List.mem_of_getElem? (i := 28) rfl)) (own_nsR (hw _ (List.mem_of_getElem? (i := 29) rfl)) (hw _ (List.mem_of_getElem? (i := 1) rfl)) (by decide)) (by decide)) (by decide)) (by decide)) (g := (mkF m 1 #[.val (.ref a), .val (.ref b), .unset] [(.ref b)])) rfl rfl (hb hby d4_1)
  have R2 : ∀ t, Steps p.tables e below (T1.setTop (mkF m 8 #[.val (.ref a), .val (.ref b), .unset] [(.int (0 : Int32))])) t → Steps p.tables e below (s₁.setTop (entryFrame m #[(.ref a), (.ref b)] 3)) t := by
    intro t k
    refine R0 t ?_
    show Steps p.tables e below (s₁.setTop (mkF m 0 #[.val (.ref a), .val (.ref b), .unset] [])) t
    refine XS.aloadN X0.here hx rfl (hb hby d4_0) rfl rfl ?_
    show Steps p.tables e below (s₁.setTop (mkF m 1 #[.val (.ref a), .val (.ref b), .unset] [(.ref b)])) t
    refine st1 _ ?_
    show Steps p.tables e below (T1.setTop (mkF m 4 #[.val (.ref a), .val (.ref b), .unset] [(.int (0 : Int32))])) t
    refine XS.ifNo X1.here hx rfl (hb hby d4_4) rfl ((if0 _ _).trans (teq ((by decide) : (0 : Int32) = (0 : Int32))).2) ?_
    show Steps p.tables e below (T1.setTop (mkF m 7 #[.val (.ref a), .val (.ref b), .unset] [])) t
    refine XS.iconst X1.here hx rfl (hb hby d4_7) ?_
    exact k
  obtain ⟨fs, hr, hrun, hended, hW, hsame⟩ := X1.leave (v := some (.int (0 : Int32))) (fun h => by rw [Bd.returns] at h; cases h)
  refine ⟨_, _, R2 _ ?_, hrun, hended, _, _, rfl, ?_, ⟨_, rfl⟩, hW, hsame.mono (by decide) (by decide)⟩
  · show Steps p.tables e below (T1.setTop (mkF m 8 #[.val (.ref a), .val (.ref b), .unset] [(.int (0 : Int32))])) _
    exact retN X1 hx (t := .boolean) Bd.returns (by simp) (hb hby d4_8) hr
  · show Q_eqOI Z wcI ccI wcJ ccJ a b h0 n0 _ T1.heap _
    rw [e1]
    exact ⟨rfl, N0, rfl⟩
theorem ef_eqOJ (m : MethodId) (a : Addr) (b : Addr) : entryFrame m #[(.ref a), (.ref b)] 3 = mkF m 0 #[.val (.ref a), .val (.ref b), .unset] [] := by first | (simp [entryFrame, mkF, argsToLocals, Value.category]; done) | rfl
def Q_eqOJ (Z : State) (wcI : Addr) (ccI : Cell) (wcJ : Addr) (ccJ : Cell) (a : Addr) (b : Addr) (h0 : Heap) (n0 : Nat) (vv_ : Option Value) (hh_ : Heap) (LL_ : List Loc) : Prop := vv_ = some (.int (0 : Int32)) ∧ (Fr n0 LL_) ∧ (hh_ = h0)
set_option maxRecDepth 65536 in
set_option maxHeartbeats 40000000 in
theorem eqOJ (l : Launch) (Z : State) (a0 : Array Value) (hw : ∀ d ∈ tables_1, d.before a0 Z = true) (ws : List Jvm.Cond) (wcI : Addr) (ccI : Cell) (wcJ : Addr) (ccJ : Cell) (a : Addr) (b : Addr) (h0 : Heap) (n0 : Nat) (O0 : Old Z n0 h0) (S_cI : Sta Z Z.heap "java/lang/Integer$IntegerCache" "cache" "[Ljava/lang/Integer;" (.ref wcI)) (B_cI : Bxs Z wcI ccI "java/lang/Integer" "I" 256 (fun j => .int (j - 128))) (S_hi : Sta Z Z.heap "java/lang/Integer$IntegerCache" "high" "I" (.int (127 : Int32))) (S_cJ : Sta Z Z.heap "java/lang/Long$LongCache" "cache" "[Ljava/lang/Long;" (.ref wcJ)) (B_cJ : Bxs Z wcJ ccJ "java/lang/Long" "J" 256 (fun j => .long (j - 128).toInt64)) (Eb : Exa Z h0 b "java/lang/Long") :
    MetFree l (⟨"com/example/ballot/ballot/model/Vote", "equals", "(Ljava/lang/Object;)Z"⟩ : MethodName) (head1 (Jvm.Cond.code (⟨"com/example/ballot/ballot/model/Vote", "equals", "(Ljava/lang/Object;)Z"⟩ : MethodName) prog_23_method_4_code 3 (some .boolean) :: ws) ({ frames := 0, cells := 0, slots := 0, locals := 0 } : Room)) (fun aa_ U_ => aa_ = #[(.ref a), (.ref b)] ∧ Z.Warmed39 U_.vm ∧ U_.heap = h0) (fun _ _ _ _ _ => True) (fun _ U_ oo_ V_ => ∃ vv_ LL_, oo_ = .returned vv_ ∧ Q_eqOJ Z wcI ccI wcJ ccJ a b h0 n0 vv_ V_.heap LL_ ∧ FrameEnd U_ oo_ V_ LL_ ({ frames := 0, cells := 0, slots := 0, locals := 0 } : Room).cells ({ frames := 0, cells := 0, slots := 0, locals := 0 } : Room).slots) := by
  refine MetFree.of_bodySF (plainFor_of_name pn_com_example_ballot_ballot_model_Vote) hisR ?_
  intro p e s m args below meth c s₁ Bd hml0 hP hK
  obtain ⟨rfl, hZ, hh⟩ := hP
  have hx := Bd.exec
  have hby := Bd.bytes
  have hml : c.maxLocals = 3 := hml0
  have hown : s.vm.findClass "com/example/ballot/ballot/model/Vote" = some m.cls := findClass_of_methodNamed Bd.named
  have hnm := (name_of_methodNamed Bd.named Bd.method).1
  have X0 : Stand p l e ({ frames := 0, cells := 0, slots := 0, locals := 0 } : Room) s m #[(.ref a), (.ref b)] below meth c s₁ [] 0 0 := Stand.of_body Bd
  have e0 : s₁.heap = h0 := by rw [← hh, Bd.state]; rfl
  have N0 := Fr.nil n0
  have Z0 : n0 ≤ h0.size := O0.1 ▸ O0.2.1
  have hk0 := Nat.zero_le h0.size
  have K0 : Keep h0 h0 [] := Keep.refl _ _
  have R0 : ∀ t, Steps p.tables e below (s₁.setTop (mkF m 0 #[.val (.ref a), .val (.ref b), .unset] [])) t → Steps p.tables e below (s₁.setTop (entryFrame m #[(.ref a), (.ref b)] 3)) t := fun t k => castTop (ef_eqOJ m a b) k
  obtain ⟨T1, X1, e1, st1⟩ := instNo X0 hx hZ hown (hw _ (List.mem_of_getElem? (i := 25) rfl)) e0 Eb (own_nsN (hw _ (List.mem_of_getElem? (i := 53) rfl)) (hw _ (List.mem_of_getElem? (i := 1) rfl)) (NS.step (hw _ (List.mem_of_getElem? (i := 53) rfl)) (NS.step (hw _ (List.mem_of_getElem? (i := 28) rfl)) (own_nsR (hw _ (List.mem_of_getElem? (i := 29) rfl)) (hw _ (List.mem_of_getElem? (i := 1) rfl)) (by decide)) (by decide)) (by decide)) (by decide)) (g := (mkF m 1 #[.val (.ref a), .val (.ref b), .unset] [(.ref b)])) rfl rfl (hb hby d4_1)
  have R2 : ∀ t, Steps p.tables e below (T1.setTop (mkF m 8 #[.val (.ref a), .val (.ref b), .unset] [(.int (0 : Int32))])) t → Steps p.tables e below (s₁.setTop (entryFrame m #[(.ref a), (.ref b)] 3)) t := by
    intro t k
    refine R0 t ?_
    show Steps p.tables e below (s₁.setTop (mkF m 0 #[.val (.ref a), .val (.ref b), .unset] [])) t
    refine XS.aloadN X0.here hx rfl (hb hby d4_0) rfl rfl ?_
    show Steps p.tables e below (s₁.setTop (mkF m 1 #[.val (.ref a), .val (.ref b), .unset] [(.ref b)])) t
    refine st1 _ ?_
    show Steps p.tables e below (T1.setTop (mkF m 4 #[.val (.ref a), .val (.ref b), .unset] [(.int (0 : Int32))])) t
    refine XS.ifNo X1.here hx rfl (hb hby d4_4) rfl ((if0 _ _).trans (teq ((by decide) : (0 : Int32) = (0 : Int32))).2) ?_
    show Steps p.tables e below (T1.setTop (mkF m 7 #[.val (.ref a), .val (.ref b), .unset] [])) t
    refine XS.iconst X1.here hx rfl (hb hby d4_7) ?_
    exact k
  obtain ⟨fs, hr, hrun, hended, hW, hsame⟩ := X1.leave (v := some (.int (0 : Int32))) (fun h => by rw [Bd.returns] at h; cases h)
  refine ⟨_, _, R2 _ ?_, hrun, hended, _, _, rfl, ?_, ⟨_, rfl⟩, hW, hsame.mono (by decide) (by decide)⟩
  · show Steps p.tables e below (T1.setTop (mkF m 8 #[.val (.ref a), .val (.ref b), .unset] [(.int (0 : Int32))])) _
    exact retN X1 hx (t := .boolean) Bd.returns (by simp) (hb hby d4_8) hr
  · show Q_eqOJ Z wcI ccI wcJ ccJ a b h0 n0 _ T1.heap _
    rw [e1]
    exact ⟨rfl, N0, rfl⟩
theorem pd_3 : parseMethodDescriptor "(JI)V" = some ⟨[.long, .int], none⟩ := by decide +kernel
theorem pd_4 : parseMethodDescriptor "(I)Ljava/lang/Integer;" = some ⟨[.int], some (.object "java/lang/Integer")⟩ := by decide +kernel
theorem pd_5 : parseMethodDescriptor "(Ljava/lang/Object;)Z" = some ⟨[(.object "java/lang/Object")], some .boolean⟩ := by decide +kernel
theorem pd_6 : parseMethodDescriptor "(J)Ljava/lang/Long;" = some ⟨[.long], some (.object "java/lang/Long")⟩ := by decide +kernel
theorem pn_com_example_ballot_ballot_model_VoteEqualsPinLaw : plainName "com/example/ballot/ballot/model/VoteEqualsPinLaw" = true := by first | (simp [plainName, overriddenIn]; done) | decide +kernel
theorem ef_rm0 (m : MethodId) (e1 : Int64) (c1 : Int32) (e2 : Int64) (c2 : Int32) (fl : Int32) : entryFrame m #[(.long e1), (.int c1), (.long e2), (.int c2), (.int fl)] maxLocals = mkF m 0 #[.val (.long e1), .second, .val (.int c1), .val (.long e2), .second, .val (.int c2), .val (.int fl), .unset, .unset, .unset, .unset, .unset, .unset, .unset, .unset, .unset, .unset, .unset, .unset] [] := by first | (simp [entryFrame, mkF, argsToLocals, Value.category, maxLocals]; done) | rfl
def Q_rm0 (Z : State) (wcI : Addr) (ccI : Cell) (wcJ : Addr) (ccJ : Cell) (e1 : Int64) (c1 : Int32) (e2 : Int64) (c2 : Int32) (fl : Int32) (h0 : Heap) (n0 : Nat) (vv_ : Option Value) (hh_ : Heap) (LL_ : List Loc) : Prop := vv_ = some (.int (1 : Int32)) ∧ (Fr n0 LL_)
set_option maxRecDepth 65536 in
set_option maxHeartbeats 40000000 in
theorem rm0 (l : Launch) (Z : State) (a0 : Array Value) (hw : ∀ d ∈ tables_1, d.before a0 Z = true) (ws : List Jvm.Cond) (wcI : Addr) (ccI : Cell) (wcJ : Addr) (ccJ : Cell) (e1 : Int64) (c1 : Int32) (e2 : Int64) (c2 : Int32) (fl : Int32) (h0 : Heap) (n0 : Nat) (O0 : Old Z n0 h0) (S_cI : Sta Z Z.heap "java/lang/Integer$IntegerCache" "cache" "[Ljava/lang/Integer;" (.ref wcI)) (B_cI : Bxs Z wcI ccI "java/lang/Integer" "I" 256 (fun j => .int (j - 128))) (S_hi : Sta Z Z.heap "java/lang/Integer$IntegerCache" "high" "I" (.int (127 : Int32))) (S_cJ : Sta Z Z.heap "java/lang/Long$LongCache" "cache" "[Ljava/lang/Long;" (.ref wcJ)) (B_cJ : Bxs Z wcJ ccJ "java/lang/Long" "J" 256 (fun j => .long (j - 128).toInt64)) :
    MetFree l x (head1 (Jvm.Cond.code x code maxLocals ret :: ws) room_1) (fun aa_ U_ => aa_ = #[(.long e1), (.int c1), (.long e2), (.int c2), (.int fl)] ∧ Z.Warmed39 U_.vm ∧ U_.heap = h0) (fun _ _ _ _ _ => True) (fun _ U_ oo_ V_ => ∃ vv_ LL_, oo_ = .returned vv_ ∧ Q_rm0 Z wcI ccI wcJ ccJ e1 c1 e2 c2 fl h0 n0 vv_ V_.heap LL_ ∧ FrameEnd U_ oo_ V_ LL_ room_1.cells room_1.slots) := by
  refine MetFree.of_bodySF (plainFor_of_name pn_com_example_ballot_ballot_model_VoteEqualsPinLaw) hisR ?_
  intro p e s m args below meth c s₁ Bd hml0 hP hK
  obtain ⟨rfl, hZ, hh⟩ := hP
  have hx := Bd.exec
  have hby := Bd.bytes
  have hml : c.maxLocals = 19 := hml0
  have hown : s.vm.findClass "com/example/ballot/ballot/model/VoteEqualsPinLaw" = some m.cls := findClass_of_methodNamed Bd.named
  have hnm := (name_of_methodNamed Bd.named Bd.method).1
  have X0 : Stand p l e room_1 s m #[(.long e1), (.int c1), (.long e2), (.int c2), (.int fl)] below meth c s₁ [] 0 0 := Stand.of_body Bd
  have e0 : s₁.heap = h0 := by rw [← hh, Bd.state]; rfl
  have N0 := Fr.nil n0
  have Z0 : n0 ≤ h0.size := O0.1 ▸ O0.2.1
  have hk0 := Nat.zero_le h0.size
  have K0 : Keep h0 h0 [] := Keep.refl _ _
  have R0 : ∀ t, Steps p.tables e below (s₁.setTop (mkF m 0 #[.val (.long e1), .second, .val (.int c1), .val (.long e2), .second, .val (.int c2), .val (.int fl), .unset, .unset, .unset, .unset, .unset, .unset, .unset, .unset, .unset, .unset, .unset, .unset] [])) t → Steps p.tables e below (s₁.setTop (entryFrame m #[(.long e1), (.int c1), (.long e2), (.int c2), (.int fl)] maxLocals)) t := fun t k => castTop (ef_rm0 m e1 c1 e2 c2 fl) k
  have R1 : ∀ t, Steps p.tables e below (s₁.setTop (mkF m 4 #[.val (.long e1), .second, .val (.int c1), .val (.long e2), .second, .val (.int c2), .val (.int fl), .unset, .unset, .unset, .unset, .unset, .unset, .unset, .unset, .unset, .unset, .unset, .unset] [(.int (fl &&& (1 : Int32)))])) t → Steps p.tables e below (s₁.setTop (entryFrame m #[(.long e1), (.int c1), (.long e2), (.int c2), (.int fl)] maxLocals)) t := by
    intro t k
    refine R0 t ?_
    show Steps p.tables e below (s₁.setTop (mkF m 0 #[.val (.long e1), .second, .val (.int c1), .val (.long e2), .second, .val (.int c2), .val (.int fl), .unset, .unset, .unset, .unset, .unset, .unset, .unset, .unset, .unset, .unset, .unset, .unset] [])) t
    refine XS.iload X0.here hx rfl (hb hby at_0) rfl ?_
    show Steps p.tables e below (s₁.setTop (mkF m 2 #[.val (.long e1), .second, .val (.int c1), .val (.long e2), .second, .val (.int c2), .val (.int fl), .unset, .unset, .unset, .unset, .unset, .unset, .unset, .unset, .unset, .unset, .unset, .unset] [(.int fl)])) t
    refine XS.iconst X0.here hx rfl (hb hby at_2) ?_
    show Steps p.tables e below (s₁.setTop (mkF m 3 #[.val (.long e1), .second, .val (.int c1), .val (.long e2), .second, .val (.int c2), .val (.int fl), .unset, .unset, .unset, .unset, .unset, .unset, .unset, .unset, .unset, .unset, .unset, .unset] [(.int (1 : Int32)), (.int fl)])) t
    refine XS.iand X0.here hx rfl (hb hby at_3) rfl ?_
    exact k
  have R2 : ∀ t, Steps p.tables e below (s₁.setTop (mkF m 12 #[.val (.long e1), .second, .val (.int c1), .val (.long e2), .second, .val (.int c2), .val (.int fl), .unset, .unset, .unset, .unset, .unset, .unset, .unset, .unset, .unset, .unset, .unset, .unset] [(.long (if (fl &&& (1 : Int32)) = (0 : Int32) then e2 else e1))])) t → Steps p.tables e below (s₁.setTop (entryFrame m #[(.long e1), (.int c1), (.long e2), (.int c2), (.int fl)] maxLocals)) t := by
    by_cases hc_2 : (fl &&& (1 : Int32)) = (0 : Int32)
    · have R3 : ∀ t, Steps p.tables e below (s₁.setTop (mkF m 12 #[.val (.long e1), .second, .val (.int c1), .val (.long e2), .second, .val (.int c2), .val (.int fl), .unset, .unset, .unset, .unset, .unset, .unset, .unset, .unset, .unset, .unset, .unset, .unset] [(.long e2)])) t → Steps p.tables e below (s₁.setTop (entryFrame m #[(.long e1), (.int c1), (.long e2), (.int c2), (.int fl)] maxLocals)) t := by
        intro t k
        refine R1 t ?_
        show Steps p.tables e below (s₁.setTop (mkF m 4 #[.val (.long e1), .second, .val (.int c1), .val (.long e2), .second, .val (.int c2), .val (.int fl), .unset, .unset, .unset, .unset, .unset, .unset, .unset, .unset, .unset, .unset, .unset, .unset] [(.int (fl &&& (1 : Int32)))])) t
        refine XS.ifYes X0.here hx rfl (pc0 := 4) (pc' := 11) rfl (hb hby at_4) rfl ((if0 _ _).trans (teq (hc_2 : (fl &&& (1 : Int32)) = (0 : Int32))).1) (by decide) (by decide) ?_
        show Steps p.tables e below (s₁.setTop (mkF m 11 #[.val (.long e1), .second, .val (.int c1), .val (.long e2), .second, .val (.int c2), .val (.int fl), .unset, .unset, .unset, .unset, .unset, .unset, .unset, .unset, .unset, .unset, .unset, .unset] [])) t
        refine XS.lloadN X0.here hx rfl (hb hby at_11) rfl ?_
        exact k
      simp only [if_pos hc_2]
      exact R3
    · have R4 : ∀ t, Steps p.tables e below (s₁.setTop (mkF m 12 #[.val (.long e1), .second, .val (.int c1), .val (.long e2), .second, .val (.int c2), .val (.int fl), .unset, .unset, .unset, .unset, .unset, .unset, .unset, .unset, .unset, .unset, .unset, .unset] [(.long e1)])) t → Steps p.tables e below (s₁.setTop (entryFrame m #[(.long e1), (.int c1), (.long e2), (.int c2), (.int fl)] maxLocals)) t := by
        intro t k
        refine R1 t ?_
        show Steps p.tables e below (s₁.setTop (mkF m 4 #[.val (.long e1), .second, .val (.int c1), .val (.long e2), .second, .val (.int c2), .val (.int fl), .unset, .unset, .unset, .unset, .unset, .unset, .unset, .unset, .unset, .unset, .unset, .unset] [(.int (fl &&& (1 : Int32)))])) t
        refine XS.ifNo X0.here hx rfl (hb hby at_4) rfl ((if0 _ _).trans (feq (hc_2 : ¬ ((fl &&& (1 : Int32)) = (0 : Int32)))).1) ?_
        show Steps p.tables e below (s₁.setTop (mkF m 7 #[.val (.long e1), .second, .val (.int c1), .val (.long e2), .second, .val (.int c2), .val (.int fl), .unset, .unset, .unset, .unset, .unset, .unset, .unset, .unset, .unset, .unset, .unset, .unset] [])) t
        refine XS.lloadN X0.here hx rfl (hb hby at_7) rfl ?_
        show Steps p.tables e below (s₁.setTop (mkF m 8 #[.val (.long e1), .second, .val (.int c1), .val (.long e2), .second, .val (.int c2), .val (.int fl), .unset, .unset, .unset, .unset, .unset, .unset, .unset, .unset, .unset, .unset, .unset, .unset] [(.long e1)])) t
        refine XS.goto X0.here hx rfl (pc0 := 8) (pc' := 12) rfl (hb hby at_8) (by decide) (by decide) ?_
        exact k
      simp only [if_neg hc_2]
      exact R4
  obtain ⟨eb, h_eb⟩ : ∃ z, z = (if (fl &&& (1 : Int32)) = (0 : Int32) then e2 else e1) := ⟨_, rfl⟩
  rw [← h_eb] at R2
  have R5 : ∀ t, Steps p.tables e below (s₁.setTop (mkF m 18 #[.val (.long e1), .second, .val (.int c1), .val (.long e2), .second, .val (.int c2), .val (.int fl), .val (.long eb), .second, .unset, .unset, .unset, .unset, .unset, .unset, .unset, .unset, .unset, .unset] [(.int (fl &&& (2 : Int32)))])) t → Steps p.tables e below (s₁.setTop (entryFrame m #[(.long e1), (.int c1), (.long e2), (.int c2), (.int fl)] maxLocals)) t := by
    intro t k
    refine R2 t ?_
    show Steps p.tables e below (s₁.setTop (mkF m 12 #[.val (.long e1), .second, .val (.int c1), .val (.long e2), .second, .val (.int c2), .val (.int fl), .unset, .unset, .unset, .unset, .unset, .unset, .unset, .unset, .unset, .unset, .unset, .unset] [(.long eb)])) t
    refine XS.lstore X0.here hx rfl (hb hby at_12) rfl (l' := #[.val (.long e1), .second, .val (.int c1), .val (.long e2), .second, .val (.int c2), .val (.int fl), .val (.long eb), .second, .unset, .unset, .unset, .unset, .unset, .unset, .unset, .unset, .unset, .unset]) rfl ?_
    show Steps p.tables e below (s₁.setTop (mkF m 14 #[.val (.long e1), .second, .val (.int c1), .val (.long e2), .second, .val (.int c2), .val (.int fl), .val (.long eb), .second, .unset, .unset, .unset, .unset, .unset, .unset, .unset, .unset, .unset, .unset] [])) t
    refine XS.iload X0.here hx rfl (hb hby at_14) rfl ?_
    show Steps p.tables e below (s₁.setTop (mkF m 16 #[.val (.long e1), .second, .val (.int c1), .val (.long e2), .second, .val (.int c2), .val (.int fl), .val (.long eb), .second, .unset, .unset, .unset, .unset, .unset, .unset, .unset, .unset, .unset, .unset] [(.int fl)])) t
    refine XS.iconst X0.here hx rfl (hb hby at_16) ?_
    show Steps p.tables e below (s₁.setTop (mkF m 17 #[.val (.long e1), .second, .val (.int c1), .val (.long e2), .second, .val (.int c2), .val (.int fl), .val (.long eb), .second, .unset, .unset, .unset, .unset, .unset, .unset, .unset, .unset, .unset, .unset] [(.int (2 : Int32)), (.int fl)])) t
    refine XS.iand X0.here hx rfl (hb hby at_17) rfl ?_
    exact k
  have R6 : ∀ t, Steps p.tables e below (s₁.setTop (mkF m 27 #[.val (.long e1), .second, .val (.int c1), .val (.long e2), .second, .val (.int c2), .val (.int fl), .val (.long eb), .second, .unset, .unset, .unset, .unset, .unset, .unset, .unset, .unset, .unset, .unset] [(.int (if (fl &&& (2 : Int32)) = (0 : Int32) then c2 else c1))])) t → Steps p.tables e below (s₁.setTop (entryFrame m #[(.long e1), (.int c1), (.long e2), (.int c2), (.int fl)] maxLocals)) t := by
    by_cases hc_6 : (fl &&& (2 : Int32)) = (0 : Int32)
    · have R7 : ∀ t, Steps p.tables e below (s₁.setTop (mkF m 27 #[.val (.long e1), .second, .val (.int c1), .val (.long e2), .second, .val (.int c2), .val (.int fl), .val (.long eb), .second, .unset, .unset, .unset, .unset, .unset, .unset, .unset, .unset, .unset, .unset] [(.int c2)])) t → Steps p.tables e below (s₁.setTop (entryFrame m #[(.long e1), (.int c1), (.long e2), (.int c2), (.int fl)] maxLocals)) t := by
        intro t k
        refine R5 t ?_
        show Steps p.tables e below (s₁.setTop (mkF m 18 #[.val (.long e1), .second, .val (.int c1), .val (.long e2), .second, .val (.int c2), .val (.int fl), .val (.long eb), .second, .unset, .unset, .unset, .unset, .unset, .unset, .unset, .unset, .unset, .unset] [(.int (fl &&& (2 : Int32)))])) t
        refine XS.ifYes X0.here hx rfl (pc0 := 18) (pc' := 25) rfl (hb hby at_18) rfl ((if0 _ _).trans (teq (hc_6 : (fl &&& (2 : Int32)) = (0 : Int32))).1) (by decide) (by decide) ?_
        show Steps p.tables e below (s₁.setTop (mkF m 25 #[.val (.long e1), .second, .val (.int c1), .val (.long e2), .second, .val (.int c2), .val (.int fl), .val (.long eb), .second, .unset, .unset, .unset, .unset, .unset, .unset, .unset, .unset, .unset, .unset] [])) t
        refine XS.iload X0.here hx rfl (hb hby at_25) rfl ?_
        exact k
      simp only [if_pos hc_6]
      exact R7
    · have R8 : ∀ t, Steps p.tables e below (s₁.setTop (mkF m 27 #[.val (.long e1), .second, .val (.int c1), .val (.long e2), .second, .val (.int c2), .val (.int fl), .val (.long eb), .second, .unset, .unset, .unset, .unset, .unset, .unset, .unset, .unset, .unset, .unset] [(.int c1)])) t → Steps p.tables e below (s₁.setTop (entryFrame m #[(.long e1), (.int c1), (.long e2), (.int c2), (.int fl)] maxLocals)) t := by
        intro t k
        refine R5 t ?_
        show Steps p.tables e below (s₁.setTop (mkF m 18 #[.val (.long e1), .second, .val (.int c1), .val (.long e2), .second, .val (.int c2), .val (.int fl), .val (.long eb), .second, .unset, .unset, .unset, .unset, .unset, .unset, .unset, .unset, .unset, .unset] [(.int (fl &&& (2 : Int32)))])) t
        refine XS.ifNo X0.here hx rfl (hb hby at_18) rfl ((if0 _ _).trans (feq (hc_6 : ¬ ((fl &&& (2 : Int32)) = (0 : Int32)))).1) ?_
        show Steps p.tables e below (s₁.setTop (mkF m 21 #[.val (.long e1), .second, .val (.int c1), .val (.long e2), .second, .val (.int c2), .val (.int fl), .val (.long eb), .second, .unset, .unset, .unset, .unset, .unset, .unset, .unset, .unset, .unset, .unset] [])) t
        refine XS.iloadN X0.here hx rfl (hb hby at_21) rfl ?_
        show Steps p.tables e below (s₁.setTop (mkF m 22 #[.val (.long e1), .second, .val (.int c1), .val (.long e2), .second, .val (.int c2), .val (.int fl), .val (.long eb), .second, .unset, .unset, .unset, .unset, .unset, .unset, .unset, .unset, .unset, .unset] [(.int c1)])) t
        refine XS.goto X0.here hx rfl (pc0 := 22) (pc' := 27) rfl (hb hby at_22) (by decide) (by decide) ?_
        exact k
      simp only [if_neg hc_6]
      exact R8
  obtain ⟨cb, h_cb⟩ : ∃ z, z = (if (fl &&& (2 : Int32)) = (0 : Int32) then c2 else c1) := ⟨_, rfl⟩
  rw [← h_cb] at R6
  obtain ⟨T9, h9, X9, e9, E9, A9, D9, -, st9⟩ := newO X0 hx hZ hown (hw _ (List.mem_of_getElem? (i := 0) rfl)) (hw _ (List.mem_of_getElem? (i := 1) rfl)) (hw _ (List.mem_of_getElem? (i := 2) rfl)) e0 (g := (mkF m 29 #[.val (.long e1), .second, .val (.int c1), .val (.long e2), .second, .val (.int c2), .val (.int fl), .val (.long eb), .second, .val (.int cb), .unset, .unset, .unset, .unset, .unset, .unset, .unset, .unset, .unset] [])) rfl (hb hby at_29) (by decide) (by decide)
  obtain ⟨b9, gg9⟩ : ∃ z, z = h0.size := ⟨_, rfl⟩
  rw [← gg9] at A9 D9 st9
  have g_b9 : n0 ≤ b9 := Nat.le_trans Z0 (Nat.le_of_eq gg9.symm)
  have sz_b9 : h0.size ≤ b9 := Nat.le_trans K0.1 (Nat.le_of_eq gg9.symm)
  have Z9 : n0 ≤ h9.size := Nat.le_trans Z0 E9.1
  have K9 : Keep h0 h9 [] := K0.ext E9
  have O9 : Old Z n0 h9 := O0.ext E9
  have F9_epoch : Fld Z h9 b9 "com/example/ballot/ballot/model/Vote" "epoch" "J" (.long (0 : Int64)) := D9 (Or.inr (hw _ (List.mem_of_getElem? (i := 10) rfl))) (ty := .long) (by decide)
  have F9_candidate : Fld Z h9 b9 "com/example/ballot/ballot/model/Vote" "candidate" "I" (.int (0 : Int32)) := D9 (Or.inr (hw _ (List.mem_of_getElem? (i := 12) rfl))) (ty := .int) (by decide)
  obtain ⟨_, _, ⟨T10, L10, k10, n10⟩, -, X10, ⟨Lc10, hQ10, l10, y10, z10⟩, st10⟩ := X9.specialBack hx (y := (⟨"com/example/ballot/ballot/model/Vote", "<init>", "(JI)V"⟩ : MethodName)) rfl hown (mvT hZ (hw _ (List.mem_of_getElem? (i := 3) rfl))) (mvT hZ (hw _ (List.mem_of_getElem? (i := 4) rfl))) (mvT hZ (hw _ (List.mem_of_getElem? (i := 5) rfl))) (by decide) (backOf (W := 1) (vinit l Z a0 hw [] wcI ccI wcJ ccJ b9 e1 c1 (.long (0 : Int64)) (.int (0 : Int32)) h9 n0 O9 S_cI B_cI S_hi S_cJ B_cJ g_b9  A9 F9_epoch F9_candidate) hZ (hw _ (List.mem_of_getElem? (i := 5) rfl)) (hw _ (List.mem_of_getElem? (i := 2) rfl)) (by decide) (by decide)) (g := (mkF m 35 #[.val (.long e1), .second, .val (.int c1), .val (.long e2), .second, .val (.int c2), .val (.int fl), .val (.long eb), .second, .val (.int cb), .unset, .unset, .unset, .unset, .unset, .unset, .unset, .unset, .unset] [(.int c1), (.long e1), (.ref b9), (.ref b9)])) rfl (by rw [hml]; rfl) (Steps.refl _) (a := b9) (argsL := [(.long e1), (.int c1)]) (rest := [(.ref b9)]) (lenOf pd_3 rfl) rfl (by show 2 * 0 + _ ≤ _; exact Nat.le_of_eq rfl) (hb hby at_35) (fun _ _ => ⟨rfl, e9, (by decide : 1 + 0 ≤ _), (by decide : 2 + 0 ≤ _)⟩)
  dsimp only [Pt.U, Pt.locs, Pt.cells, Pt.slots] at X10 l10 y10 z10 st10 hQ10
  subst l10 y10 z10
  obtain ⟨rfl, N10q, K10q, y10_0, y10_1, y10_2⟩ := hQ10
  have N10 := Fr.app N0 N10q
  have Z10 : n0 ≤ T10.heap.size := Nat.le_trans Z9 K10q.1
  have K10 : Keep h0 T10.heap [] := K9.trans K10q (allS (Or.inr sz_b9) all0)
  have O10 : Old Z n0 T10.heap := O9.keep K10q (allS g_b9 all0)
  obtain ⟨T11, h11, X11, e11, E11, A11, D11, -, st11⟩ := newO X10 hx hZ hown (hw _ (List.mem_of_getElem? (i := 0) rfl)) (hw _ (List.mem_of_getElem? (i := 1) rfl)) (hw _ (List.mem_of_getElem? (i := 2) rfl)) rfl (g := (mkF m 40 #[.val (.long e1), .second, .val (.int c1), .val (.long e2), .second, .val (.int c2), .val (.int fl), .val (.long eb), .second, .val (.int cb), .val (.ref b9), .unset, .unset, .unset, .unset, .unset, .unset, .unset, .unset] [])) rfl (hb hby at_40) (by decide) (by decide)
  obtain ⟨b11, gg11⟩ : ∃ z, z = T10.heap.size := ⟨_, rfl⟩
  rw [← gg11] at A11 D11 st11
  have ne_b9_b11 : b9 ≠ b11 := Nat.ne_of_lt (Nat.lt_of_lt_of_le y10_0.lt (Nat.le_of_eq gg11.symm))
  have g_b11 : n0 ≤ b11 := Nat.le_trans Z10 (Nat.le_of_eq gg11.symm)
  have sz_b11 : h0.size ≤ b11 := Nat.le_trans K10.1 (Nat.le_of_eq gg11.symm)
  have Z11 : n0 ≤ h11.size := Nat.le_trans Z10 E11.1
  have K11 : Keep h0 h11 [] := K10.ext E11
  have O11 : Old Z n0 h11 := O10.ext E11
  have F11_epoch : Fld Z h11 b11 "com/example/ballot/ballot/model/Vote" "epoch" "J" (.long (0 : Int64)) := D11 (Or.inr (hw _ (List.mem_of_getElem? (i := 10) rfl))) (ty := .long) (by decide)
  have F11_candidate : Fld Z h11 b11 "com/example/ballot/ballot/model/Vote" "candidate" "I" (.int (0 : Int32)) := D11 (Or.inr (hw _ (List.mem_of_getElem? (i := 12) rfl))) (ty := .int) (by decide)
  obtain ⟨_, _, ⟨T12, L12, k12, n12⟩, -, X12, ⟨Lc12, hQ12, l12, y12, z12⟩, st12⟩ := X11.specialBack hx (y := (⟨"com/example/ballot/ballot/model/Vote", "<init>", "(JI)V"⟩ : MethodName)) rfl hown (mvT hZ (hw _ (List.mem_of_getElem? (i := 3) rfl))) (mvT hZ (hw _ (List.mem_of_getElem? (i := 4) rfl))) (mvT hZ (hw _ (List.mem_of_getElem? (i := 5) rfl))) (by decide) (backOf (W := 1) (vinit l Z a0 hw [] wcI ccI wcJ ccJ b11 eb cb (.long (0 : Int64)) (.int (0 : Int32)) h11 n0 O11 S_cI B_cI S_hi S_cJ B_cJ g_b11  A11 F11_epoch F11_candidate) hZ (hw _ (List.mem_of_getElem? (i := 5) rfl)) (hw _ (List.mem_of_getElem? (i := 2) rfl)) (by decide) (by decide)) (g := (mkF m 48 #[.val (.long e1), .second, .val (.int c1), .val (.long e2), .second, .val (.int c2), .val (.int fl), .val (.long eb), .second, .val (.int cb), .val (.ref b9), .unset, .unset, .unset, .unset, .unset, .unset, .unset, .unset] [(.int cb), (.long eb), (.ref b11), (.ref b11)])) rfl (by rw [hml]; rfl) (Steps.refl _) (a := b11) (argsL := [(.long eb), (.int cb)]) (rest := [(.ref b11)]) (lenOf pd_3 rfl) rfl (by show 2 * 0 + _ ≤ _; exact Nat.le_of_eq rfl) (hb hby at_48) (fun _ _ => ⟨rfl, e11, (by decide : 2 + 0 ≤ _), (by decide : 4 + 0 ≤ _)⟩)
  dsimp only [Pt.U, Pt.locs, Pt.cells, Pt.slots] at X12 l12 y12 z12 st12 hQ12
  subst l12 y12 z12
  obtain ⟨rfl, N12q, K12q, y12_0, y12_1, y12_2⟩ := hQ12
  have N12 := Fr.app N10 N12q
  have Z12 : n0 ≤ T12.heap.size := Nat.le_trans Z11 K12q.1
  have K12 : Keep h0 T12.heap [] := K11.trans K12q (allS (Or.inr sz_b11) all0)
  have O12 : Old Z n0 T12.heap := O11.keep K12q (allS g_b11 all0)
  have R13 : ∀ t, Steps p.tables e below (T12.setTop (mkF m 57 #[.val (.long e1), .second, .val (.int c1), .val (.long e2), .second, .val (.int c2), .val (.int fl), .val (.long eb), .second, .val (.int cb), .val (.ref b9), .val (.ref b11), .unset, .unset, .unset, .unset, .unset, .unset, .unset] [(.int (lcmpW e1 eb))])) t → Steps p.tables e below (s₁.setTop (entryFrame m #[(.long e1), (.int c1), (.long e2), (.int c2), (.int fl)] maxLocals)) t := by
    intro t k
    refine R6 t ?_
    show Steps p.tables e below (s₁.setTop (mkF m 27 #[.val (.long e1), .second, .val (.int c1), .val (.long e2), .second, .val (.int c2), .val (.int fl), .val (.long eb), .second, .unset, .unset, .unset, .unset, .unset, .unset, .unset, .unset, .unset, .unset] [(.int cb)])) t
    refine XS.istore X0.here hx rfl (hb hby at_27) rfl (l' := #[.val (.long e1), .second, .val (.int c1), .val (.long e2), .second, .val (.int c2), .val (.int fl), .val (.long eb), .second, .val (.int cb), .unset, .unset, .unset, .unset, .unset, .unset, .unset, .unset, .unset]) rfl ?_
    show Steps p.tables e below (s₁.setTop (mkF m 29 #[.val (.long e1), .second, .val (.int c1), .val (.long e2), .second, .val (.int c2), .val (.int fl), .val (.long eb), .second, .val (.int cb), .unset, .unset, .unset, .unset, .unset, .unset, .unset, .unset, .unset] [])) t
    refine st9 _ ?_
    show Steps p.tables e below (T9.setTop (mkF m 32 #[.val (.long e1), .second, .val (.int c1), .val (.long e2), .second, .val (.int c2), .val (.int fl), .val (.long eb), .second, .val (.int cb), .unset, .unset, .unset, .unset, .unset, .unset, .unset, .unset, .unset] [(.ref b9)])) t
    refine XS.dup X9.here hx rfl (hb hby at_32) rfl rfl ?_
    show Steps p.tables e below (T9.setTop (mkF m 33 #[.val (.long e1), .second, .val (.int c1), .val (.long e2), .second, .val (.int c2), .val (.int fl), .val (.long eb), .second, .val (.int cb), .unset, .unset, .unset, .unset, .unset, .unset, .unset, .unset, .unset] [(.ref b9), (.ref b9)])) t
    refine XS.lloadN X9.here hx rfl (hb hby at_33) rfl ?_
    show Steps p.tables e below (T9.setTop (mkF m 34 #[.val (.long e1), .second, .val (.int c1), .val (.long e2), .second, .val (.int c2), .val (.int fl), .val (.long eb), .second, .val (.int cb), .unset, .unset, .unset, .unset, .unset, .unset, .unset, .unset, .unset] [(.long e1), (.ref b9), (.ref b9)])) t
    refine XS.iloadN X9.here hx rfl (hb hby at_34) rfl ?_
    show Steps p.tables e below (T9.setTop (mkF m 35 #[.val (.long e1), .second, .val (.int c1), .val (.long e2), .second, .val (.int c2), .val (.int fl), .val (.long eb), .second, .val (.int cb), .unset, .unset, .unset, .unset, .unset, .unset, .unset, .unset, .unset] [(.int c1), (.long e1), (.ref b9), (.ref b9)])) t
    refine st10.trans ?_
    show Steps p.tables e below (T10.setTop (mkF m 38 #[.val (.long e1), .second, .val (.int c1), .val (.long e2), .second, .val (.int c2), .val (.int fl), .val (.long eb), .second, .val (.int cb), .unset, .unset, .unset, .unset, .unset, .unset, .unset, .unset, .unset] [(.ref b9)])) t
    refine XS.astore X10.here hx rfl (hb hby at_38) rfl rfl (l' := #[.val (.long e1), .second, .val (.int c1), .val (.long e2), .second, .val (.int c2), .val (.int fl), .val (.long eb), .second, .val (.int cb), .val (.ref b9), .unset, .unset, .unset, .unset, .unset, .unset, .unset, .unset]) rfl ?_
    show Steps p.tables e below (T10.setTop (mkF m 40 #[.val (.long e1), .second, .val (.int c1), .val (.long e2), .second, .val (.int c2), .val (.int fl), .val (.long eb), .second, .val (.int cb), .val (.ref b9), .unset, .unset, .unset, .unset, .unset, .unset, .unset, .unset] [])) t
    refine st11 _ ?_
    show Steps p.tables e below (T11.setTop (mkF m 43 #[.val (.long e1), .second, .val (.int c1), .val (.long e2), .second, .val (.int c2), .val (.int fl), .val (.long eb), .second, .val (.int cb), .val (.ref b9), .unset, .unset, .unset, .unset, .unset, .unset, .unset, .unset] [(.ref b11)])) t
    refine XS.dup X11.here hx rfl (hb hby at_43) rfl rfl ?_
    show Steps p.tables e below (T11.setTop (mkF m 44 #[.val (.long e1), .second, .val (.int c1), .val (.long e2), .second, .val (.int c2), .val (.int fl), .val (.long eb), .second, .val (.int cb), .val (.ref b9), .unset, .unset, .unset, .unset, .unset, .unset, .unset, .unset] [(.ref b11), (.ref b11)])) t
    refine XS.lload X11.here hx rfl (hb hby at_44) rfl ?_
    show Steps p.tables e below (T11.setTop (mkF m 46 #[.val (.long e1), .second, .val (.int c1), .val (.long e2), .second, .val (.int c2), .val (.int fl), .val (.long eb), .second, .val (.int cb), .val (.ref b9), .unset, .unset, .unset, .unset, .unset, .unset, .unset, .unset] [(.long eb), (.ref b11), (.ref b11)])) t
    refine XS.iload X11.here hx rfl (hb hby at_46) rfl ?_
    show Steps p.tables e below (T11.setTop (mkF m 48 #[.val (.long e1), .second, .val (.int c1), .val (.long e2), .second, .val (.int c2), .val (.int fl), .val (.long eb), .second, .val (.int cb), .val (.ref b9), .unset, .unset, .unset, .unset, .unset, .unset, .unset, .unset] [(.int cb), (.long eb), (.ref b11), (.ref b11)])) t
    refine st12.trans ?_
    show Steps p.tables e below (T12.setTop (mkF m 51 #[.val (.long e1), .second, .val (.int c1), .val (.long e2), .second, .val (.int c2), .val (.int fl), .val (.long eb), .second, .val (.int cb), .val (.ref b9), .unset, .unset, .unset, .unset, .unset, .unset, .unset, .unset] [(.ref b11)])) t
    refine XS.astore X12.here hx rfl (hb hby at_51) rfl rfl (l' := #[.val (.long e1), .second, .val (.int c1), .val (.long e2), .second, .val (.int c2), .val (.int fl), .val (.long eb), .second, .val (.int cb), .val (.ref b9), .val (.ref b11), .unset, .unset, .unset, .unset, .unset, .unset, .unset]) rfl ?_
    show Steps p.tables e below (T12.setTop (mkF m 53 #[.val (.long e1), .second, .val (.int c1), .val (.long e2), .second, .val (.int c2), .val (.int fl), .val (.long eb), .second, .val (.int cb), .val (.ref b9), .val (.ref b11), .unset, .unset, .unset, .unset, .unset, .unset, .unset] [])) t
    refine XS.lloadN X12.here hx rfl (hb hby at_53) rfl ?_
    show Steps p.tables e below (T12.setTop (mkF m 54 #[.val (.long e1), .second, .val (.int c1), .val (.long e2), .second, .val (.int c2), .val (.int fl), .val (.long eb), .second, .val (.int cb), .val (.ref b9), .val (.ref b11), .unset, .unset, .unset, .unset, .unset, .unset, .unset] [(.long e1)])) t
    refine XS.lload X12.here hx rfl (hb hby at_54) rfl ?_
    show Steps p.tables e below (T12.setTop (mkF m 56 #[.val (.long e1), .second, .val (.int c1), .val (.long e2), .second, .val (.int c2), .val (.int fl), .val (.long eb), .second, .val (.int cb), .val (.ref b9), .val (.ref b11), .unset, .unset, .unset, .unset, .unset, .unset, .unset] [(.long eb), (.long e1)])) t
    refine XS.lcmp X12.here hx rfl (hb hby at_56) rfl ?_
    exact k
  by_cases hl : (lcmpW e1 eb) = (0 : Int32)
  · have R14 : ∀ t, Steps p.tables e below (T12.setTop (mkF m 63 #[.val (.long e1), .second, .val (.int c1), .val (.long e2), .second, .val (.int c2), .val (.int fl), .val (.long eb), .second, .val (.int cb), .val (.ref b9), .val (.ref b11), .unset, .unset, .unset, .unset, .unset, .unset, .unset] [(.int cb), (.int c1)])) t → Steps p.tables e below (s₁.setTop (entryFrame m #[(.long e1), (.int c1), (.long e2), (.int c2), (.int fl)] maxLocals)) t := by
      intro t k
      refine R13 t ?_
      show Steps p.tables e below (T12.setTop (mkF m 57 #[.val (.long e1), .second, .val (.int c1), .val (.long e2), .second, .val (.int c2), .val (.int fl), .val (.long eb), .second, .val (.int cb), .val (.ref b9), .val (.ref b11), .unset, .unset, .unset, .unset, .unset, .unset, .unset] [(.int (lcmpW e1 eb))])) t
      refine XS.ifNo X12.here hx rfl (hb hby at_57) rfl ((if0 _ _).trans (teq (hl : (lcmpW e1 eb) = (0 : Int32))).2) ?_
      show Steps p.tables e below (T12.setTop (mkF m 60 #[.val (.long e1), .second, .val (.int c1), .val (.long e2), .second, .val (.int c2), .val (.int fl), .val (.long eb), .second, .val (.int cb), .val (.ref b9), .val (.ref b11), .unset, .unset, .unset, .unset, .unset, .unset, .unset] [])) t
      refine XS.iloadN X12.here hx rfl (hb hby at_60) rfl ?_
      show Steps p.tables e below (T12.setTop (mkF m 61 #[.val (.long e1), .second, .val (.int c1), .val (.long e2), .second, .val (.int c2), .val (.int fl), .val (.long eb), .second, .val (.int cb), .val (.ref b9), .val (.ref b11), .unset, .unset, .unset, .unset, .unset, .unset, .unset] [(.int c1)])) t
      refine XS.iload X12.here hx rfl (hb hby at_61) rfl ?_
      exact k
    by_cases hc : c1 = cb
    · have R15 : ∀ t, Steps p.tables e below (T12.setTop (mkF m 77 #[.val (.long e1), .second, .val (.int c1), .val (.long e2), .second, .val (.int c2), .val (.int fl), .val (.long eb), .second, .val (.int cb), .val (.ref b9), .val (.ref b11), .val (.int (1 : Int32)), .unset, .unset, .unset, .unset, .unset, .unset] [(.int (fl &&& (4 : Int32)))])) t → Steps p.tables e below (s₁.setTop (entryFrame m #[(.long e1), (.int c1), (.long e2), (.int c2), (.int fl)] maxLocals)) t := by
        intro t k
        refine R14 t ?_
        show Steps p.tables e below (T12.setTop (mkF m 63 #[.val (.long e1), .second, .val (.int c1), .val (.long e2), .second, .val (.int c2), .val (.int fl), .val (.long eb), .second, .val (.int cb), .val (.ref b9), .val (.ref b11), .unset, .unset, .unset, .unset, .unset, .unset, .unset] [(.int cb), (.int c1)])) t
        refine XS.icmpNo X12.here hx rfl (hb hby at_63) rfl (teq (hc : c1 = cb)).2 ?_
        show Steps p.tables e below (T12.setTop (mkF m 66 #[.val (.long e1), .second, .val (.int c1), .val (.long e2), .second, .val (.int c2), .val (.int fl), .val (.long eb), .second, .val (.int cb), .val (.ref b9), .val (.ref b11), .unset, .unset, .unset, .unset, .unset, .unset, .unset] [])) t
        refine XS.iconst X12.here hx rfl (hb hby at_66) ?_
        show Steps p.tables e below (T12.setTop (mkF m 67 #[.val (.long e1), .second, .val (.int c1), .val (.long e2), .second, .val (.int c2), .val (.int fl), .val (.long eb), .second, .val (.int cb), .val (.ref b9), .val (.ref b11), .unset, .unset, .unset, .unset, .unset, .unset, .unset] [(.int (1 : Int32))])) t
        refine XS.goto X12.here hx rfl (pc0 := 67) (pc' := 71) rfl (hb hby at_67) (by decide) (by decide) ?_
        show Steps p.tables e below (T12.setTop (mkF m 71 #[.val (.long e1), .second, .val (.int c1), .val (.long e2), .second, .val (.int c2), .val (.int fl), .val (.long eb), .second, .val (.int cb), .val (.ref b9), .val (.ref b11), .unset, .unset, .unset, .unset, .unset, .unset, .unset] [(.int (1 : Int32))])) t
        refine XS.istore X12.here hx rfl (hb hby at_71) rfl (l' := #[.val (.long e1), .second, .val (.int c1), .val (.long e2), .second, .val (.int c2), .val (.int fl), .val (.long eb), .second, .val (.int cb), .val (.ref b9), .val (.ref b11), .val (.int (1 : Int32)), .unset, .unset, .unset, .unset, .unset, .unset]) rfl ?_
        show Steps p.tables e below (T12.setTop (mkF m 73 #[.val (.long e1), .second, .val (.int c1), .val (.long e2), .second, .val (.int c2), .val (.int fl), .val (.long eb), .second, .val (.int cb), .val (.ref b9), .val (.ref b11), .val (.int (1 : Int32)), .unset, .unset, .unset, .unset, .unset, .unset] [])) t
        refine XS.iload X12.here hx rfl (hb hby at_73) rfl ?_
        show Steps p.tables e below (T12.setTop (mkF m 75 #[.val (.long e1), .second, .val (.int c1), .val (.long e2), .second, .val (.int c2), .val (.int fl), .val (.long eb), .second, .val (.int cb), .val (.ref b9), .val (.ref b11), .val (.int (1 : Int32)), .unset, .unset, .unset, .unset, .unset, .unset] [(.int fl)])) t
        refine XS.iconst X12.here hx rfl (hb hby at_75) ?_
        show Steps p.tables e below (T12.setTop (mkF m 76 #[.val (.long e1), .second, .val (.int c1), .val (.long e2), .second, .val (.int c2), .val (.int fl), .val (.long eb), .second, .val (.int cb), .val (.ref b9), .val (.ref b11), .val (.int (1 : Int32)), .unset, .unset, .unset, .unset, .unset, .unset] [(.int (4 : Int32)), (.int fl)])) t
        refine XS.iand X12.here hx rfl (hb hby at_76) rfl ?_
        exact k
      by_cases hf : (fl &&& (4 : Int32)) = (0 : Int32)
      · obtain ⟨_, _, ⟨T16, L16, k16, n16⟩, -, X16, ⟨Lc16, hQ16, l16, y16, z16⟩, st16⟩ := Jvm.LawKit.callS X12 hx (y := (⟨"java/lang/Integer", "valueOf", "(I)Ljava/lang/Integer;"⟩ : MethodName)) hown (mvT hZ (hw _ (List.mem_of_getElem? (i := 13) rfl))) (mvT hZ (hw _ (List.mem_of_getElem? (i := 14) rfl))) (mvT hZ (hw _ (List.mem_of_getElem? (i := 15) rfl))) (mvT hZ (hw _ (List.mem_of_getElem? (i := 16) rfl))) (by decide) (backOf (W := 0) (valueOfI l Z a0 hw [] wcI ccI wcJ ccJ c1 T12.heap n0 O12 S_cI B_cI S_hi S_cJ B_cJ   ) hZ (hw _ (List.mem_of_getElem? (i := 16) rfl)) (hw _ (List.mem_of_getElem? (i := 15) rfl)) (by decide) (by decide)) (g := (mkF m 88 #[.val (.long e1), .second, .val (.int c1), .val (.long e2), .second, .val (.int c2), .val (.int fl), .val (.long eb), .second, .val (.int cb), .val (.ref b9), .val (.ref b11), .val (.int (1 : Int32)), .unset, .unset, .unset, .unset, .unset, .unset] [(.int c1)])) rfl (by rw [hml]; rfl) (argsL := [(.int c1)]) (rest := []) (lenOf pd_4 rfl) rfl (by show 2 * 0 + _ ≤ _; exact Nat.le_of_eq rfl) (hb hby at_88) (fun _ _ => ⟨rfl, rfl, (by decide : 2 + 1 ≤ _), (by decide : 4 + 1 ≤ _)⟩)
        dsimp only [Pt.U, Pt.locs, Pt.cells, Pt.slots] at X16 l16 y16 z16 st16 hQ16
        subst l16 y16 z16
        obtain ⟨b16, rfl, N16q, K16q, y16_0⟩ := hQ16
        have N16 := Fr.app N12 N16q
        have Z16 : n0 ≤ T16.heap.size := Nat.le_trans Z12 K16q.1
        have K16 : Keep h0 T16.heap [] := K12.trans K16q all0
        have O16 : Old Z n0 T16.heap := O12.keep K16q all0
        have f18 : Exa Z T16.heap b9 "com/example/ballot/ballot/model/Vote" := (((y10_0.ext E11).keep K12q).keep K16q)
        have f19 : Exa Z T16.heap b11 "com/example/ballot/ballot/model/Vote" := (y12_0.keep K16q)
        have f20 : Fld Z T16.heap b9 "com/example/ballot/ballot/model/Vote" "epoch" "J" (.long e1) := (((y10_1.ext E11).keep K12q (ninS ne_b9_b11 nin0)).keep K16q nin0)
        have f21 : Fld Z T16.heap b11 "com/example/ballot/ballot/model/Vote" "epoch" "J" (.long eb) := (y12_1.keep K16q nin0)
        have f22 : Fld Z T16.heap b9 "com/example/ballot/ballot/model/Vote" "candidate" "I" (.int c1) := (((y10_2.ext E11).keep K12q (ninS ne_b9_b11 nin0)).keep K16q nin0)
        have f23 : Fld Z T16.heap b11 "com/example/ballot/ballot/model/Vote" "candidate" "I" (.int cb) := (y12_2.keep K16q nin0)
        obtain ⟨cq17, kq17, q17a, q17b, q17c⟩ := isOf hZ rfl f18
        obtain ⟨_, _, ⟨T17, L17, k17, n17⟩, -, X17, ⟨Lc17, hQ17, l17, y17, z17⟩, st17⟩ := X16.virtualBack hx (y := (⟨"com/example/ballot/ballot/model/Vote", "equals", "(Ljava/lang/Object;)Z"⟩ : MethodName)) (z := (⟨"com/example/ballot/ballot/model/Vote", "equals", "(Ljava/lang/Object;)Z"⟩ : MethodName)) hown (mvT hZ (hw _ (List.mem_of_getElem? (i := 20) rfl))) (mvT hZ (hw _ (List.mem_of_getElem? (i := 21) rfl))) (notFace_of_selects (args := #[]) (mvT hZ (hw _ (List.mem_of_getElem? (i := 23) rfl)))) (mvT hZ (hw _ (List.mem_of_getElem? (i := 23) rfl))) (mvT hZ (hw _ (List.mem_of_getElem? (i := 22) rfl))) (by decide) (backOf (W := 0) (eqT l Z a0 hw [] wcI ccI wcJ ccJ b9 b11 e1 eb c1 cb T16.heap n0 O16 S_cI B_cI S_hi S_cJ B_cJ   f18 f19 f20 f21 f22 f23 hl hc) hZ (hw _ (List.mem_of_getElem? (i := 24) rfl)) (hw _ (List.mem_of_getElem? (i := 2) rfl)) (by decide) (by decide)) q17a q17c (g := (mkF m 97 #[.val (.long e1), .second, .val (.int c1), .val (.long e2), .second, .val (.int c2), .val (.int fl), .val (.long eb), .second, .val (.int cb), .val (.ref b9), .val (.ref b11), .val (.int (1 : Int32)), .val (.ref b16), .unset, .unset, .unset, .unset, .unset] [(.ref b11), (.ref b9)])) rfl (by rw [hml]; rfl) (Steps.refl _) (argsL := [(.ref b11)]) (rest := []) (lenOf pd_5 rfl) rfl (by show 2 * 0 + _ ≤ _; exact Nat.le_of_eq rfl) (hb hby at_97) (fun _ _ => ⟨rfl, rfl, (by decide : 3 + 0 ≤ _), (by decide : 5 + 0 ≤ _)⟩)
        dsimp only [Pt.U, Pt.locs, Pt.cells, Pt.slots] at X17 l17 y17 z17 st17 hQ17
        subst l17 y17 z17
        obtain ⟨rfl, N17q, e17⟩ := hQ17
        have N17 := Fr.app N16 N17q
        obtain ⟨cq24, kq24, q24a, q24b, q24c⟩ := isOf hZ e17 f19
        obtain ⟨_, _, ⟨T24, L24, k24, n24⟩, -, X24, ⟨Lc24, hQ24, l24, y24, z24⟩, st24⟩ := X17.virtualBack hx (y := (⟨"com/example/ballot/ballot/model/Vote", "equals", "(Ljava/lang/Object;)Z"⟩ : MethodName)) (z := (⟨"com/example/ballot/ballot/model/Vote", "equals", "(Ljava/lang/Object;)Z"⟩ : MethodName)) hown (mvT hZ (hw _ (List.mem_of_getElem? (i := 20) rfl))) (mvT hZ (hw _ (List.mem_of_getElem? (i := 21) rfl))) (notFace_of_selects (args := #[]) (mvT hZ (hw _ (List.mem_of_getElem? (i := 23) rfl)))) (mvT hZ (hw _ (List.mem_of_getElem? (i := 23) rfl))) (mvT hZ (hw _ (List.mem_of_getElem? (i := 22) rfl))) (by decide) (backOf (W := 0) (eqT l Z a0 hw [] wcI ccI wcJ ccJ b11 b9 eb e1 cb c1 T16.heap n0 O16 S_cI B_cI S_hi S_cJ B_cJ   f19 f18 f21 f20 f23 f22 ((lw_eq _ _).2 ((lw_eq _ _).1 hl).symm) hc.symm) hZ (hw _ (List.mem_of_getElem? (i := 24) rfl)) (hw _ (List.mem_of_getElem? (i := 2) rfl)) (by decide) (by decide)) q24a q24c (g := (mkF m 106 #[.val (.long e1), .second, .val (.int c1), .val (.long e2), .second, .val (.int c2), .val (.int fl), .val (.long eb), .second, .val (.int cb), .val (.ref b9), .val (.ref b11), .val (.int (1 : Int32)), .val (.ref b16), .val (.int (1 : Int32)), .unset, .unset, .unset, .unset] [(.ref b9), (.ref b11)])) rfl (by rw [hml]; rfl) (Steps.refl _) (argsL := [(.ref b9)]) (rest := []) (lenOf pd_5 rfl) rfl (by show 2 * 0 + _ ≤ _; exact Nat.le_of_eq rfl) (hb hby at_106) (fun _ _ => ⟨rfl, e17, (by decide : 3 + 0 ≤ _), (by decide : 5 + 0 ≤ _)⟩)
        dsimp only [Pt.U, Pt.locs, Pt.cells, Pt.slots] at X24 l24 y24 z24 st24 hQ24
        subst l24 y24 z24
        obtain ⟨rfl, N24q, e24⟩ := hQ24
        have N24 := Fr.app N17 N24q
        obtain ⟨cq25, kq25, q25a, q25b, q25c⟩ := isOf hZ e24 f18
        obtain ⟨_, _, ⟨T25, L25, k25, n25⟩, -, X25, ⟨Lc25, hQ25, l25, y25, z25⟩, st25⟩ := X24.virtualBack hx (y := (⟨"com/example/ballot/ballot/model/Vote", "equals", "(Ljava/lang/Object;)Z"⟩ : MethodName)) (z := (⟨"com/example/ballot/ballot/model/Vote", "equals", "(Ljava/lang/Object;)Z"⟩ : MethodName)) hown (mvT hZ (hw _ (List.mem_of_getElem? (i := 20) rfl))) (mvT hZ (hw _ (List.mem_of_getElem? (i := 21) rfl))) (notFace_of_selects (args := #[]) (mvT hZ (hw _ (List.mem_of_getElem? (i := 23) rfl)))) (mvT hZ (hw _ (List.mem_of_getElem? (i := 23) rfl))) (mvT hZ (hw _ (List.mem_of_getElem? (i := 22) rfl))) (by decide) (backOf (W := 0) (eqT l Z a0 hw [] wcI ccI wcJ ccJ b9 b9 e1 e1 c1 c1 T16.heap n0 O16 S_cI B_cI S_hi S_cJ B_cJ   f18 f18 f20 f20 f22 f22 ((lw_eq _ _).2 rfl) rfl) hZ (hw _ (List.mem_of_getElem? (i := 24) rfl)) (hw _ (List.mem_of_getElem? (i := 2) rfl)) (by decide) (by decide)) q25a q25c (g := (mkF m 115 #[.val (.long e1), .second, .val (.int c1), .val (.long e2), .second, .val (.int c2), .val (.int fl), .val (.long eb), .second, .val (.int cb), .val (.ref b9), .val (.ref b11), .val (.int (1 : Int32)), .val (.ref b16), .val (.int (1 : Int32)), .val (.int (1 : Int32)), .unset, .unset, .unset] [(.ref b9), (.ref b9)])) rfl (by rw [hml]; rfl) (Steps.refl _) (argsL := [(.ref b9)]) (rest := []) (lenOf pd_5 rfl) rfl (by show 2 * 0 + _ ≤ _; exact Nat.le_of_eq rfl) (hb hby at_115) (fun _ _ => ⟨rfl, e24, (by decide : 3 + 0 ≤ _), (by decide : 5 + 0 ≤ _)⟩)
        dsimp only [Pt.U, Pt.locs, Pt.cells, Pt.slots] at X25 l25 y25 z25 st25 hQ25
        subst l25 y25 z25
        obtain ⟨rfl, N25q, e25⟩ := hQ25
        have N25 := Fr.app N24 N25q
        obtain ⟨cq26, kq26, q26a, q26b, q26c⟩ := isOf hZ e25 f18
        obtain ⟨_, _, ⟨T26, L26, k26, n26⟩, -, X26, ⟨Lc26, hQ26, l26, y26, z26⟩, st26⟩ := X25.virtualBack hx (y := (⟨"com/example/ballot/ballot/model/Vote", "equals", "(Ljava/lang/Object;)Z"⟩ : MethodName)) (z := (⟨"com/example/ballot/ballot/model/Vote", "equals", "(Ljava/lang/Object;)Z"⟩ : MethodName)) hown (mvT hZ (hw _ (List.mem_of_getElem? (i := 20) rfl))) (mvT hZ (hw _ (List.mem_of_getElem? (i := 21) rfl))) (notFace_of_selects (args := #[]) (mvT hZ (hw _ (List.mem_of_getElem? (i := 23) rfl)))) (mvT hZ (hw _ (List.mem_of_getElem? (i := 23) rfl))) (mvT hZ (hw _ (List.mem_of_getElem? (i := 22) rfl))) (by decide) (backOf (W := 0) (eqN l Z a0 hw [] wcI ccI wcJ ccJ b9 T16.heap n0 O16 S_cI B_cI S_hi S_cJ B_cJ   ) hZ (hw _ (List.mem_of_getElem? (i := 24) rfl)) (hw _ (List.mem_of_getElem? (i := 2) rfl)) (by decide) (by decide)) q26a q26c (g := (mkF m 123 #[.val (.long e1), .second, .val (.int c1), .val (.long e2), .second, .val (.int c2), .val (.int fl), .val (.long eb), .second, .val (.int cb), .val (.ref b9), .val (.ref b11), .val (.int (1 : Int32)), .val (.ref b16), .val (.int (1 : Int32)), .val (.int (1 : Int32)), .val (.int (1 : Int32)), .unset, .unset] [.null, (.ref b9)])) rfl (by rw [hml]; rfl) (Steps.refl _) (argsL := [.null]) (rest := []) (lenOf pd_5 rfl) rfl (by show 2 * 0 + _ ≤ _; exact Nat.le_of_eq rfl) (hb hby at_123) (fun _ _ => ⟨rfl, e25, (by decide : 3 + 0 ≤ _), (by decide : 5 + 0 ≤ _)⟩)
        dsimp only [Pt.U, Pt.locs, Pt.cells, Pt.slots] at X26 l26 y26 z26 st26 hQ26
        subst l26 y26 z26
        obtain ⟨rfl, N26q, e26⟩ := hQ26
        have N26 := Fr.app N25 N26q
        obtain ⟨cq27, kq27, q27a, q27b, q27c⟩ := isOf hZ e26 f18
        obtain ⟨_, _, ⟨T27, L27, k27, n27⟩, -, X27, ⟨Lc27, hQ27, l27, y27, z27⟩, st27⟩ := X26.virtualBack hx (y := (⟨"com/example/ballot/ballot/model/Vote", "equals", "(Ljava/lang/Object;)Z"⟩ : MethodName)) (z := (⟨"com/example/ballot/ballot/model/Vote", "equals", "(Ljava/lang/Object;)Z"⟩ : MethodName)) hown (mvT hZ (hw _ (List.mem_of_getElem? (i := 20) rfl))) (mvT hZ (hw _ (List.mem_of_getElem? (i := 21) rfl))) (notFace_of_selects (args := #[]) (mvT hZ (hw _ (List.mem_of_getElem? (i := 23) rfl)))) (mvT hZ (hw _ (List.mem_of_getElem? (i := 23) rfl))) (mvT hZ (hw _ (List.mem_of_getElem? (i := 22) rfl))) (by decide) (backOf (W := 0) (eqOI l Z a0 hw [] wcI ccI wcJ ccJ b9 b16 T16.heap n0 O16 S_cI B_cI S_hi S_cJ B_cJ   y16_0) hZ (hw _ (List.mem_of_getElem? (i := 24) rfl)) (hw _ (List.mem_of_getElem? (i := 2) rfl)) (by decide) (by decide)) q27a q27c (g := (mkF m 132 #[.val (.long e1), .second, .val (.int c1), .val (.long e2), .second, .val (.int c2), .val (.int fl), .val (.long eb), .second, .val (.int cb), .val (.ref b9), .val (.ref b11), .val (.int (1 : Int32)), .val (.ref b16), .val (.int (1 : Int32)), .val (.int (1 : Int32)), .val (.int (1 : Int32)), .val (.int (0 : Int32)), .unset] [(.ref b16), (.ref b9)])) rfl (by rw [hml]; rfl) (Steps.refl _) (argsL := [(.ref b16)]) (rest := []) (lenOf pd_5 rfl) rfl (by show 2 * 0 + _ ≤ _; exact Nat.le_of_eq rfl) (hb hby at_132) (fun _ _ => ⟨rfl, e26, (by decide : 3 + 0 ≤ _), (by decide : 5 + 0 ≤ _)⟩)
        dsimp only [Pt.U, Pt.locs, Pt.cells, Pt.slots] at X27 l27 y27 z27 st27 hQ27
        subst l27 y27 z27
        obtain ⟨rfl, N27q, e27⟩ := hQ27
        have N27 := Fr.app N26 N27q
        have R28 : ∀ t, Steps p.tables e below (T27.setTop (mkF m 171 #[.val (.long e1), .second, .val (.int c1), .val (.long e2), .second, .val (.int c2), .val (.int fl), .val (.long eb), .second, .val (.int cb), .val (.ref b9), .val (.ref b11), .val (.int (1 : Int32)), .val (.ref b16), .val (.int (1 : Int32)), .val (.int (1 : Int32)), .val (.int (1 : Int32)), .val (.int (0 : Int32)), .val (.int (0 : Int32))] [(.int (1 : Int32))])) t → Steps p.tables e below (s₁.setTop (entryFrame m #[(.long e1), (.int c1), (.long e2), (.int c2), (.int fl)] maxLocals)) t := by
          intro t k
          refine R15 t ?_
          show Steps p.tables e below (T12.setTop (mkF m 77 #[.val (.long e1), .second, .val (.int c1), .val (.long e2), .second, .val (.int c2), .val (.int fl), .val (.long eb), .second, .val (.int cb), .val (.ref b9), .val (.ref b11), .val (.int (1 : Int32)), .unset, .unset, .unset, .unset, .unset, .unset] [(.int (fl &&& (4 : Int32)))])) t
          refine XS.ifYes X12.here hx rfl (pc0 := 77) (pc' := 87) rfl (hb hby at_77) rfl ((if0 _ _).trans (teq (hf : (fl &&& (4 : Int32)) = (0 : Int32))).1) (by decide) (by decide) ?_
          show Steps p.tables e below (T12.setTop (mkF m 87 #[.val (.long e1), .second, .val (.int c1), .val (.long e2), .second, .val (.int c2), .val (.int fl), .val (.long eb), .second, .val (.int cb), .val (.ref b9), .val (.ref b11), .val (.int (1 : Int32)), .unset, .unset, .unset, .unset, .unset, .unset] [])) t
          refine XS.iloadN X12.here hx rfl (hb hby at_87) rfl ?_
          show Steps p.tables e below (T12.setTop (mkF m 88 #[.val (.long e1), .second, .val (.int c1), .val (.long e2), .second, .val (.int c2), .val (.int fl), .val (.long eb), .second, .val (.int cb), .val (.ref b9), .val (.ref b11), .val (.int (1 : Int32)), .unset, .unset, .unset, .unset, .unset, .unset] [(.int c1)])) t
          refine st16 _ ?_
          show Steps p.tables e below (T16.setTop (mkF m 91 #[.val (.long e1), .second, .val (.int c1), .val (.long e2), .second, .val (.int c2), .val (.int fl), .val (.long eb), .second, .val (.int cb), .val (.ref b9), .val (.ref b11), .val (.int (1 : Int32)), .unset, .unset, .unset, .unset, .unset, .unset] [(.ref b16)])) t
          refine XS.astore X16.here hx rfl (hb hby at_91) rfl rfl (l' := #[.val (.long e1), .second, .val (.int c1), .val (.long e2), .second, .val (.int c2), .val (.int fl), .val (.long eb), .second, .val (.int cb), .val (.ref b9), .val (.ref b11), .val (.int (1 : Int32)), .val (.ref b16), .unset, .unset, .unset, .unset, .unset]) rfl ?_
          show Steps p.tables e below (T16.setTop (mkF m 93 #[.val (.long e1), .second, .val (.int c1), .val (.long e2), .second, .val (.int c2), .val (.int fl), .val (.long eb), .second, .val (.int cb), .val (.ref b9), .val (.ref b11), .val (.int (1 : Int32)), .val (.ref b16), .unset, .unset, .unset, .unset, .unset] [])) t
          refine XS.aload X16.here hx rfl (hb hby at_93) rfl rfl ?_
          show Steps p.tables e below (T16.setTop (mkF m 95 #[.val (.long e1), .second, .val (.int c1), .val (.long e2), .second, .val (.int c2), .val (.int fl), .val (.long eb), .second, .val (.int cb), .val (.ref b9), .val (.ref b11), .val (.int (1 : Int32)), .val (.ref b16), .unset, .unset, .unset, .unset, .unset] [(.ref b9)])) t
          refine XS.aload X16.here hx rfl (hb hby at_95) rfl rfl ?_
          show Steps p.tables e below (T16.setTop (mkF m 97 #[.val (.long e1), .second, .val (.int c1), .val (.long e2), .second, .val (.int c2), .val (.int fl), .val (.long eb), .second, .val (.int cb), .val (.ref b9), .val (.ref b11), .val (.int (1 : Int32)), .val (.ref b16), .unset, .unset, .unset, .unset, .unset] [(.ref b11), (.ref b9)])) t
          refine st17.trans ?_
          show Steps p.tables e below (T17.setTop (mkF m 100 #[.val (.long e1), .second, .val (.int c1), .val (.long e2), .second, .val (.int c2), .val (.int fl), .val (.long eb), .second, .val (.int cb), .val (.ref b9), .val (.ref b11), .val (.int (1 : Int32)), .val (.ref b16), .unset, .unset, .unset, .unset, .unset] [(.int (1 : Int32))])) t
          refine XS.istore X17.here hx rfl (hb hby at_100) rfl (l' := #[.val (.long e1), .second, .val (.int c1), .val (.long e2), .second, .val (.int c2), .val (.int fl), .val (.long eb), .second, .val (.int cb), .val (.ref b9), .val (.ref b11), .val (.int (1 : Int32)), .val (.ref b16), .val (.int (1 : Int32)), .unset, .unset, .unset, .unset]) rfl ?_
          show Steps p.tables e below (T17.setTop (mkF m 102 #[.val (.long e1), .second, .val (.int c1), .val (.long e2), .second, .val (.int c2), .val (.int fl), .val (.long eb), .second, .val (.int cb), .val (.ref b9), .val (.ref b11), .val (.int (1 : Int32)), .val (.ref b16), .val (.int (1 : Int32)), .unset, .unset, .unset, .unset] [])) t
          refine XS.aload X17.here hx rfl (hb hby at_102) rfl rfl ?_
          show Steps p.tables e below (T17.setTop (mkF m 104 #[.val (.long e1), .second, .val (.int c1), .val (.long e2), .second, .val (.int c2), .val (.int fl), .val (.long eb), .second, .val (.int cb), .val (.ref b9), .val (.ref b11), .val (.int (1 : Int32)), .val (.ref b16), .val (.int (1 : Int32)), .unset, .unset, .unset, .unset] [(.ref b11)])) t
          refine XS.aload X17.here hx rfl (hb hby at_104) rfl rfl ?_
          show Steps p.tables e below (T17.setTop (mkF m 106 #[.val (.long e1), .second, .val (.int c1), .val (.long e2), .second, .val (.int c2), .val (.int fl), .val (.long eb), .second, .val (.int cb), .val (.ref b9), .val (.ref b11), .val (.int (1 : Int32)), .val (.ref b16), .val (.int (1 : Int32)), .unset, .unset, .unset, .unset] [(.ref b9), (.ref b11)])) t
          refine st24.trans ?_
          show Steps p.tables e below (T24.setTop (mkF m 109 #[.val (.long e1), .second, .val (.int c1), .val (.long e2), .second, .val (.int c2), .val (.int fl), .val (.long eb), .second, .val (.int cb), .val (.ref b9), .val (.ref b11), .val (.int (1 : Int32)), .val (.ref b16), .val (.int (1 : Int32)), .unset, .unset, .unset, .unset] [(.int (1 : Int32))])) t
          refine XS.istore X24.here hx rfl (hb hby at_109) rfl (l' := #[.val (.long e1), .second, .val (.int c1), .val (.long e2), .second, .val (.int c2), .val (.int fl), .val (.long eb), .second, .val (.int cb), .val (.ref b9), .val (.ref b11), .val (.int (1 : Int32)), .val (.ref b16), .val (.int (1 : Int32)), .val (.int (1 : Int32)), .unset, .unset, .unset]) rfl ?_
          show Steps p.tables e below (T24.setTop (mkF m 111 #[.val (.long e1), .second, .val (.int c1), .val (.long e2), .second, .val (.int c2), .val (.int fl), .val (.long eb), .second, .val (.int cb), .val (.ref b9), .val (.ref b11), .val (.int (1 : Int32)), .val (.ref b16), .val (.int (1 : Int32)), .val (.int (1 : Int32)), .unset, .unset, .unset] [])) t
          refine XS.aload X24.here hx rfl (hb hby at_111) rfl rfl ?_
          show Steps p.tables e below (T24.setTop (mkF m 113 #[.val (.long e1), .second, .val (.int c1), .val (.long e2), .second, .val (.int c2), .val (.int fl), .val (.long eb), .second, .val (.int cb), .val (.ref b9), .val (.ref b11), .val (.int (1 : Int32)), .val (.ref b16), .val (.int (1 : Int32)), .val (.int (1 : Int32)), .unset, .unset, .unset] [(.ref b9)])) t
          refine XS.aload X24.here hx rfl (hb hby at_113) rfl rfl ?_
          show Steps p.tables e below (T24.setTop (mkF m 115 #[.val (.long e1), .second, .val (.int c1), .val (.long e2), .second, .val (.int c2), .val (.int fl), .val (.long eb), .second, .val (.int cb), .val (.ref b9), .val (.ref b11), .val (.int (1 : Int32)), .val (.ref b16), .val (.int (1 : Int32)), .val (.int (1 : Int32)), .unset, .unset, .unset] [(.ref b9), (.ref b9)])) t
          refine st25.trans ?_
          show Steps p.tables e below (T25.setTop (mkF m 118 #[.val (.long e1), .second, .val (.int c1), .val (.long e2), .second, .val (.int c2), .val (.int fl), .val (.long eb), .second, .val (.int cb), .val (.ref b9), .val (.ref b11), .val (.int (1 : Int32)), .val (.ref b16), .val (.int (1 : Int32)), .val (.int (1 : Int32)), .unset, .unset, .unset] [(.int (1 : Int32))])) t
          refine XS.istore X25.here hx rfl (hb hby at_118) rfl (l' := #[.val (.long e1), .second, .val (.int c1), .val (.long e2), .second, .val (.int c2), .val (.int fl), .val (.long eb), .second, .val (.int cb), .val (.ref b9), .val (.ref b11), .val (.int (1 : Int32)), .val (.ref b16), .val (.int (1 : Int32)), .val (.int (1 : Int32)), .val (.int (1 : Int32)), .unset, .unset]) rfl ?_
          show Steps p.tables e below (T25.setTop (mkF m 120 #[.val (.long e1), .second, .val (.int c1), .val (.long e2), .second, .val (.int c2), .val (.int fl), .val (.long eb), .second, .val (.int cb), .val (.ref b9), .val (.ref b11), .val (.int (1 : Int32)), .val (.ref b16), .val (.int (1 : Int32)), .val (.int (1 : Int32)), .val (.int (1 : Int32)), .unset, .unset] [])) t
          refine XS.aload X25.here hx rfl (hb hby at_120) rfl rfl ?_
          show Steps p.tables e below (T25.setTop (mkF m 122 #[.val (.long e1), .second, .val (.int c1), .val (.long e2), .second, .val (.int c2), .val (.int fl), .val (.long eb), .second, .val (.int cb), .val (.ref b9), .val (.ref b11), .val (.int (1 : Int32)), .val (.ref b16), .val (.int (1 : Int32)), .val (.int (1 : Int32)), .val (.int (1 : Int32)), .unset, .unset] [(.ref b9)])) t
          refine XS.aconstNull X25.here hx rfl (hb hby at_122) ?_
          show Steps p.tables e below (T25.setTop (mkF m 123 #[.val (.long e1), .second, .val (.int c1), .val (.long e2), .second, .val (.int c2), .val (.int fl), .val (.long eb), .second, .val (.int cb), .val (.ref b9), .val (.ref b11), .val (.int (1 : Int32)), .val (.ref b16), .val (.int (1 : Int32)), .val (.int (1 : Int32)), .val (.int (1 : Int32)), .unset, .unset] [.null, (.ref b9)])) t
          refine st26.trans ?_
          show Steps p.tables e below (T26.setTop (mkF m 126 #[.val (.long e1), .second, .val (.int c1), .val (.long e2), .second, .val (.int c2), .val (.int fl), .val (.long eb), .second, .val (.int cb), .val (.ref b9), .val (.ref b11), .val (.int (1 : Int32)), .val (.ref b16), .val (.int (1 : Int32)), .val (.int (1 : Int32)), .val (.int (1 : Int32)), .unset, .unset] [(.int (0 : Int32))])) t
          refine XS.istore X26.here hx rfl (hb hby at_126) rfl (l' := #[.val (.long e1), .second, .val (.int c1), .val (.long e2), .second, .val (.int c2), .val (.int fl), .val (.long eb), .second, .val (.int cb), .val (.ref b9), .val (.ref b11), .val (.int (1 : Int32)), .val (.ref b16), .val (.int (1 : Int32)), .val (.int (1 : Int32)), .val (.int (1 : Int32)), .val (.int (0 : Int32)), .unset]) rfl ?_
          show Steps p.tables e below (T26.setTop (mkF m 128 #[.val (.long e1), .second, .val (.int c1), .val (.long e2), .second, .val (.int c2), .val (.int fl), .val (.long eb), .second, .val (.int cb), .val (.ref b9), .val (.ref b11), .val (.int (1 : Int32)), .val (.ref b16), .val (.int (1 : Int32)), .val (.int (1 : Int32)), .val (.int (1 : Int32)), .val (.int (0 : Int32)), .unset] [])) t
          refine XS.aload X26.here hx rfl (hb hby at_128) rfl rfl ?_
          show Steps p.tables e below (T26.setTop (mkF m 130 #[.val (.long e1), .second, .val (.int c1), .val (.long e2), .second, .val (.int c2), .val (.int fl), .val (.long eb), .second, .val (.int cb), .val (.ref b9), .val (.ref b11), .val (.int (1 : Int32)), .val (.ref b16), .val (.int (1 : Int32)), .val (.int (1 : Int32)), .val (.int (1 : Int32)), .val (.int (0 : Int32)), .unset] [(.ref b9)])) t
          refine XS.aload X26.here hx rfl (hb hby at_130) rfl rfl ?_
          show Steps p.tables e below (T26.setTop (mkF m 132 #[.val (.long e1), .second, .val (.int c1), .val (.long e2), .second, .val (.int c2), .val (.int fl), .val (.long eb), .second, .val (.int cb), .val (.ref b9), .val (.ref b11), .val (.int (1 : Int32)), .val (.ref b16), .val (.int (1 : Int32)), .val (.int (1 : Int32)), .val (.int (1 : Int32)), .val (.int (0 : Int32)), .unset] [(.ref b16), (.ref b9)])) t
          refine st27.trans ?_
          show Steps p.tables e below (T27.setTop (mkF m 135 #[.val (.long e1), .second, .val (.int c1), .val (.long e2), .second, .val (.int c2), .val (.int fl), .val (.long eb), .second, .val (.int cb), .val (.ref b9), .val (.ref b11), .val (.int (1 : Int32)), .val (.ref b16), .val (.int (1 : Int32)), .val (.int (1 : Int32)), .val (.int (1 : Int32)), .val (.int (0 : Int32)), .unset] [(.int (0 : Int32))])) t
          refine XS.istore X27.here hx rfl (hb hby at_135) rfl (l' := #[.val (.long e1), .second, .val (.int c1), .val (.long e2), .second, .val (.int c2), .val (.int fl), .val (.long eb), .second, .val (.int cb), .val (.ref b9), .val (.ref b11), .val (.int (1 : Int32)), .val (.ref b16), .val (.int (1 : Int32)), .val (.int (1 : Int32)), .val (.int (1 : Int32)), .val (.int (0 : Int32)), .val (.int (0 : Int32))]) rfl ?_
          show Steps p.tables e below (T27.setTop (mkF m 137 #[.val (.long e1), .second, .val (.int c1), .val (.long e2), .second, .val (.int c2), .val (.int fl), .val (.long eb), .second, .val (.int cb), .val (.ref b9), .val (.ref b11), .val (.int (1 : Int32)), .val (.ref b16), .val (.int (1 : Int32)), .val (.int (1 : Int32)), .val (.int (1 : Int32)), .val (.int (0 : Int32)), .val (.int (0 : Int32))] [])) t
          refine XS.iload X27.here hx rfl (hb hby at_137) rfl ?_
          show Steps p.tables e below (T27.setTop (mkF m 139 #[.val (.long e1), .second, .val (.int c1), .val (.long e2), .second, .val (.int c2), .val (.int fl), .val (.long eb), .second, .val (.int cb), .val (.ref b9), .val (.ref b11), .val (.int (1 : Int32)), .val (.ref b16), .val (.int (1 : Int32)), .val (.int (1 : Int32)), .val (.int (1 : Int32)), .val (.int (0 : Int32)), .val (.int (0 : Int32))] [(.int (1 : Int32))])) t
          refine XS.iload X27.here hx rfl (hb hby at_139) rfl ?_
          show Steps p.tables e below (T27.setTop (mkF m 141 #[.val (.long e1), .second, .val (.int c1), .val (.long e2), .second, .val (.int c2), .val (.int fl), .val (.long eb), .second, .val (.int cb), .val (.ref b9), .val (.ref b11), .val (.int (1 : Int32)), .val (.ref b16), .val (.int (1 : Int32)), .val (.int (1 : Int32)), .val (.int (1 : Int32)), .val (.int (0 : Int32)), .val (.int (0 : Int32))] [(.int (1 : Int32)), (.int (1 : Int32))])) t
          refine XS.icmpNo X27.here hx rfl (hb hby at_141) rfl (teq ((by decide) : (1 : Int32) = (1 : Int32))).2 ?_
          show Steps p.tables e below (T27.setTop (mkF m 144 #[.val (.long e1), .second, .val (.int c1), .val (.long e2), .second, .val (.int c2), .val (.int fl), .val (.long eb), .second, .val (.int cb), .val (.ref b9), .val (.ref b11), .val (.int (1 : Int32)), .val (.ref b16), .val (.int (1 : Int32)), .val (.int (1 : Int32)), .val (.int (1 : Int32)), .val (.int (0 : Int32)), .val (.int (0 : Int32))] [])) t
          refine XS.iload X27.here hx rfl (hb hby at_144) rfl ?_
          show Steps p.tables e below (T27.setTop (mkF m 146 #[.val (.long e1), .second, .val (.int c1), .val (.long e2), .second, .val (.int c2), .val (.int fl), .val (.long eb), .second, .val (.int cb), .val (.ref b9), .val (.ref b11), .val (.int (1 : Int32)), .val (.ref b16), .val (.int (1 : Int32)), .val (.int (1 : Int32)), .val (.int (1 : Int32)), .val (.int (0 : Int32)), .val (.int (0 : Int32))] [(.int (1 : Int32))])) t
          refine XS.iload X27.here hx rfl (hb hby at_146) rfl ?_
          show Steps p.tables e below (T27.setTop (mkF m 148 #[.val (.long e1), .second, .val (.int c1), .val (.long e2), .second, .val (.int c2), .val (.int fl), .val (.long eb), .second, .val (.int cb), .val (.ref b9), .val (.ref b11), .val (.int (1 : Int32)), .val (.ref b16), .val (.int (1 : Int32)), .val (.int (1 : Int32)), .val (.int (1 : Int32)), .val (.int (0 : Int32)), .val (.int (0 : Int32))] [(.int (1 : Int32)), (.int (1 : Int32))])) t
          refine XS.icmpNo X27.here hx rfl (hb hby at_148) rfl (teq ((by decide) : (1 : Int32) = (1 : Int32))).2 ?_
          show Steps p.tables e below (T27.setTop (mkF m 151 #[.val (.long e1), .second, .val (.int c1), .val (.long e2), .second, .val (.int c2), .val (.int fl), .val (.long eb), .second, .val (.int cb), .val (.ref b9), .val (.ref b11), .val (.int (1 : Int32)), .val (.ref b16), .val (.int (1 : Int32)), .val (.int (1 : Int32)), .val (.int (1 : Int32)), .val (.int (0 : Int32)), .val (.int (0 : Int32))] [])) t
          refine XS.iload X27.here hx rfl (hb hby at_151) rfl ?_
          show Steps p.tables e below (T27.setTop (mkF m 153 #[.val (.long e1), .second, .val (.int c1), .val (.long e2), .second, .val (.int c2), .val (.int fl), .val (.long eb), .second, .val (.int cb), .val (.ref b9), .val (.ref b11), .val (.int (1 : Int32)), .val (.ref b16), .val (.int (1 : Int32)), .val (.int (1 : Int32)), .val (.int (1 : Int32)), .val (.int (0 : Int32)), .val (.int (0 : Int32))] [(.int (1 : Int32))])) t
          refine XS.ifNo X27.here hx rfl (hb hby at_153) rfl ((if0 _ _).trans (feq ((by decide) : ¬ ((1 : Int32) = (0 : Int32)))).1) ?_
          show Steps p.tables e below (T27.setTop (mkF m 156 #[.val (.long e1), .second, .val (.int c1), .val (.long e2), .second, .val (.int c2), .val (.int fl), .val (.long eb), .second, .val (.int cb), .val (.ref b9), .val (.ref b11), .val (.int (1 : Int32)), .val (.ref b16), .val (.int (1 : Int32)), .val (.int (1 : Int32)), .val (.int (1 : Int32)), .val (.int (0 : Int32)), .val (.int (0 : Int32))] [])) t
          refine XS.iload X27.here hx rfl (hb hby at_156) rfl ?_
          show Steps p.tables e below (T27.setTop (mkF m 158 #[.val (.long e1), .second, .val (.int c1), .val (.long e2), .second, .val (.int c2), .val (.int fl), .val (.long eb), .second, .val (.int cb), .val (.ref b9), .val (.ref b11), .val (.int (1 : Int32)), .val (.ref b16), .val (.int (1 : Int32)), .val (.int (1 : Int32)), .val (.int (1 : Int32)), .val (.int (0 : Int32)), .val (.int (0 : Int32))] [(.int (0 : Int32))])) t
          refine XS.ifNo X27.here hx rfl (hb hby at_158) rfl ((if0 _ _).trans (teq ((by decide) : (0 : Int32) = (0 : Int32))).2) ?_
          show Steps p.tables e below (T27.setTop (mkF m 161 #[.val (.long e1), .second, .val (.int c1), .val (.long e2), .second, .val (.int c2), .val (.int fl), .val (.long eb), .second, .val (.int cb), .val (.ref b9), .val (.ref b11), .val (.int (1 : Int32)), .val (.ref b16), .val (.int (1 : Int32)), .val (.int (1 : Int32)), .val (.int (1 : Int32)), .val (.int (0 : Int32)), .val (.int (0 : Int32))] [])) t
          refine XS.iload X27.here hx rfl (hb hby at_161) rfl ?_
          show Steps p.tables e below (T27.setTop (mkF m 163 #[.val (.long e1), .second, .val (.int c1), .val (.long e2), .second, .val (.int c2), .val (.int fl), .val (.long eb), .second, .val (.int cb), .val (.ref b9), .val (.ref b11), .val (.int (1 : Int32)), .val (.ref b16), .val (.int (1 : Int32)), .val (.int (1 : Int32)), .val (.int (1 : Int32)), .val (.int (0 : Int32)), .val (.int (0 : Int32))] [(.int (0 : Int32))])) t
          refine XS.ifNo X27.here hx rfl (hb hby at_163) rfl ((if0 _ _).trans (teq ((by decide) : (0 : Int32) = (0 : Int32))).2) ?_
          show Steps p.tables e below (T27.setTop (mkF m 166 #[.val (.long e1), .second, .val (.int c1), .val (.long e2), .second, .val (.int c2), .val (.int fl), .val (.long eb), .second, .val (.int cb), .val (.ref b9), .val (.ref b11), .val (.int (1 : Int32)), .val (.ref b16), .val (.int (1 : Int32)), .val (.int (1 : Int32)), .val (.int (1 : Int32)), .val (.int (0 : Int32)), .val (.int (0 : Int32))] [])) t
          refine XS.iconst X27.here hx rfl (hb hby at_166) ?_
          show Steps p.tables e below (T27.setTop (mkF m 167 #[.val (.long e1), .second, .val (.int c1), .val (.long e2), .second, .val (.int c2), .val (.int fl), .val (.long eb), .second, .val (.int cb), .val (.ref b9), .val (.ref b11), .val (.int (1 : Int32)), .val (.ref b16), .val (.int (1 : Int32)), .val (.int (1 : Int32)), .val (.int (1 : Int32)), .val (.int (0 : Int32)), .val (.int (0 : Int32))] [(.int (1 : Int32))])) t
          refine XS.goto X27.here hx rfl (pc0 := 167) (pc' := 171) rfl (hb hby at_167) (by decide) (by decide) ?_
          exact k
        obtain ⟨fs, hr, hrun, hended, hW, hsame⟩ := X27.leave (v := some (.int (1 : Int32))) (fun h => by rw [Bd.returns] at h; cases h)
        refine ⟨_, _, R28 _ ?_, hrun, hended, _, _, rfl, ?_, ⟨_, rfl⟩, hW, hsame.mono (by decide) (by decide)⟩
        · show Steps p.tables e below (T27.setTop (mkF m 171 #[.val (.long e1), .second, .val (.int c1), .val (.long e2), .second, .val (.int c2), .val (.int fl), .val (.long eb), .second, .val (.int cb), .val (.ref b9), .val (.ref b11), .val (.int (1 : Int32)), .val (.ref b16), .val (.int (1 : Int32)), .val (.int (1 : Int32)), .val (.int (1 : Int32)), .val (.int (0 : Int32)), .val (.int (0 : Int32))] [(.int (1 : Int32))])) _
          exact retN X27 hx (t := .boolean) Bd.returns (by simp) (hb hby at_171) hr
        · show Q_rm0 Z wcI ccI wcJ ccJ e1 c1 e2 c2 fl h0 n0 _ T27.heap _
          rw [e27]
          exact ⟨rfl, N27⟩
      · obtain ⟨_, _, ⟨T29, L29, k29, n29⟩, -, X29, ⟨Lc29, hQ29, l29, y29, z29⟩, st29⟩ := Jvm.LawKit.callS X12 hx (y := (⟨"java/lang/Long", "valueOf", "(J)Ljava/lang/Long;"⟩ : MethodName)) hown (mvT hZ (hw _ (List.mem_of_getElem? (i := 45) rfl))) (mvT hZ (hw _ (List.mem_of_getElem? (i := 46) rfl))) (mvT hZ (hw _ (List.mem_of_getElem? (i := 47) rfl))) (mvT hZ (hw _ (List.mem_of_getElem? (i := 48) rfl))) (by decide) (backOf (W := 0) (valueOfJ l Z a0 hw [] wcI ccI wcJ ccJ e1 T12.heap n0 O12 S_cI B_cI S_hi S_cJ B_cJ   ) hZ (hw _ (List.mem_of_getElem? (i := 48) rfl)) (hw _ (List.mem_of_getElem? (i := 47) rfl)) (by decide) (by decide)) (g := (mkF m 81 #[.val (.long e1), .second, .val (.int c1), .val (.long e2), .second, .val (.int c2), .val (.int fl), .val (.long eb), .second, .val (.int cb), .val (.ref b9), .val (.ref b11), .val (.int (1 : Int32)), .unset, .unset, .unset, .unset, .unset, .unset] [(.long e1)])) rfl (by rw [hml]; rfl) (argsL := [(.long e1)]) (rest := []) (lenOf pd_6 rfl) rfl (by show 2 * 0 + _ ≤ _; exact Nat.le_of_eq rfl) (hb hby at_81) (fun _ _ => ⟨rfl, rfl, (by decide : 2 + 1 ≤ _), (by decide : 4 + 1 ≤ _)⟩)
        dsimp only [Pt.U, Pt.locs, Pt.cells, Pt.slots] at X29 l29 y29 z29 st29 hQ29
        subst l29 y29 z29
        obtain ⟨b29, rfl, N29q, K29q, y29_0⟩ := hQ29
        have N29 := Fr.app N12 N29q
        have Z29 : n0 ≤ T29.heap.size := Nat.le_trans Z12 K29q.1
        have K29 : Keep h0 T29.heap [] := K12.trans K29q all0
        have O29 : Old Z n0 T29.heap := O12.keep K29q all0
        have f31 : Exa Z T29.heap b9 "com/example/ballot/ballot/model/Vote" := (((y10_0.ext E11).keep K12q).keep K29q)
        have f32 : Exa Z T29.heap b11 "com/example/ballot/ballot/model/Vote" := (y12_0.keep K29q)
        have f33 : Fld Z T29.heap b9 "com/example/ballot/ballot/model/Vote" "epoch" "J" (.long e1) := (((y10_1.ext E11).keep K12q (ninS ne_b9_b11 nin0)).keep K29q nin0)
        have f34 : Fld Z T29.heap b11 "com/example/ballot/ballot/model/Vote" "epoch" "J" (.long eb) := (y12_1.keep K29q nin0)
        have f35 : Fld Z T29.heap b9 "com/example/ballot/ballot/model/Vote" "candidate" "I" (.int c1) := (((y10_2.ext E11).keep K12q (ninS ne_b9_b11 nin0)).keep K29q nin0)
        have f36 : Fld Z T29.heap b11 "com/example/ballot/ballot/model/Vote" "candidate" "I" (.int cb) := (y12_2.keep K29q nin0)
        obtain ⟨cq30, kq30, q30a, q30b, q30c⟩ := isOf hZ rfl f31
        obtain ⟨_, _, ⟨T30, L30, k30, n30⟩, -, X30, ⟨Lc30, hQ30, l30, y30, z30⟩, st30⟩ := X29.virtualBack hx (y := (⟨"com/example/ballot/ballot/model/Vote", "equals", "(Ljava/lang/Object;)Z"⟩ : MethodName)) (z := (⟨"com/example/ballot/ballot/model/Vote", "equals", "(Ljava/lang/Object;)Z"⟩ : MethodName)) hown (mvT hZ (hw _ (List.mem_of_getElem? (i := 20) rfl))) (mvT hZ (hw _ (List.mem_of_getElem? (i := 21) rfl))) (notFace_of_selects (args := #[]) (mvT hZ (hw _ (List.mem_of_getElem? (i := 23) rfl)))) (mvT hZ (hw _ (List.mem_of_getElem? (i := 23) rfl))) (mvT hZ (hw _ (List.mem_of_getElem? (i := 22) rfl))) (by decide) (backOf (W := 0) (eqT l Z a0 hw [] wcI ccI wcJ ccJ b9 b11 e1 eb c1 cb T29.heap n0 O29 S_cI B_cI S_hi S_cJ B_cJ   f31 f32 f33 f34 f35 f36 hl hc) hZ (hw _ (List.mem_of_getElem? (i := 24) rfl)) (hw _ (List.mem_of_getElem? (i := 2) rfl)) (by decide) (by decide)) q30a q30c (g := (mkF m 97 #[.val (.long e1), .second, .val (.int c1), .val (.long e2), .second, .val (.int c2), .val (.int fl), .val (.long eb), .second, .val (.int cb), .val (.ref b9), .val (.ref b11), .val (.int (1 : Int32)), .val (.ref b29), .unset, .unset, .unset, .unset, .unset] [(.ref b11), (.ref b9)])) rfl (by rw [hml]; rfl) (Steps.refl _) (argsL := [(.ref b11)]) (rest := []) (lenOf pd_5 rfl) rfl (by show 2 * 0 + _ ≤ _; exact Nat.le_of_eq rfl) (hb hby at_97) (fun _ _ => ⟨rfl, rfl, (by decide : 3 + 0 ≤ _), (by decide : 5 + 0 ≤ _)⟩)
        dsimp only [Pt.U, Pt.locs, Pt.cells, Pt.slots] at X30 l30 y30 z30 st30 hQ30
        subst l30 y30 z30
        obtain ⟨rfl, N30q, e30⟩ := hQ30
        have N30 := Fr.app N29 N30q
        obtain ⟨cq37, kq37, q37a, q37b, q37c⟩ := isOf hZ e30 f32
        obtain ⟨_, _, ⟨T37, L37, k37, n37⟩, -, X37, ⟨Lc37, hQ37, l37, y37, z37⟩, st37⟩ := X30.virtualBack hx (y := (⟨"com/example/ballot/ballot/model/Vote", "equals", "(Ljava/lang/Object;)Z"⟩ : MethodName)) (z := (⟨"com/example/ballot/ballot/model/Vote", "equals", "(Ljava/lang/Object;)Z"⟩ : MethodName)) hown (mvT hZ (hw _ (List.mem_of_getElem? (i := 20) rfl))) (mvT hZ (hw _ (List.mem_of_getElem? (i := 21) rfl))) (notFace_of_selects (args := #[]) (mvT hZ (hw _ (List.mem_of_getElem? (i := 23) rfl)))) (mvT hZ (hw _ (List.mem_of_getElem? (i := 23) rfl))) (mvT hZ (hw _ (List.mem_of_getElem? (i := 22) rfl))) (by decide) (backOf (W := 0) (eqT l Z a0 hw [] wcI ccI wcJ ccJ b11 b9 eb e1 cb c1 T29.heap n0 O29 S_cI B_cI S_hi S_cJ B_cJ   f32 f31 f34 f33 f36 f35 ((lw_eq _ _).2 ((lw_eq _ _).1 hl).symm) hc.symm) hZ (hw _ (List.mem_of_getElem? (i := 24) rfl)) (hw _ (List.mem_of_getElem? (i := 2) rfl)) (by decide) (by decide)) q37a q37c (g := (mkF m 106 #[.val (.long e1), .second, .val (.int c1), .val (.long e2), .second, .val (.int c2), .val (.int fl), .val (.long eb), .second, .val (.int cb), .val (.ref b9), .val (.ref b11), .val (.int (1 : Int32)), .val (.ref b29), .val (.int (1 : Int32)), .unset, .unset, .unset, .unset] [(.ref b9), (.ref b11)])) rfl (by rw [hml]; rfl) (Steps.refl _) (argsL := [(.ref b9)]) (rest := []) (lenOf pd_5 rfl) rfl (by show 2 * 0 + _ ≤ _; exact Nat.le_of_eq rfl) (hb hby at_106) (fun _ _ => ⟨rfl, e30, (by decide : 3 + 0 ≤ _), (by decide : 5 + 0 ≤ _)⟩)
        dsimp only [Pt.U, Pt.locs, Pt.cells, Pt.slots] at X37 l37 y37 z37 st37 hQ37
        subst l37 y37 z37
        obtain ⟨rfl, N37q, e37⟩ := hQ37
        have N37 := Fr.app N30 N37q
        obtain ⟨cq38, kq38, q38a, q38b, q38c⟩ := isOf hZ e37 f31
        obtain ⟨_, _, ⟨T38, L38, k38, n38⟩, -, X38, ⟨Lc38, hQ38, l38, y38, z38⟩, st38⟩ := X37.virtualBack hx (y := (⟨"com/example/ballot/ballot/model/Vote", "equals", "(Ljava/lang/Object;)Z"⟩ : MethodName)) (z := (⟨"com/example/ballot/ballot/model/Vote", "equals", "(Ljava/lang/Object;)Z"⟩ : MethodName)) hown (mvT hZ (hw _ (List.mem_of_getElem? (i := 20) rfl))) (mvT hZ (hw _ (List.mem_of_getElem? (i := 21) rfl))) (notFace_of_selects (args := #[]) (mvT hZ (hw _ (List.mem_of_getElem? (i := 23) rfl)))) (mvT hZ (hw _ (List.mem_of_getElem? (i := 23) rfl))) (mvT hZ (hw _ (List.mem_of_getElem? (i := 22) rfl))) (by decide) (backOf (W := 0) (eqT l Z a0 hw [] wcI ccI wcJ ccJ b9 b9 e1 e1 c1 c1 T29.heap n0 O29 S_cI B_cI S_hi S_cJ B_cJ   f31 f31 f33 f33 f35 f35 ((lw_eq _ _).2 rfl) rfl) hZ (hw _ (List.mem_of_getElem? (i := 24) rfl)) (hw _ (List.mem_of_getElem? (i := 2) rfl)) (by decide) (by decide)) q38a q38c (g := (mkF m 115 #[.val (.long e1), .second, .val (.int c1), .val (.long e2), .second, .val (.int c2), .val (.int fl), .val (.long eb), .second, .val (.int cb), .val (.ref b9), .val (.ref b11), .val (.int (1 : Int32)), .val (.ref b29), .val (.int (1 : Int32)), .val (.int (1 : Int32)), .unset, .unset, .unset] [(.ref b9), (.ref b9)])) rfl (by rw [hml]; rfl) (Steps.refl _) (argsL := [(.ref b9)]) (rest := []) (lenOf pd_5 rfl) rfl (by show 2 * 0 + _ ≤ _; exact Nat.le_of_eq rfl) (hb hby at_115) (fun _ _ => ⟨rfl, e37, (by decide : 3 + 0 ≤ _), (by decide : 5 + 0 ≤ _)⟩)
        dsimp only [Pt.U, Pt.locs, Pt.cells, Pt.slots] at X38 l38 y38 z38 st38 hQ38
        subst l38 y38 z38
        obtain ⟨rfl, N38q, e38⟩ := hQ38
        have N38 := Fr.app N37 N38q
        obtain ⟨cq39, kq39, q39a, q39b, q39c⟩ := isOf hZ e38 f31
        obtain ⟨_, _, ⟨T39, L39, k39, n39⟩, -, X39, ⟨Lc39, hQ39, l39, y39, z39⟩, st39⟩ := X38.virtualBack hx (y := (⟨"com/example/ballot/ballot/model/Vote", "equals", "(Ljava/lang/Object;)Z"⟩ : MethodName)) (z := (⟨"com/example/ballot/ballot/model/Vote", "equals", "(Ljava/lang/Object;)Z"⟩ : MethodName)) hown (mvT hZ (hw _ (List.mem_of_getElem? (i := 20) rfl))) (mvT hZ (hw _ (List.mem_of_getElem? (i := 21) rfl))) (notFace_of_selects (args := #[]) (mvT hZ (hw _ (List.mem_of_getElem? (i := 23) rfl)))) (mvT hZ (hw _ (List.mem_of_getElem? (i := 23) rfl))) (mvT hZ (hw _ (List.mem_of_getElem? (i := 22) rfl))) (by decide) (backOf (W := 0) (eqN l Z a0 hw [] wcI ccI wcJ ccJ b9 T29.heap n0 O29 S_cI B_cI S_hi S_cJ B_cJ   ) hZ (hw _ (List.mem_of_getElem? (i := 24) rfl)) (hw _ (List.mem_of_getElem? (i := 2) rfl)) (by decide) (by decide)) q39a q39c (g := (mkF m 123 #[.val (.long e1), .second, .val (.int c1), .val (.long e2), .second, .val (.int c2), .val (.int fl), .val (.long eb), .second, .val (.int cb), .val (.ref b9), .val (.ref b11), .val (.int (1 : Int32)), .val (.ref b29), .val (.int (1 : Int32)), .val (.int (1 : Int32)), .val (.int (1 : Int32)), .unset, .unset] [.null, (.ref b9)])) rfl (by rw [hml]; rfl) (Steps.refl _) (argsL := [.null]) (rest := []) (lenOf pd_5 rfl) rfl (by show 2 * 0 + _ ≤ _; exact Nat.le_of_eq rfl) (hb hby at_123) (fun _ _ => ⟨rfl, e38, (by decide : 3 + 0 ≤ _), (by decide : 5 + 0 ≤ _)⟩)
        dsimp only [Pt.U, Pt.locs, Pt.cells, Pt.slots] at X39 l39 y39 z39 st39 hQ39
        subst l39 y39 z39
        obtain ⟨rfl, N39q, e39⟩ := hQ39
        have N39 := Fr.app N38 N39q
        obtain ⟨cq40, kq40, q40a, q40b, q40c⟩ := isOf hZ e39 f31
        obtain ⟨_, _, ⟨T40, L40, k40, n40⟩, -, X40, ⟨Lc40, hQ40, l40, y40, z40⟩, st40⟩ := X39.virtualBack hx (y := (⟨"com/example/ballot/ballot/model/Vote", "equals", "(Ljava/lang/Object;)Z"⟩ : MethodName)) (z := (⟨"com/example/ballot/ballot/model/Vote", "equals", "(Ljava/lang/Object;)Z"⟩ : MethodName)) hown (mvT hZ (hw _ (List.mem_of_getElem? (i := 20) rfl))) (mvT hZ (hw _ (List.mem_of_getElem? (i := 21) rfl))) (notFace_of_selects (args := #[]) (mvT hZ (hw _ (List.mem_of_getElem? (i := 23) rfl)))) (mvT hZ (hw _ (List.mem_of_getElem? (i := 23) rfl))) (mvT hZ (hw _ (List.mem_of_getElem? (i := 22) rfl))) (by decide) (backOf (W := 0) (eqOJ l Z a0 hw [] wcI ccI wcJ ccJ b9 b29 T29.heap n0 O29 S_cI B_cI S_hi S_cJ B_cJ   y29_0) hZ (hw _ (List.mem_of_getElem? (i := 24) rfl)) (hw _ (List.mem_of_getElem? (i := 2) rfl)) (by decide) (by decide)) q40a q40c (g := (mkF m 132 #[.val (.long e1), .second, .val (.int c1), .val (.long e2), .second, .val (.int c2), .val (.int fl), .val (.long eb), .second, .val (.int cb), .val (.ref b9), .val (.ref b11), .val (.int (1 : Int32)), .val (.ref b29), .val (.int (1 : Int32)), .val (.int (1 : Int32)), .val (.int (1 : Int32)), .val (.int (0 : Int32)), .unset] [(.ref b29), (.ref b9)])) rfl (by rw [hml]; rfl) (Steps.refl _) (argsL := [(.ref b29)]) (rest := []) (lenOf pd_5 rfl) rfl (by show 2 * 0 + _ ≤ _; exact Nat.le_of_eq rfl) (hb hby at_132) (fun _ _ => ⟨rfl, e39, (by decide : 3 + 0 ≤ _), (by decide : 5 + 0 ≤ _)⟩)
        dsimp only [Pt.U, Pt.locs, Pt.cells, Pt.slots] at X40 l40 y40 z40 st40 hQ40
        subst l40 y40 z40
        obtain ⟨rfl, N40q, e40⟩ := hQ40
        have N40 := Fr.app N39 N40q
        have R41 : ∀ t, Steps p.tables e below (T40.setTop (mkF m 171 #[.val (.long e1), .second, .val (.int c1), .val (.long e2), .second, .val (.int c2), .val (.int fl), .val (.long eb), .second, .val (.int cb), .val (.ref b9), .val (.ref b11), .val (.int (1 : Int32)), .val (.ref b29), .val (.int (1 : Int32)), .val (.int (1 : Int32)), .val (.int (1 : Int32)), .val (.int (0 : Int32)), .val (.int (0 : Int32))] [(.int (1 : Int32))])) t → Steps p.tables e below (s₁.setTop (entryFrame m #[(.long e1), (.int c1), (.long e2), (.int c2), (.int fl)] maxLocals)) t := by
          intro t k
          refine R15 t ?_
          show Steps p.tables e below (T12.setTop (mkF m 77 #[.val (.long e1), .second, .val (.int c1), .val (.long e2), .second, .val (.int c2), .val (.int fl), .val (.long eb), .second, .val (.int cb), .val (.ref b9), .val (.ref b11), .val (.int (1 : Int32)), .unset, .unset, .unset, .unset, .unset, .unset] [(.int (fl &&& (4 : Int32)))])) t
          refine XS.ifNo X12.here hx rfl (hb hby at_77) rfl ((if0 _ _).trans (feq (hf : ¬ ((fl &&& (4 : Int32)) = (0 : Int32)))).1) ?_
          show Steps p.tables e below (T12.setTop (mkF m 80 #[.val (.long e1), .second, .val (.int c1), .val (.long e2), .second, .val (.int c2), .val (.int fl), .val (.long eb), .second, .val (.int cb), .val (.ref b9), .val (.ref b11), .val (.int (1 : Int32)), .unset, .unset, .unset, .unset, .unset, .unset] [])) t
          refine XS.lloadN X12.here hx rfl (hb hby at_80) rfl ?_
          show Steps p.tables e below (T12.setTop (mkF m 81 #[.val (.long e1), .second, .val (.int c1), .val (.long e2), .second, .val (.int c2), .val (.int fl), .val (.long eb), .second, .val (.int cb), .val (.ref b9), .val (.ref b11), .val (.int (1 : Int32)), .unset, .unset, .unset, .unset, .unset, .unset] [(.long e1)])) t
          refine st29 _ ?_
          show Steps p.tables e below (T29.setTop (mkF m 84 #[.val (.long e1), .second, .val (.int c1), .val (.long e2), .second, .val (.int c2), .val (.int fl), .val (.long eb), .second, .val (.int cb), .val (.ref b9), .val (.ref b11), .val (.int (1 : Int32)), .unset, .unset, .unset, .unset, .unset, .unset] [(.ref b29)])) t
          refine XS.goto X29.here hx rfl (pc0 := 84) (pc' := 91) rfl (hb hby at_84) (by decide) (by decide) ?_
          show Steps p.tables e below (T29.setTop (mkF m 91 #[.val (.long e1), .second, .val (.int c1), .val (.long e2), .second, .val (.int c2), .val (.int fl), .val (.long eb), .second, .val (.int cb), .val (.ref b9), .val (.ref b11), .val (.int (1 : Int32)), .unset, .unset, .unset, .unset, .unset, .unset] [(.ref b29)])) t
          refine XS.astore X29.here hx rfl (hb hby at_91) rfl rfl (l' := #[.val (.long e1), .second, .val (.int c1), .val (.long e2), .second, .val (.int c2), .val (.int fl), .val (.long eb), .second, .val (.int cb), .val (.ref b9), .val (.ref b11), .val (.int (1 : Int32)), .val (.ref b29), .unset, .unset, .unset, .unset, .unset]) rfl ?_
          show Steps p.tables e below (T29.setTop (mkF m 93 #[.val (.long e1), .second, .val (.int c1), .val (.long e2), .second, .val (.int c2), .val (.int fl), .val (.long eb), .second, .val (.int cb), .val (.ref b9), .val (.ref b11), .val (.int (1 : Int32)), .val (.ref b29), .unset, .unset, .unset, .unset, .unset] [])) t
          refine XS.aload X29.here hx rfl (hb hby at_93) rfl rfl ?_
          show Steps p.tables e below (T29.setTop (mkF m 95 #[.val (.long e1), .second, .val (.int c1), .val (.long e2), .second, .val (.int c2), .val (.int fl), .val (.long eb), .second, .val (.int cb), .val (.ref b9), .val (.ref b11), .val (.int (1 : Int32)), .val (.ref b29), .unset, .unset, .unset, .unset, .unset] [(.ref b9)])) t
          refine XS.aload X29.here hx rfl (hb hby at_95) rfl rfl ?_
          show Steps p.tables e below (T29.setTop (mkF m 97 #[.val (.long e1), .second, .val (.int c1), .val (.long e2), .second, .val (.int c2), .val (.int fl), .val (.long eb), .second, .val (.int cb), .val (.ref b9), .val (.ref b11), .val (.int (1 : Int32)), .val (.ref b29), .unset, .unset, .unset, .unset, .unset] [(.ref b11), (.ref b9)])) t
          refine st30.trans ?_
          show Steps p.tables e below (T30.setTop (mkF m 100 #[.val (.long e1), .second, .val (.int c1), .val (.long e2), .second, .val (.int c2), .val (.int fl), .val (.long eb), .second, .val (.int cb), .val (.ref b9), .val (.ref b11), .val (.int (1 : Int32)), .val (.ref b29), .unset, .unset, .unset, .unset, .unset] [(.int (1 : Int32))])) t
          refine XS.istore X30.here hx rfl (hb hby at_100) rfl (l' := #[.val (.long e1), .second, .val (.int c1), .val (.long e2), .second, .val (.int c2), .val (.int fl), .val (.long eb), .second, .val (.int cb), .val (.ref b9), .val (.ref b11), .val (.int (1 : Int32)), .val (.ref b29), .val (.int (1 : Int32)), .unset, .unset, .unset, .unset]) rfl ?_
          show Steps p.tables e below (T30.setTop (mkF m 102 #[.val (.long e1), .second, .val (.int c1), .val (.long e2), .second, .val (.int c2), .val (.int fl), .val (.long eb), .second, .val (.int cb), .val (.ref b9), .val (.ref b11), .val (.int (1 : Int32)), .val (.ref b29), .val (.int (1 : Int32)), .unset, .unset, .unset, .unset] [])) t
          refine XS.aload X30.here hx rfl (hb hby at_102) rfl rfl ?_
          show Steps p.tables e below (T30.setTop (mkF m 104 #[.val (.long e1), .second, .val (.int c1), .val (.long e2), .second, .val (.int c2), .val (.int fl), .val (.long eb), .second, .val (.int cb), .val (.ref b9), .val (.ref b11), .val (.int (1 : Int32)), .val (.ref b29), .val (.int (1 : Int32)), .unset, .unset, .unset, .unset] [(.ref b11)])) t
          refine XS.aload X30.here hx rfl (hb hby at_104) rfl rfl ?_
          show Steps p.tables e below (T30.setTop (mkF m 106 #[.val (.long e1), .second, .val (.int c1), .val (.long e2), .second, .val (.int c2), .val (.int fl), .val (.long eb), .second, .val (.int cb), .val (.ref b9), .val (.ref b11), .val (.int (1 : Int32)), .val (.ref b29), .val (.int (1 : Int32)), .unset, .unset, .unset, .unset] [(.ref b9), (.ref b11)])) t
          refine st37.trans ?_
          show Steps p.tables e below (T37.setTop (mkF m 109 #[.val (.long e1), .second, .val (.int c1), .val (.long e2), .second, .val (.int c2), .val (.int fl), .val (.long eb), .second, .val (.int cb), .val (.ref b9), .val (.ref b11), .val (.int (1 : Int32)), .val (.ref b29), .val (.int (1 : Int32)), .unset, .unset, .unset, .unset] [(.int (1 : Int32))])) t
          refine XS.istore X37.here hx rfl (hb hby at_109) rfl (l' := #[.val (.long e1), .second, .val (.int c1), .val (.long e2), .second, .val (.int c2), .val (.int fl), .val (.long eb), .second, .val (.int cb), .val (.ref b9), .val (.ref b11), .val (.int (1 : Int32)), .val (.ref b29), .val (.int (1 : Int32)), .val (.int (1 : Int32)), .unset, .unset, .unset]) rfl ?_
          show Steps p.tables e below (T37.setTop (mkF m 111 #[.val (.long e1), .second, .val (.int c1), .val (.long e2), .second, .val (.int c2), .val (.int fl), .val (.long eb), .second, .val (.int cb), .val (.ref b9), .val (.ref b11), .val (.int (1 : Int32)), .val (.ref b29), .val (.int (1 : Int32)), .val (.int (1 : Int32)), .unset, .unset, .unset] [])) t
          refine XS.aload X37.here hx rfl (hb hby at_111) rfl rfl ?_
          show Steps p.tables e below (T37.setTop (mkF m 113 #[.val (.long e1), .second, .val (.int c1), .val (.long e2), .second, .val (.int c2), .val (.int fl), .val (.long eb), .second, .val (.int cb), .val (.ref b9), .val (.ref b11), .val (.int (1 : Int32)), .val (.ref b29), .val (.int (1 : Int32)), .val (.int (1 : Int32)), .unset, .unset, .unset] [(.ref b9)])) t
          refine XS.aload X37.here hx rfl (hb hby at_113) rfl rfl ?_
          show Steps p.tables e below (T37.setTop (mkF m 115 #[.val (.long e1), .second, .val (.int c1), .val (.long e2), .second, .val (.int c2), .val (.int fl), .val (.long eb), .second, .val (.int cb), .val (.ref b9), .val (.ref b11), .val (.int (1 : Int32)), .val (.ref b29), .val (.int (1 : Int32)), .val (.int (1 : Int32)), .unset, .unset, .unset] [(.ref b9), (.ref b9)])) t
          refine st38.trans ?_
          show Steps p.tables e below (T38.setTop (mkF m 118 #[.val (.long e1), .second, .val (.int c1), .val (.long e2), .second, .val (.int c2), .val (.int fl), .val (.long eb), .second, .val (.int cb), .val (.ref b9), .val (.ref b11), .val (.int (1 : Int32)), .val (.ref b29), .val (.int (1 : Int32)), .val (.int (1 : Int32)), .unset, .unset, .unset] [(.int (1 : Int32))])) t
          refine XS.istore X38.here hx rfl (hb hby at_118) rfl (l' := #[.val (.long e1), .second, .val (.int c1), .val (.long e2), .second, .val (.int c2), .val (.int fl), .val (.long eb), .second, .val (.int cb), .val (.ref b9), .val (.ref b11), .val (.int (1 : Int32)), .val (.ref b29), .val (.int (1 : Int32)), .val (.int (1 : Int32)), .val (.int (1 : Int32)), .unset, .unset]) rfl ?_
          show Steps p.tables e below (T38.setTop (mkF m 120 #[.val (.long e1), .second, .val (.int c1), .val (.long e2), .second, .val (.int c2), .val (.int fl), .val (.long eb), .second, .val (.int cb), .val (.ref b9), .val (.ref b11), .val (.int (1 : Int32)), .val (.ref b29), .val (.int (1 : Int32)), .val (.int (1 : Int32)), .val (.int (1 : Int32)), .unset, .unset] [])) t
          refine XS.aload X38.here hx rfl (hb hby at_120) rfl rfl ?_
          show Steps p.tables e below (T38.setTop (mkF m 122 #[.val (.long e1), .second, .val (.int c1), .val (.long e2), .second, .val (.int c2), .val (.int fl), .val (.long eb), .second, .val (.int cb), .val (.ref b9), .val (.ref b11), .val (.int (1 : Int32)), .val (.ref b29), .val (.int (1 : Int32)), .val (.int (1 : Int32)), .val (.int (1 : Int32)), .unset, .unset] [(.ref b9)])) t
          refine XS.aconstNull X38.here hx rfl (hb hby at_122) ?_
          show Steps p.tables e below (T38.setTop (mkF m 123 #[.val (.long e1), .second, .val (.int c1), .val (.long e2), .second, .val (.int c2), .val (.int fl), .val (.long eb), .second, .val (.int cb), .val (.ref b9), .val (.ref b11), .val (.int (1 : Int32)), .val (.ref b29), .val (.int (1 : Int32)), .val (.int (1 : Int32)), .val (.int (1 : Int32)), .unset, .unset] [.null, (.ref b9)])) t
          refine st39.trans ?_
          show Steps p.tables e below (T39.setTop (mkF m 126 #[.val (.long e1), .second, .val (.int c1), .val (.long e2), .second, .val (.int c2), .val (.int fl), .val (.long eb), .second, .val (.int cb), .val (.ref b9), .val (.ref b11), .val (.int (1 : Int32)), .val (.ref b29), .val (.int (1 : Int32)), .val (.int (1 : Int32)), .val (.int (1 : Int32)), .unset, .unset] [(.int (0 : Int32))])) t
          refine XS.istore X39.here hx rfl (hb hby at_126) rfl (l' := #[.val (.long e1), .second, .val (.int c1), .val (.long e2), .second, .val (.int c2), .val (.int fl), .val (.long eb), .second, .val (.int cb), .val (.ref b9), .val (.ref b11), .val (.int (1 : Int32)), .val (.ref b29), .val (.int (1 : Int32)), .val (.int (1 : Int32)), .val (.int (1 : Int32)), .val (.int (0 : Int32)), .unset]) rfl ?_
          show Steps p.tables e below (T39.setTop (mkF m 128 #[.val (.long e1), .second, .val (.int c1), .val (.long e2), .second, .val (.int c2), .val (.int fl), .val (.long eb), .second, .val (.int cb), .val (.ref b9), .val (.ref b11), .val (.int (1 : Int32)), .val (.ref b29), .val (.int (1 : Int32)), .val (.int (1 : Int32)), .val (.int (1 : Int32)), .val (.int (0 : Int32)), .unset] [])) t
          refine XS.aload X39.here hx rfl (hb hby at_128) rfl rfl ?_
          show Steps p.tables e below (T39.setTop (mkF m 130 #[.val (.long e1), .second, .val (.int c1), .val (.long e2), .second, .val (.int c2), .val (.int fl), .val (.long eb), .second, .val (.int cb), .val (.ref b9), .val (.ref b11), .val (.int (1 : Int32)), .val (.ref b29), .val (.int (1 : Int32)), .val (.int (1 : Int32)), .val (.int (1 : Int32)), .val (.int (0 : Int32)), .unset] [(.ref b9)])) t
          refine XS.aload X39.here hx rfl (hb hby at_130) rfl rfl ?_
          show Steps p.tables e below (T39.setTop (mkF m 132 #[.val (.long e1), .second, .val (.int c1), .val (.long e2), .second, .val (.int c2), .val (.int fl), .val (.long eb), .second, .val (.int cb), .val (.ref b9), .val (.ref b11), .val (.int (1 : Int32)), .val (.ref b29), .val (.int (1 : Int32)), .val (.int (1 : Int32)), .val (.int (1 : Int32)), .val (.int (0 : Int32)), .unset] [(.ref b29), (.ref b9)])) t
          refine st40.trans ?_
          show Steps p.tables e below (T40.setTop (mkF m 135 #[.val (.long e1), .second, .val (.int c1), .val (.long e2), .second, .val (.int c2), .val (.int fl), .val (.long eb), .second, .val (.int cb), .val (.ref b9), .val (.ref b11), .val (.int (1 : Int32)), .val (.ref b29), .val (.int (1 : Int32)), .val (.int (1 : Int32)), .val (.int (1 : Int32)), .val (.int (0 : Int32)), .unset] [(.int (0 : Int32))])) t
          refine XS.istore X40.here hx rfl (hb hby at_135) rfl (l' := #[.val (.long e1), .second, .val (.int c1), .val (.long e2), .second, .val (.int c2), .val (.int fl), .val (.long eb), .second, .val (.int cb), .val (.ref b9), .val (.ref b11), .val (.int (1 : Int32)), .val (.ref b29), .val (.int (1 : Int32)), .val (.int (1 : Int32)), .val (.int (1 : Int32)), .val (.int (0 : Int32)), .val (.int (0 : Int32))]) rfl ?_
          show Steps p.tables e below (T40.setTop (mkF m 137 #[.val (.long e1), .second, .val (.int c1), .val (.long e2), .second, .val (.int c2), .val (.int fl), .val (.long eb), .second, .val (.int cb), .val (.ref b9), .val (.ref b11), .val (.int (1 : Int32)), .val (.ref b29), .val (.int (1 : Int32)), .val (.int (1 : Int32)), .val (.int (1 : Int32)), .val (.int (0 : Int32)), .val (.int (0 : Int32))] [])) t
          refine XS.iload X40.here hx rfl (hb hby at_137) rfl ?_
          show Steps p.tables e below (T40.setTop (mkF m 139 #[.val (.long e1), .second, .val (.int c1), .val (.long e2), .second, .val (.int c2), .val (.int fl), .val (.long eb), .second, .val (.int cb), .val (.ref b9), .val (.ref b11), .val (.int (1 : Int32)), .val (.ref b29), .val (.int (1 : Int32)), .val (.int (1 : Int32)), .val (.int (1 : Int32)), .val (.int (0 : Int32)), .val (.int (0 : Int32))] [(.int (1 : Int32))])) t
          refine XS.iload X40.here hx rfl (hb hby at_139) rfl ?_
          show Steps p.tables e below (T40.setTop (mkF m 141 #[.val (.long e1), .second, .val (.int c1), .val (.long e2), .second, .val (.int c2), .val (.int fl), .val (.long eb), .second, .val (.int cb), .val (.ref b9), .val (.ref b11), .val (.int (1 : Int32)), .val (.ref b29), .val (.int (1 : Int32)), .val (.int (1 : Int32)), .val (.int (1 : Int32)), .val (.int (0 : Int32)), .val (.int (0 : Int32))] [(.int (1 : Int32)), (.int (1 : Int32))])) t
          refine XS.icmpNo X40.here hx rfl (hb hby at_141) rfl (teq ((by decide) : (1 : Int32) = (1 : Int32))).2 ?_
          show Steps p.tables e below (T40.setTop (mkF m 144 #[.val (.long e1), .second, .val (.int c1), .val (.long e2), .second, .val (.int c2), .val (.int fl), .val (.long eb), .second, .val (.int cb), .val (.ref b9), .val (.ref b11), .val (.int (1 : Int32)), .val (.ref b29), .val (.int (1 : Int32)), .val (.int (1 : Int32)), .val (.int (1 : Int32)), .val (.int (0 : Int32)), .val (.int (0 : Int32))] [])) t
          refine XS.iload X40.here hx rfl (hb hby at_144) rfl ?_
          show Steps p.tables e below (T40.setTop (mkF m 146 #[.val (.long e1), .second, .val (.int c1), .val (.long e2), .second, .val (.int c2), .val (.int fl), .val (.long eb), .second, .val (.int cb), .val (.ref b9), .val (.ref b11), .val (.int (1 : Int32)), .val (.ref b29), .val (.int (1 : Int32)), .val (.int (1 : Int32)), .val (.int (1 : Int32)), .val (.int (0 : Int32)), .val (.int (0 : Int32))] [(.int (1 : Int32))])) t
          refine XS.iload X40.here hx rfl (hb hby at_146) rfl ?_
          show Steps p.tables e below (T40.setTop (mkF m 148 #[.val (.long e1), .second, .val (.int c1), .val (.long e2), .second, .val (.int c2), .val (.int fl), .val (.long eb), .second, .val (.int cb), .val (.ref b9), .val (.ref b11), .val (.int (1 : Int32)), .val (.ref b29), .val (.int (1 : Int32)), .val (.int (1 : Int32)), .val (.int (1 : Int32)), .val (.int (0 : Int32)), .val (.int (0 : Int32))] [(.int (1 : Int32)), (.int (1 : Int32))])) t
          refine XS.icmpNo X40.here hx rfl (hb hby at_148) rfl (teq ((by decide) : (1 : Int32) = (1 : Int32))).2 ?_
          show Steps p.tables e below (T40.setTop (mkF m 151 #[.val (.long e1), .second, .val (.int c1), .val (.long e2), .second, .val (.int c2), .val (.int fl), .val (.long eb), .second, .val (.int cb), .val (.ref b9), .val (.ref b11), .val (.int (1 : Int32)), .val (.ref b29), .val (.int (1 : Int32)), .val (.int (1 : Int32)), .val (.int (1 : Int32)), .val (.int (0 : Int32)), .val (.int (0 : Int32))] [])) t
          refine XS.iload X40.here hx rfl (hb hby at_151) rfl ?_
          show Steps p.tables e below (T40.setTop (mkF m 153 #[.val (.long e1), .second, .val (.int c1), .val (.long e2), .second, .val (.int c2), .val (.int fl), .val (.long eb), .second, .val (.int cb), .val (.ref b9), .val (.ref b11), .val (.int (1 : Int32)), .val (.ref b29), .val (.int (1 : Int32)), .val (.int (1 : Int32)), .val (.int (1 : Int32)), .val (.int (0 : Int32)), .val (.int (0 : Int32))] [(.int (1 : Int32))])) t
          refine XS.ifNo X40.here hx rfl (hb hby at_153) rfl ((if0 _ _).trans (feq ((by decide) : ¬ ((1 : Int32) = (0 : Int32)))).1) ?_
          show Steps p.tables e below (T40.setTop (mkF m 156 #[.val (.long e1), .second, .val (.int c1), .val (.long e2), .second, .val (.int c2), .val (.int fl), .val (.long eb), .second, .val (.int cb), .val (.ref b9), .val (.ref b11), .val (.int (1 : Int32)), .val (.ref b29), .val (.int (1 : Int32)), .val (.int (1 : Int32)), .val (.int (1 : Int32)), .val (.int (0 : Int32)), .val (.int (0 : Int32))] [])) t
          refine XS.iload X40.here hx rfl (hb hby at_156) rfl ?_
          show Steps p.tables e below (T40.setTop (mkF m 158 #[.val (.long e1), .second, .val (.int c1), .val (.long e2), .second, .val (.int c2), .val (.int fl), .val (.long eb), .second, .val (.int cb), .val (.ref b9), .val (.ref b11), .val (.int (1 : Int32)), .val (.ref b29), .val (.int (1 : Int32)), .val (.int (1 : Int32)), .val (.int (1 : Int32)), .val (.int (0 : Int32)), .val (.int (0 : Int32))] [(.int (0 : Int32))])) t
          refine XS.ifNo X40.here hx rfl (hb hby at_158) rfl ((if0 _ _).trans (teq ((by decide) : (0 : Int32) = (0 : Int32))).2) ?_
          show Steps p.tables e below (T40.setTop (mkF m 161 #[.val (.long e1), .second, .val (.int c1), .val (.long e2), .second, .val (.int c2), .val (.int fl), .val (.long eb), .second, .val (.int cb), .val (.ref b9), .val (.ref b11), .val (.int (1 : Int32)), .val (.ref b29), .val (.int (1 : Int32)), .val (.int (1 : Int32)), .val (.int (1 : Int32)), .val (.int (0 : Int32)), .val (.int (0 : Int32))] [])) t
          refine XS.iload X40.here hx rfl (hb hby at_161) rfl ?_
          show Steps p.tables e below (T40.setTop (mkF m 163 #[.val (.long e1), .second, .val (.int c1), .val (.long e2), .second, .val (.int c2), .val (.int fl), .val (.long eb), .second, .val (.int cb), .val (.ref b9), .val (.ref b11), .val (.int (1 : Int32)), .val (.ref b29), .val (.int (1 : Int32)), .val (.int (1 : Int32)), .val (.int (1 : Int32)), .val (.int (0 : Int32)), .val (.int (0 : Int32))] [(.int (0 : Int32))])) t
          refine XS.ifNo X40.here hx rfl (hb hby at_163) rfl ((if0 _ _).trans (teq ((by decide) : (0 : Int32) = (0 : Int32))).2) ?_
          show Steps p.tables e below (T40.setTop (mkF m 166 #[.val (.long e1), .second, .val (.int c1), .val (.long e2), .second, .val (.int c2), .val (.int fl), .val (.long eb), .second, .val (.int cb), .val (.ref b9), .val (.ref b11), .val (.int (1 : Int32)), .val (.ref b29), .val (.int (1 : Int32)), .val (.int (1 : Int32)), .val (.int (1 : Int32)), .val (.int (0 : Int32)), .val (.int (0 : Int32))] [])) t
          refine XS.iconst X40.here hx rfl (hb hby at_166) ?_
          show Steps p.tables e below (T40.setTop (mkF m 167 #[.val (.long e1), .second, .val (.int c1), .val (.long e2), .second, .val (.int c2), .val (.int fl), .val (.long eb), .second, .val (.int cb), .val (.ref b9), .val (.ref b11), .val (.int (1 : Int32)), .val (.ref b29), .val (.int (1 : Int32)), .val (.int (1 : Int32)), .val (.int (1 : Int32)), .val (.int (0 : Int32)), .val (.int (0 : Int32))] [(.int (1 : Int32))])) t
          refine XS.goto X40.here hx rfl (pc0 := 167) (pc' := 171) rfl (hb hby at_167) (by decide) (by decide) ?_
          exact k
        obtain ⟨fs, hr, hrun, hended, hW, hsame⟩ := X40.leave (v := some (.int (1 : Int32))) (fun h => by rw [Bd.returns] at h; cases h)
        refine ⟨_, _, R41 _ ?_, hrun, hended, _, _, rfl, ?_, ⟨_, rfl⟩, hW, hsame.mono (by decide) (by decide)⟩
        · show Steps p.tables e below (T40.setTop (mkF m 171 #[.val (.long e1), .second, .val (.int c1), .val (.long e2), .second, .val (.int c2), .val (.int fl), .val (.long eb), .second, .val (.int cb), .val (.ref b9), .val (.ref b11), .val (.int (1 : Int32)), .val (.ref b29), .val (.int (1 : Int32)), .val (.int (1 : Int32)), .val (.int (1 : Int32)), .val (.int (0 : Int32)), .val (.int (0 : Int32))] [(.int (1 : Int32))])) _
          exact retN X40 hx (t := .boolean) Bd.returns (by simp) (hb hby at_171) hr
        · show Q_rm0 Z wcI ccI wcJ ccJ e1 c1 e2 c2 fl h0 n0 _ T40.heap _
          rw [e40]
          exact ⟨rfl, N40⟩
    · have R42 : ∀ t, Steps p.tables e below (T12.setTop (mkF m 77 #[.val (.long e1), .second, .val (.int c1), .val (.long e2), .second, .val (.int c2), .val (.int fl), .val (.long eb), .second, .val (.int cb), .val (.ref b9), .val (.ref b11), .val (.int (0 : Int32)), .unset, .unset, .unset, .unset, .unset, .unset] [(.int (fl &&& (4 : Int32)))])) t → Steps p.tables e below (s₁.setTop (entryFrame m #[(.long e1), (.int c1), (.long e2), (.int c2), (.int fl)] maxLocals)) t := by
        intro t k
        refine R14 t ?_
        show Steps p.tables e below (T12.setTop (mkF m 63 #[.val (.long e1), .second, .val (.int c1), .val (.long e2), .second, .val (.int c2), .val (.int fl), .val (.long eb), .second, .val (.int cb), .val (.ref b9), .val (.ref b11), .unset, .unset, .unset, .unset, .unset, .unset, .unset] [(.int cb), (.int c1)])) t
        refine XS.icmpYes X12.here hx rfl (pc0 := 63) (pc' := 70) rfl (hb hby at_63) rfl (feq (hc : ¬ (c1 = cb))).2 (by decide) (by decide) ?_
        show Steps p.tables e below (T12.setTop (mkF m 70 #[.val (.long e1), .second, .val (.int c1), .val (.long e2), .second, .val (.int c2), .val (.int fl), .val (.long eb), .second, .val (.int cb), .val (.ref b9), .val (.ref b11), .unset, .unset, .unset, .unset, .unset, .unset, .unset] [])) t
        refine XS.iconst X12.here hx rfl (hb hby at_70) ?_
        show Steps p.tables e below (T12.setTop (mkF m 71 #[.val (.long e1), .second, .val (.int c1), .val (.long e2), .second, .val (.int c2), .val (.int fl), .val (.long eb), .second, .val (.int cb), .val (.ref b9), .val (.ref b11), .unset, .unset, .unset, .unset, .unset, .unset, .unset] [(.int (0 : Int32))])) t
        refine XS.istore X12.here hx rfl (hb hby at_71) rfl (l' := #[.val (.long e1), .second, .val (.int c1), .val (.long e2), .second, .val (.int c2), .val (.int fl), .val (.long eb), .second, .val (.int cb), .val (.ref b9), .val (.ref b11), .val (.int (0 : Int32)), .unset, .unset, .unset, .unset, .unset, .unset]) rfl ?_
        show Steps p.tables e below (T12.setTop (mkF m 73 #[.val (.long e1), .second, .val (.int c1), .val (.long e2), .second, .val (.int c2), .val (.int fl), .val (.long eb), .second, .val (.int cb), .val (.ref b9), .val (.ref b11), .val (.int (0 : Int32)), .unset, .unset, .unset, .unset, .unset, .unset] [])) t
        refine XS.iload X12.here hx rfl (hb hby at_73) rfl ?_
        show Steps p.tables e below (T12.setTop (mkF m 75 #[.val (.long e1), .second, .val (.int c1), .val (.long e2), .second, .val (.int c2), .val (.int fl), .val (.long eb), .second, .val (.int cb), .val (.ref b9), .val (.ref b11), .val (.int (0 : Int32)), .unset, .unset, .unset, .unset, .unset, .unset] [(.int fl)])) t
        refine XS.iconst X12.here hx rfl (hb hby at_75) ?_
        show Steps p.tables e below (T12.setTop (mkF m 76 #[.val (.long e1), .second, .val (.int c1), .val (.long e2), .second, .val (.int c2), .val (.int fl), .val (.long eb), .second, .val (.int cb), .val (.ref b9), .val (.ref b11), .val (.int (0 : Int32)), .unset, .unset, .unset, .unset, .unset, .unset] [(.int (4 : Int32)), (.int fl)])) t
        refine XS.iand X12.here hx rfl (hb hby at_76) rfl ?_
        exact k
      by_cases hf : (fl &&& (4 : Int32)) = (0 : Int32)
      · obtain ⟨_, _, ⟨T43, L43, k43, n43⟩, -, X43, ⟨Lc43, hQ43, l43, y43, z43⟩, st43⟩ := Jvm.LawKit.callS X12 hx (y := (⟨"java/lang/Integer", "valueOf", "(I)Ljava/lang/Integer;"⟩ : MethodName)) hown (mvT hZ (hw _ (List.mem_of_getElem? (i := 13) rfl))) (mvT hZ (hw _ (List.mem_of_getElem? (i := 14) rfl))) (mvT hZ (hw _ (List.mem_of_getElem? (i := 15) rfl))) (mvT hZ (hw _ (List.mem_of_getElem? (i := 16) rfl))) (by decide) (backOf (W := 0) (valueOfI l Z a0 hw [] wcI ccI wcJ ccJ c1 T12.heap n0 O12 S_cI B_cI S_hi S_cJ B_cJ   ) hZ (hw _ (List.mem_of_getElem? (i := 16) rfl)) (hw _ (List.mem_of_getElem? (i := 15) rfl)) (by decide) (by decide)) (g := (mkF m 88 #[.val (.long e1), .second, .val (.int c1), .val (.long e2), .second, .val (.int c2), .val (.int fl), .val (.long eb), .second, .val (.int cb), .val (.ref b9), .val (.ref b11), .val (.int (0 : Int32)), .unset, .unset, .unset, .unset, .unset, .unset] [(.int c1)])) rfl (by rw [hml]; rfl) (argsL := [(.int c1)]) (rest := []) (lenOf pd_4 rfl) rfl (by show 2 * 0 + _ ≤ _; exact Nat.le_of_eq rfl) (hb hby at_88) (fun _ _ => ⟨rfl, rfl, (by decide : 2 + 1 ≤ _), (by decide : 4 + 1 ≤ _)⟩)
        dsimp only [Pt.U, Pt.locs, Pt.cells, Pt.slots] at X43 l43 y43 z43 st43 hQ43
        subst l43 y43 z43
        obtain ⟨b43, rfl, N43q, K43q, y43_0⟩ := hQ43
        have N43 := Fr.app N12 N43q
        have Z43 : n0 ≤ T43.heap.size := Nat.le_trans Z12 K43q.1
        have K43 : Keep h0 T43.heap [] := K12.trans K43q all0
        have O43 : Old Z n0 T43.heap := O12.keep K43q all0
        have f45 : Exa Z T43.heap b9 "com/example/ballot/ballot/model/Vote" := (((y10_0.ext E11).keep K12q).keep K43q)
        have f46 : Exa Z T43.heap b11 "com/example/ballot/ballot/model/Vote" := (y12_0.keep K43q)
        have f47 : Fld Z T43.heap b9 "com/example/ballot/ballot/model/Vote" "epoch" "J" (.long e1) := (((y10_1.ext E11).keep K12q (ninS ne_b9_b11 nin0)).keep K43q nin0)
        have f48 : Fld Z T43.heap b11 "com/example/ballot/ballot/model/Vote" "epoch" "J" (.long eb) := (y12_1.keep K43q nin0)
        have f49 : Fld Z T43.heap b9 "com/example/ballot/ballot/model/Vote" "candidate" "I" (.int c1) := (((y10_2.ext E11).keep K12q (ninS ne_b9_b11 nin0)).keep K43q nin0)
        have f50 : Fld Z T43.heap b11 "com/example/ballot/ballot/model/Vote" "candidate" "I" (.int cb) := (y12_2.keep K43q nin0)
        obtain ⟨cq44, kq44, q44a, q44b, q44c⟩ := isOf hZ rfl f45
        obtain ⟨_, _, ⟨T44, L44, k44, n44⟩, -, X44, ⟨Lc44, hQ44, l44, y44, z44⟩, st44⟩ := X43.virtualBack hx (y := (⟨"com/example/ballot/ballot/model/Vote", "equals", "(Ljava/lang/Object;)Z"⟩ : MethodName)) (z := (⟨"com/example/ballot/ballot/model/Vote", "equals", "(Ljava/lang/Object;)Z"⟩ : MethodName)) hown (mvT hZ (hw _ (List.mem_of_getElem? (i := 20) rfl))) (mvT hZ (hw _ (List.mem_of_getElem? (i := 21) rfl))) (notFace_of_selects (args := #[]) (mvT hZ (hw _ (List.mem_of_getElem? (i := 23) rfl)))) (mvT hZ (hw _ (List.mem_of_getElem? (i := 23) rfl))) (mvT hZ (hw _ (List.mem_of_getElem? (i := 22) rfl))) (by decide) (backOf (W := 0) (eqF2 l Z a0 hw [] wcI ccI wcJ ccJ b9 b11 e1 eb c1 cb T43.heap n0 O43 S_cI B_cI S_hi S_cJ B_cJ   f45 f46 f47 f48 f49 f50 hl hc) hZ (hw _ (List.mem_of_getElem? (i := 24) rfl)) (hw _ (List.mem_of_getElem? (i := 2) rfl)) (by decide) (by decide)) q44a q44c (g := (mkF m 97 #[.val (.long e1), .second, .val (.int c1), .val (.long e2), .second, .val (.int c2), .val (.int fl), .val (.long eb), .second, .val (.int cb), .val (.ref b9), .val (.ref b11), .val (.int (0 : Int32)), .val (.ref b43), .unset, .unset, .unset, .unset, .unset] [(.ref b11), (.ref b9)])) rfl (by rw [hml]; rfl) (Steps.refl _) (argsL := [(.ref b11)]) (rest := []) (lenOf pd_5 rfl) rfl (by show 2 * 0 + _ ≤ _; exact Nat.le_of_eq rfl) (hb hby at_97) (fun _ _ => ⟨rfl, rfl, (by decide : 3 + 0 ≤ _), (by decide : 5 + 0 ≤ _)⟩)
        dsimp only [Pt.U, Pt.locs, Pt.cells, Pt.slots] at X44 l44 y44 z44 st44 hQ44
        subst l44 y44 z44
        obtain ⟨rfl, N44q, e44⟩ := hQ44
        have N44 := Fr.app N43 N44q
        obtain ⟨cq51, kq51, q51a, q51b, q51c⟩ := isOf hZ e44 f46
        obtain ⟨_, _, ⟨T51, L51, k51, n51⟩, -, X51, ⟨Lc51, hQ51, l51, y51, z51⟩, st51⟩ := X44.virtualBack hx (y := (⟨"com/example/ballot/ballot/model/Vote", "equals", "(Ljava/lang/Object;)Z"⟩ : MethodName)) (z := (⟨"com/example/ballot/ballot/model/Vote", "equals", "(Ljava/lang/Object;)Z"⟩ : MethodName)) hown (mvT hZ (hw _ (List.mem_of_getElem? (i := 20) rfl))) (mvT hZ (hw _ (List.mem_of_getElem? (i := 21) rfl))) (notFace_of_selects (args := #[]) (mvT hZ (hw _ (List.mem_of_getElem? (i := 23) rfl)))) (mvT hZ (hw _ (List.mem_of_getElem? (i := 23) rfl))) (mvT hZ (hw _ (List.mem_of_getElem? (i := 22) rfl))) (by decide) (backOf (W := 0) (eqF2 l Z a0 hw [] wcI ccI wcJ ccJ b11 b9 eb e1 cb c1 T43.heap n0 O43 S_cI B_cI S_hi S_cJ B_cJ   f46 f45 f48 f47 f50 f49 ((lw_eq _ _).2 ((lw_eq _ _).1 hl).symm) (fun q => hc q.symm)) hZ (hw _ (List.mem_of_getElem? (i := 24) rfl)) (hw _ (List.mem_of_getElem? (i := 2) rfl)) (by decide) (by decide)) q51a q51c (g := (mkF m 106 #[.val (.long e1), .second, .val (.int c1), .val (.long e2), .second, .val (.int c2), .val (.int fl), .val (.long eb), .second, .val (.int cb), .val (.ref b9), .val (.ref b11), .val (.int (0 : Int32)), .val (.ref b43), .val (.int (0 : Int32)), .unset, .unset, .unset, .unset] [(.ref b9), (.ref b11)])) rfl (by rw [hml]; rfl) (Steps.refl _) (argsL := [(.ref b9)]) (rest := []) (lenOf pd_5 rfl) rfl (by show 2 * 0 + _ ≤ _; exact Nat.le_of_eq rfl) (hb hby at_106) (fun _ _ => ⟨rfl, e44, (by decide : 3 + 0 ≤ _), (by decide : 5 + 0 ≤ _)⟩)
        dsimp only [Pt.U, Pt.locs, Pt.cells, Pt.slots] at X51 l51 y51 z51 st51 hQ51
        subst l51 y51 z51
        obtain ⟨rfl, N51q, e51⟩ := hQ51
        have N51 := Fr.app N44 N51q
        obtain ⟨cq52, kq52, q52a, q52b, q52c⟩ := isOf hZ e51 f45
        obtain ⟨_, _, ⟨T52, L52, k52, n52⟩, -, X52, ⟨Lc52, hQ52, l52, y52, z52⟩, st52⟩ := X51.virtualBack hx (y := (⟨"com/example/ballot/ballot/model/Vote", "equals", "(Ljava/lang/Object;)Z"⟩ : MethodName)) (z := (⟨"com/example/ballot/ballot/model/Vote", "equals", "(Ljava/lang/Object;)Z"⟩ : MethodName)) hown (mvT hZ (hw _ (List.mem_of_getElem? (i := 20) rfl))) (mvT hZ (hw _ (List.mem_of_getElem? (i := 21) rfl))) (notFace_of_selects (args := #[]) (mvT hZ (hw _ (List.mem_of_getElem? (i := 23) rfl)))) (mvT hZ (hw _ (List.mem_of_getElem? (i := 23) rfl))) (mvT hZ (hw _ (List.mem_of_getElem? (i := 22) rfl))) (by decide) (backOf (W := 0) (eqT l Z a0 hw [] wcI ccI wcJ ccJ b9 b9 e1 e1 c1 c1 T43.heap n0 O43 S_cI B_cI S_hi S_cJ B_cJ   f45 f45 f47 f47 f49 f49 ((lw_eq _ _).2 rfl) rfl) hZ (hw _ (List.mem_of_getElem? (i := 24) rfl)) (hw _ (List.mem_of_getElem? (i := 2) rfl)) (by decide) (by decide)) q52a q52c (g := (mkF m 115 #[.val (.long e1), .second, .val (.int c1), .val (.long e2), .second, .val (.int c2), .val (.int fl), .val (.long eb), .second, .val (.int cb), .val (.ref b9), .val (.ref b11), .val (.int (0 : Int32)), .val (.ref b43), .val (.int (0 : Int32)), .val (.int (0 : Int32)), .unset, .unset, .unset] [(.ref b9), (.ref b9)])) rfl (by rw [hml]; rfl) (Steps.refl _) (argsL := [(.ref b9)]) (rest := []) (lenOf pd_5 rfl) rfl (by show 2 * 0 + _ ≤ _; exact Nat.le_of_eq rfl) (hb hby at_115) (fun _ _ => ⟨rfl, e51, (by decide : 3 + 0 ≤ _), (by decide : 5 + 0 ≤ _)⟩)
        dsimp only [Pt.U, Pt.locs, Pt.cells, Pt.slots] at X52 l52 y52 z52 st52 hQ52
        subst l52 y52 z52
        obtain ⟨rfl, N52q, e52⟩ := hQ52
        have N52 := Fr.app N51 N52q
        obtain ⟨cq53, kq53, q53a, q53b, q53c⟩ := isOf hZ e52 f45
        obtain ⟨_, _, ⟨T53, L53, k53, n53⟩, -, X53, ⟨Lc53, hQ53, l53, y53, z53⟩, st53⟩ := X52.virtualBack hx (y := (⟨"com/example/ballot/ballot/model/Vote", "equals", "(Ljava/lang/Object;)Z"⟩ : MethodName)) (z := (⟨"com/example/ballot/ballot/model/Vote", "equals", "(Ljava/lang/Object;)Z"⟩ : MethodName)) hown (mvT hZ (hw _ (List.mem_of_getElem? (i := 20) rfl))) (mvT hZ (hw _ (List.mem_of_getElem? (i := 21) rfl))) (notFace_of_selects (args := #[]) (mvT hZ (hw _ (List.mem_of_getElem? (i := 23) rfl)))) (mvT hZ (hw _ (List.mem_of_getElem? (i := 23) rfl))) (mvT hZ (hw _ (List.mem_of_getElem? (i := 22) rfl))) (by decide) (backOf (W := 0) (eqN l Z a0 hw [] wcI ccI wcJ ccJ b9 T43.heap n0 O43 S_cI B_cI S_hi S_cJ B_cJ   ) hZ (hw _ (List.mem_of_getElem? (i := 24) rfl)) (hw _ (List.mem_of_getElem? (i := 2) rfl)) (by decide) (by decide)) q53a q53c (g := (mkF m 123 #[.val (.long e1), .second, .val (.int c1), .val (.long e2), .second, .val (.int c2), .val (.int fl), .val (.long eb), .second, .val (.int cb), .val (.ref b9), .val (.ref b11), .val (.int (0 : Int32)), .val (.ref b43), .val (.int (0 : Int32)), .val (.int (0 : Int32)), .val (.int (1 : Int32)), .unset, .unset] [.null, (.ref b9)])) rfl (by rw [hml]; rfl) (Steps.refl _) (argsL := [.null]) (rest := []) (lenOf pd_5 rfl) rfl (by show 2 * 0 + _ ≤ _; exact Nat.le_of_eq rfl) (hb hby at_123) (fun _ _ => ⟨rfl, e52, (by decide : 3 + 0 ≤ _), (by decide : 5 + 0 ≤ _)⟩)
        dsimp only [Pt.U, Pt.locs, Pt.cells, Pt.slots] at X53 l53 y53 z53 st53 hQ53
        subst l53 y53 z53
        obtain ⟨rfl, N53q, e53⟩ := hQ53
        have N53 := Fr.app N52 N53q
        obtain ⟨cq54, kq54, q54a, q54b, q54c⟩ := isOf hZ e53 f45
        obtain ⟨_, _, ⟨T54, L54, k54, n54⟩, -, X54, ⟨Lc54, hQ54, l54, y54, z54⟩, st54⟩ := X53.virtualBack hx (y := (⟨"com/example/ballot/ballot/model/Vote", "equals", "(Ljava/lang/Object;)Z"⟩ : MethodName)) (z := (⟨"com/example/ballot/ballot/model/Vote", "equals", "(Ljava/lang/Object;)Z"⟩ : MethodName)) hown (mvT hZ (hw _ (List.mem_of_getElem? (i := 20) rfl))) (mvT hZ (hw _ (List.mem_of_getElem? (i := 21) rfl))) (notFace_of_selects (args := #[]) (mvT hZ (hw _ (List.mem_of_getElem? (i := 23) rfl)))) (mvT hZ (hw _ (List.mem_of_getElem? (i := 23) rfl))) (mvT hZ (hw _ (List.mem_of_getElem? (i := 22) rfl))) (by decide) (backOf (W := 0) (eqOI l Z a0 hw [] wcI ccI wcJ ccJ b9 b43 T43.heap n0 O43 S_cI B_cI S_hi S_cJ B_cJ   y43_0) hZ (hw _ (List.mem_of_getElem? (i := 24) rfl)) (hw _ (List.mem_of_getElem? (i := 2) rfl)) (by decide) (by decide)) q54a q54c (g := (mkF m 132 #[.val (.long e1), .second, .val (.int c1), .val (.long e2), .second, .val (.int c2), .val (.int fl), .val (.long eb), .second, .val (.int cb), .val (.ref b9), .val (.ref b11), .val (.int (0 : Int32)), .val (.ref b43), .val (.int (0 : Int32)), .val (.int (0 : Int32)), .val (.int (1 : Int32)), .val (.int (0 : Int32)), .unset] [(.ref b43), (.ref b9)])) rfl (by rw [hml]; rfl) (Steps.refl _) (argsL := [(.ref b43)]) (rest := []) (lenOf pd_5 rfl) rfl (by show 2 * 0 + _ ≤ _; exact Nat.le_of_eq rfl) (hb hby at_132) (fun _ _ => ⟨rfl, e53, (by decide : 3 + 0 ≤ _), (by decide : 5 + 0 ≤ _)⟩)
        dsimp only [Pt.U, Pt.locs, Pt.cells, Pt.slots] at X54 l54 y54 z54 st54 hQ54
        subst l54 y54 z54
        obtain ⟨rfl, N54q, e54⟩ := hQ54
        have N54 := Fr.app N53 N54q
        have R55 : ∀ t, Steps p.tables e below (T54.setTop (mkF m 171 #[.val (.long e1), .second, .val (.int c1), .val (.long e2), .second, .val (.int c2), .val (.int fl), .val (.long eb), .second, .val (.int cb), .val (.ref b9), .val (.ref b11), .val (.int (0 : Int32)), .val (.ref b43), .val (.int (0 : Int32)), .val (.int (0 : Int32)), .val (.int (1 : Int32)), .val (.int (0 : Int32)), .val (.int (0 : Int32))] [(.int (1 : Int32))])) t → Steps p.tables e below (s₁.setTop (entryFrame m #[(.long e1), (.int c1), (.long e2), (.int c2), (.int fl)] maxLocals)) t := by
          intro t k
          refine R42 t ?_
          show Steps p.tables e below (T12.setTop (mkF m 77 #[.val (.long e1), .second, .val (.int c1), .val (.long e2), .second, .val (.int c2), .val (.int fl), .val (.long eb), .second, .val (.int cb), .val (.ref b9), .val (.ref b11), .val (.int (0 : Int32)), .unset, .unset, .unset, .unset, .unset, .unset] [(.int (fl &&& (4 : Int32)))])) t
          refine XS.ifYes X12.here hx rfl (pc0 := 77) (pc' := 87) rfl (hb hby at_77) rfl ((if0 _ _).trans (teq (hf : (fl &&& (4 : Int32)) = (0 : Int32))).1) (by decide) (by decide) ?_
          show Steps p.tables e below (T12.setTop (mkF m 87 #[.val (.long e1), .second, .val (.int c1), .val (.long e2), .second, .val (.int c2), .val (.int fl), .val (.long eb), .second, .val (.int cb), .val (.ref b9), .val (.ref b11), .val (.int (0 : Int32)), .unset, .unset, .unset, .unset, .unset, .unset] [])) t
          refine XS.iloadN X12.here hx rfl (hb hby at_87) rfl ?_
          show Steps p.tables e below (T12.setTop (mkF m 88 #[.val (.long e1), .second, .val (.int c1), .val (.long e2), .second, .val (.int c2), .val (.int fl), .val (.long eb), .second, .val (.int cb), .val (.ref b9), .val (.ref b11), .val (.int (0 : Int32)), .unset, .unset, .unset, .unset, .unset, .unset] [(.int c1)])) t
          refine st43 _ ?_
          show Steps p.tables e below (T43.setTop (mkF m 91 #[.val (.long e1), .second, .val (.int c1), .val (.long e2), .second, .val (.int c2), .val (.int fl), .val (.long eb), .second, .val (.int cb), .val (.ref b9), .val (.ref b11), .val (.int (0 : Int32)), .unset, .unset, .unset, .unset, .unset, .unset] [(.ref b43)])) t
          refine XS.astore X43.here hx rfl (hb hby at_91) rfl rfl (l' := #[.val (.long e1), .second, .val (.int c1), .val (.long e2), .second, .val (.int c2), .val (.int fl), .val (.long eb), .second, .val (.int cb), .val (.ref b9), .val (.ref b11), .val (.int (0 : Int32)), .val (.ref b43), .unset, .unset, .unset, .unset, .unset]) rfl ?_
          show Steps p.tables e below (T43.setTop (mkF m 93 #[.val (.long e1), .second, .val (.int c1), .val (.long e2), .second, .val (.int c2), .val (.int fl), .val (.long eb), .second, .val (.int cb), .val (.ref b9), .val (.ref b11), .val (.int (0 : Int32)), .val (.ref b43), .unset, .unset, .unset, .unset, .unset] [])) t
          refine XS.aload X43.here hx rfl (hb hby at_93) rfl rfl ?_
          show Steps p.tables e below (T43.setTop (mkF m 95 #[.val (.long e1), .second, .val (.int c1), .val (.long e2), .second, .val (.int c2), .val (.int fl), .val (.long eb), .second, .val (.int cb), .val (.ref b9), .val (.ref b11), .val (.int (0 : Int32)), .val (.ref b43), .unset, .unset, .unset, .unset, .unset] [(.ref b9)])) t
          refine XS.aload X43.here hx rfl (hb hby at_95) rfl rfl ?_
          show Steps p.tables e below (T43.setTop (mkF m 97 #[.val (.long e1), .second, .val (.int c1), .val (.long e2), .second, .val (.int c2), .val (.int fl), .val (.long eb), .second, .val (.int cb), .val (.ref b9), .val (.ref b11), .val (.int (0 : Int32)), .val (.ref b43), .unset, .unset, .unset, .unset, .unset] [(.ref b11), (.ref b9)])) t
          refine st44.trans ?_
          show Steps p.tables e below (T44.setTop (mkF m 100 #[.val (.long e1), .second, .val (.int c1), .val (.long e2), .second, .val (.int c2), .val (.int fl), .val (.long eb), .second, .val (.int cb), .val (.ref b9), .val (.ref b11), .val (.int (0 : Int32)), .val (.ref b43), .unset, .unset, .unset, .unset, .unset] [(.int (0 : Int32))])) t
          refine XS.istore X44.here hx rfl (hb hby at_100) rfl (l' := #[.val (.long e1), .second, .val (.int c1), .val (.long e2), .second, .val (.int c2), .val (.int fl), .val (.long eb), .second, .val (.int cb), .val (.ref b9), .val (.ref b11), .val (.int (0 : Int32)), .val (.ref b43), .val (.int (0 : Int32)), .unset, .unset, .unset, .unset]) rfl ?_
          show Steps p.tables e below (T44.setTop (mkF m 102 #[.val (.long e1), .second, .val (.int c1), .val (.long e2), .second, .val (.int c2), .val (.int fl), .val (.long eb), .second, .val (.int cb), .val (.ref b9), .val (.ref b11), .val (.int (0 : Int32)), .val (.ref b43), .val (.int (0 : Int32)), .unset, .unset, .unset, .unset] [])) t
          refine XS.aload X44.here hx rfl (hb hby at_102) rfl rfl ?_
          show Steps p.tables e below (T44.setTop (mkF m 104 #[.val (.long e1), .second, .val (.int c1), .val (.long e2), .second, .val (.int c2), .val (.int fl), .val (.long eb), .second, .val (.int cb), .val (.ref b9), .val (.ref b11), .val (.int (0 : Int32)), .val (.ref b43), .val (.int (0 : Int32)), .unset, .unset, .unset, .unset] [(.ref b11)])) t
          refine XS.aload X44.here hx rfl (hb hby at_104) rfl rfl ?_
          show Steps p.tables e below (T44.setTop (mkF m 106 #[.val (.long e1), .second, .val (.int c1), .val (.long e2), .second, .val (.int c2), .val (.int fl), .val (.long eb), .second, .val (.int cb), .val (.ref b9), .val (.ref b11), .val (.int (0 : Int32)), .val (.ref b43), .val (.int (0 : Int32)), .unset, .unset, .unset, .unset] [(.ref b9), (.ref b11)])) t
          refine st51.trans ?_
          show Steps p.tables e below (T51.setTop (mkF m 109 #[.val (.long e1), .second, .val (.int c1), .val (.long e2), .second, .val (.int c2), .val (.int fl), .val (.long eb), .second, .val (.int cb), .val (.ref b9), .val (.ref b11), .val (.int (0 : Int32)), .val (.ref b43), .val (.int (0 : Int32)), .unset, .unset, .unset, .unset] [(.int (0 : Int32))])) t
          refine XS.istore X51.here hx rfl (hb hby at_109) rfl (l' := #[.val (.long e1), .second, .val (.int c1), .val (.long e2), .second, .val (.int c2), .val (.int fl), .val (.long eb), .second, .val (.int cb), .val (.ref b9), .val (.ref b11), .val (.int (0 : Int32)), .val (.ref b43), .val (.int (0 : Int32)), .val (.int (0 : Int32)), .unset, .unset, .unset]) rfl ?_
          show Steps p.tables e below (T51.setTop (mkF m 111 #[.val (.long e1), .second, .val (.int c1), .val (.long e2), .second, .val (.int c2), .val (.int fl), .val (.long eb), .second, .val (.int cb), .val (.ref b9), .val (.ref b11), .val (.int (0 : Int32)), .val (.ref b43), .val (.int (0 : Int32)), .val (.int (0 : Int32)), .unset, .unset, .unset] [])) t
          refine XS.aload X51.here hx rfl (hb hby at_111) rfl rfl ?_
          show Steps p.tables e below (T51.setTop (mkF m 113 #[.val (.long e1), .second, .val (.int c1), .val (.long e2), .second, .val (.int c2), .val (.int fl), .val (.long eb), .second, .val (.int cb), .val (.ref b9), .val (.ref b11), .val (.int (0 : Int32)), .val (.ref b43), .val (.int (0 : Int32)), .val (.int (0 : Int32)), .unset, .unset, .unset] [(.ref b9)])) t
          refine XS.aload X51.here hx rfl (hb hby at_113) rfl rfl ?_
          show Steps p.tables e below (T51.setTop (mkF m 115 #[.val (.long e1), .second, .val (.int c1), .val (.long e2), .second, .val (.int c2), .val (.int fl), .val (.long eb), .second, .val (.int cb), .val (.ref b9), .val (.ref b11), .val (.int (0 : Int32)), .val (.ref b43), .val (.int (0 : Int32)), .val (.int (0 : Int32)), .unset, .unset, .unset] [(.ref b9), (.ref b9)])) t
          refine st52.trans ?_
          show Steps p.tables e below (T52.setTop (mkF m 118 #[.val (.long e1), .second, .val (.int c1), .val (.long e2), .second, .val (.int c2), .val (.int fl), .val (.long eb), .second, .val (.int cb), .val (.ref b9), .val (.ref b11), .val (.int (0 : Int32)), .val (.ref b43), .val (.int (0 : Int32)), .val (.int (0 : Int32)), .unset, .unset, .unset] [(.int (1 : Int32))])) t
          refine XS.istore X52.here hx rfl (hb hby at_118) rfl (l' := #[.val (.long e1), .second, .val (.int c1), .val (.long e2), .second, .val (.int c2), .val (.int fl), .val (.long eb), .second, .val (.int cb), .val (.ref b9), .val (.ref b11), .val (.int (0 : Int32)), .val (.ref b43), .val (.int (0 : Int32)), .val (.int (0 : Int32)), .val (.int (1 : Int32)), .unset, .unset]) rfl ?_
          show Steps p.tables e below (T52.setTop (mkF m 120 #[.val (.long e1), .second, .val (.int c1), .val (.long e2), .second, .val (.int c2), .val (.int fl), .val (.long eb), .second, .val (.int cb), .val (.ref b9), .val (.ref b11), .val (.int (0 : Int32)), .val (.ref b43), .val (.int (0 : Int32)), .val (.int (0 : Int32)), .val (.int (1 : Int32)), .unset, .unset] [])) t
          refine XS.aload X52.here hx rfl (hb hby at_120) rfl rfl ?_
          show Steps p.tables e below (T52.setTop (mkF m 122 #[.val (.long e1), .second, .val (.int c1), .val (.long e2), .second, .val (.int c2), .val (.int fl), .val (.long eb), .second, .val (.int cb), .val (.ref b9), .val (.ref b11), .val (.int (0 : Int32)), .val (.ref b43), .val (.int (0 : Int32)), .val (.int (0 : Int32)), .val (.int (1 : Int32)), .unset, .unset] [(.ref b9)])) t
          refine XS.aconstNull X52.here hx rfl (hb hby at_122) ?_
          show Steps p.tables e below (T52.setTop (mkF m 123 #[.val (.long e1), .second, .val (.int c1), .val (.long e2), .second, .val (.int c2), .val (.int fl), .val (.long eb), .second, .val (.int cb), .val (.ref b9), .val (.ref b11), .val (.int (0 : Int32)), .val (.ref b43), .val (.int (0 : Int32)), .val (.int (0 : Int32)), .val (.int (1 : Int32)), .unset, .unset] [.null, (.ref b9)])) t
          refine st53.trans ?_
          show Steps p.tables e below (T53.setTop (mkF m 126 #[.val (.long e1), .second, .val (.int c1), .val (.long e2), .second, .val (.int c2), .val (.int fl), .val (.long eb), .second, .val (.int cb), .val (.ref b9), .val (.ref b11), .val (.int (0 : Int32)), .val (.ref b43), .val (.int (0 : Int32)), .val (.int (0 : Int32)), .val (.int (1 : Int32)), .unset, .unset] [(.int (0 : Int32))])) t
          refine XS.istore X53.here hx rfl (hb hby at_126) rfl (l' := #[.val (.long e1), .second, .val (.int c1), .val (.long e2), .second, .val (.int c2), .val (.int fl), .val (.long eb), .second, .val (.int cb), .val (.ref b9), .val (.ref b11), .val (.int (0 : Int32)), .val (.ref b43), .val (.int (0 : Int32)), .val (.int (0 : Int32)), .val (.int (1 : Int32)), .val (.int (0 : Int32)), .unset]) rfl ?_
          show Steps p.tables e below (T53.setTop (mkF m 128 #[.val (.long e1), .second, .val (.int c1), .val (.long e2), .second, .val (.int c2), .val (.int fl), .val (.long eb), .second, .val (.int cb), .val (.ref b9), .val (.ref b11), .val (.int (0 : Int32)), .val (.ref b43), .val (.int (0 : Int32)), .val (.int (0 : Int32)), .val (.int (1 : Int32)), .val (.int (0 : Int32)), .unset] [])) t
          refine XS.aload X53.here hx rfl (hb hby at_128) rfl rfl ?_
          show Steps p.tables e below (T53.setTop (mkF m 130 #[.val (.long e1), .second, .val (.int c1), .val (.long e2), .second, .val (.int c2), .val (.int fl), .val (.long eb), .second, .val (.int cb), .val (.ref b9), .val (.ref b11), .val (.int (0 : Int32)), .val (.ref b43), .val (.int (0 : Int32)), .val (.int (0 : Int32)), .val (.int (1 : Int32)), .val (.int (0 : Int32)), .unset] [(.ref b9)])) t
          refine XS.aload X53.here hx rfl (hb hby at_130) rfl rfl ?_
          show Steps p.tables e below (T53.setTop (mkF m 132 #[.val (.long e1), .second, .val (.int c1), .val (.long e2), .second, .val (.int c2), .val (.int fl), .val (.long eb), .second, .val (.int cb), .val (.ref b9), .val (.ref b11), .val (.int (0 : Int32)), .val (.ref b43), .val (.int (0 : Int32)), .val (.int (0 : Int32)), .val (.int (1 : Int32)), .val (.int (0 : Int32)), .unset] [(.ref b43), (.ref b9)])) t
          refine st54.trans ?_
          show Steps p.tables e below (T54.setTop (mkF m 135 #[.val (.long e1), .second, .val (.int c1), .val (.long e2), .second, .val (.int c2), .val (.int fl), .val (.long eb), .second, .val (.int cb), .val (.ref b9), .val (.ref b11), .val (.int (0 : Int32)), .val (.ref b43), .val (.int (0 : Int32)), .val (.int (0 : Int32)), .val (.int (1 : Int32)), .val (.int (0 : Int32)), .unset] [(.int (0 : Int32))])) t
          refine XS.istore X54.here hx rfl (hb hby at_135) rfl (l' := #[.val (.long e1), .second, .val (.int c1), .val (.long e2), .second, .val (.int c2), .val (.int fl), .val (.long eb), .second, .val (.int cb), .val (.ref b9), .val (.ref b11), .val (.int (0 : Int32)), .val (.ref b43), .val (.int (0 : Int32)), .val (.int (0 : Int32)), .val (.int (1 : Int32)), .val (.int (0 : Int32)), .val (.int (0 : Int32))]) rfl ?_
          show Steps p.tables e below (T54.setTop (mkF m 137 #[.val (.long e1), .second, .val (.int c1), .val (.long e2), .second, .val (.int c2), .val (.int fl), .val (.long eb), .second, .val (.int cb), .val (.ref b9), .val (.ref b11), .val (.int (0 : Int32)), .val (.ref b43), .val (.int (0 : Int32)), .val (.int (0 : Int32)), .val (.int (1 : Int32)), .val (.int (0 : Int32)), .val (.int (0 : Int32))] [])) t
          refine XS.iload X54.here hx rfl (hb hby at_137) rfl ?_
          show Steps p.tables e below (T54.setTop (mkF m 139 #[.val (.long e1), .second, .val (.int c1), .val (.long e2), .second, .val (.int c2), .val (.int fl), .val (.long eb), .second, .val (.int cb), .val (.ref b9), .val (.ref b11), .val (.int (0 : Int32)), .val (.ref b43), .val (.int (0 : Int32)), .val (.int (0 : Int32)), .val (.int (1 : Int32)), .val (.int (0 : Int32)), .val (.int (0 : Int32))] [(.int (0 : Int32))])) t
          refine XS.iload X54.here hx rfl (hb hby at_139) rfl ?_
          show Steps p.tables e below (T54.setTop (mkF m 141 #[.val (.long e1), .second, .val (.int c1), .val (.long e2), .second, .val (.int c2), .val (.int fl), .val (.long eb), .second, .val (.int cb), .val (.ref b9), .val (.ref b11), .val (.int (0 : Int32)), .val (.ref b43), .val (.int (0 : Int32)), .val (.int (0 : Int32)), .val (.int (1 : Int32)), .val (.int (0 : Int32)), .val (.int (0 : Int32))] [(.int (0 : Int32)), (.int (0 : Int32))])) t
          refine XS.icmpNo X54.here hx rfl (hb hby at_141) rfl (teq ((by decide) : (0 : Int32) = (0 : Int32))).2 ?_
          show Steps p.tables e below (T54.setTop (mkF m 144 #[.val (.long e1), .second, .val (.int c1), .val (.long e2), .second, .val (.int c2), .val (.int fl), .val (.long eb), .second, .val (.int cb), .val (.ref b9), .val (.ref b11), .val (.int (0 : Int32)), .val (.ref b43), .val (.int (0 : Int32)), .val (.int (0 : Int32)), .val (.int (1 : Int32)), .val (.int (0 : Int32)), .val (.int (0 : Int32))] [])) t
          refine XS.iload X54.here hx rfl (hb hby at_144) rfl ?_
          show Steps p.tables e below (T54.setTop (mkF m 146 #[.val (.long e1), .second, .val (.int c1), .val (.long e2), .second, .val (.int c2), .val (.int fl), .val (.long eb), .second, .val (.int cb), .val (.ref b9), .val (.ref b11), .val (.int (0 : Int32)), .val (.ref b43), .val (.int (0 : Int32)), .val (.int (0 : Int32)), .val (.int (1 : Int32)), .val (.int (0 : Int32)), .val (.int (0 : Int32))] [(.int (0 : Int32))])) t
          refine XS.iload X54.here hx rfl (hb hby at_146) rfl ?_
          show Steps p.tables e below (T54.setTop (mkF m 148 #[.val (.long e1), .second, .val (.int c1), .val (.long e2), .second, .val (.int c2), .val (.int fl), .val (.long eb), .second, .val (.int cb), .val (.ref b9), .val (.ref b11), .val (.int (0 : Int32)), .val (.ref b43), .val (.int (0 : Int32)), .val (.int (0 : Int32)), .val (.int (1 : Int32)), .val (.int (0 : Int32)), .val (.int (0 : Int32))] [(.int (0 : Int32)), (.int (0 : Int32))])) t
          refine XS.icmpNo X54.here hx rfl (hb hby at_148) rfl (teq ((by decide) : (0 : Int32) = (0 : Int32))).2 ?_
          show Steps p.tables e below (T54.setTop (mkF m 151 #[.val (.long e1), .second, .val (.int c1), .val (.long e2), .second, .val (.int c2), .val (.int fl), .val (.long eb), .second, .val (.int cb), .val (.ref b9), .val (.ref b11), .val (.int (0 : Int32)), .val (.ref b43), .val (.int (0 : Int32)), .val (.int (0 : Int32)), .val (.int (1 : Int32)), .val (.int (0 : Int32)), .val (.int (0 : Int32))] [])) t
          refine XS.iload X54.here hx rfl (hb hby at_151) rfl ?_
          show Steps p.tables e below (T54.setTop (mkF m 153 #[.val (.long e1), .second, .val (.int c1), .val (.long e2), .second, .val (.int c2), .val (.int fl), .val (.long eb), .second, .val (.int cb), .val (.ref b9), .val (.ref b11), .val (.int (0 : Int32)), .val (.ref b43), .val (.int (0 : Int32)), .val (.int (0 : Int32)), .val (.int (1 : Int32)), .val (.int (0 : Int32)), .val (.int (0 : Int32))] [(.int (1 : Int32))])) t
          refine XS.ifNo X54.here hx rfl (hb hby at_153) rfl ((if0 _ _).trans (feq ((by decide) : ¬ ((1 : Int32) = (0 : Int32)))).1) ?_
          show Steps p.tables e below (T54.setTop (mkF m 156 #[.val (.long e1), .second, .val (.int c1), .val (.long e2), .second, .val (.int c2), .val (.int fl), .val (.long eb), .second, .val (.int cb), .val (.ref b9), .val (.ref b11), .val (.int (0 : Int32)), .val (.ref b43), .val (.int (0 : Int32)), .val (.int (0 : Int32)), .val (.int (1 : Int32)), .val (.int (0 : Int32)), .val (.int (0 : Int32))] [])) t
          refine XS.iload X54.here hx rfl (hb hby at_156) rfl ?_
          show Steps p.tables e below (T54.setTop (mkF m 158 #[.val (.long e1), .second, .val (.int c1), .val (.long e2), .second, .val (.int c2), .val (.int fl), .val (.long eb), .second, .val (.int cb), .val (.ref b9), .val (.ref b11), .val (.int (0 : Int32)), .val (.ref b43), .val (.int (0 : Int32)), .val (.int (0 : Int32)), .val (.int (1 : Int32)), .val (.int (0 : Int32)), .val (.int (0 : Int32))] [(.int (0 : Int32))])) t
          refine XS.ifNo X54.here hx rfl (hb hby at_158) rfl ((if0 _ _).trans (teq ((by decide) : (0 : Int32) = (0 : Int32))).2) ?_
          show Steps p.tables e below (T54.setTop (mkF m 161 #[.val (.long e1), .second, .val (.int c1), .val (.long e2), .second, .val (.int c2), .val (.int fl), .val (.long eb), .second, .val (.int cb), .val (.ref b9), .val (.ref b11), .val (.int (0 : Int32)), .val (.ref b43), .val (.int (0 : Int32)), .val (.int (0 : Int32)), .val (.int (1 : Int32)), .val (.int (0 : Int32)), .val (.int (0 : Int32))] [])) t
          refine XS.iload X54.here hx rfl (hb hby at_161) rfl ?_
          show Steps p.tables e below (T54.setTop (mkF m 163 #[.val (.long e1), .second, .val (.int c1), .val (.long e2), .second, .val (.int c2), .val (.int fl), .val (.long eb), .second, .val (.int cb), .val (.ref b9), .val (.ref b11), .val (.int (0 : Int32)), .val (.ref b43), .val (.int (0 : Int32)), .val (.int (0 : Int32)), .val (.int (1 : Int32)), .val (.int (0 : Int32)), .val (.int (0 : Int32))] [(.int (0 : Int32))])) t
          refine XS.ifNo X54.here hx rfl (hb hby at_163) rfl ((if0 _ _).trans (teq ((by decide) : (0 : Int32) = (0 : Int32))).2) ?_
          show Steps p.tables e below (T54.setTop (mkF m 166 #[.val (.long e1), .second, .val (.int c1), .val (.long e2), .second, .val (.int c2), .val (.int fl), .val (.long eb), .second, .val (.int cb), .val (.ref b9), .val (.ref b11), .val (.int (0 : Int32)), .val (.ref b43), .val (.int (0 : Int32)), .val (.int (0 : Int32)), .val (.int (1 : Int32)), .val (.int (0 : Int32)), .val (.int (0 : Int32))] [])) t
          refine XS.iconst X54.here hx rfl (hb hby at_166) ?_
          show Steps p.tables e below (T54.setTop (mkF m 167 #[.val (.long e1), .second, .val (.int c1), .val (.long e2), .second, .val (.int c2), .val (.int fl), .val (.long eb), .second, .val (.int cb), .val (.ref b9), .val (.ref b11), .val (.int (0 : Int32)), .val (.ref b43), .val (.int (0 : Int32)), .val (.int (0 : Int32)), .val (.int (1 : Int32)), .val (.int (0 : Int32)), .val (.int (0 : Int32))] [(.int (1 : Int32))])) t
          refine XS.goto X54.here hx rfl (pc0 := 167) (pc' := 171) rfl (hb hby at_167) (by decide) (by decide) ?_
          exact k
        obtain ⟨fs, hr, hrun, hended, hW, hsame⟩ := X54.leave (v := some (.int (1 : Int32))) (fun h => by rw [Bd.returns] at h; cases h)
        refine ⟨_, _, R55 _ ?_, hrun, hended, _, _, rfl, ?_, ⟨_, rfl⟩, hW, hsame.mono (by decide) (by decide)⟩
        · show Steps p.tables e below (T54.setTop (mkF m 171 #[.val (.long e1), .second, .val (.int c1), .val (.long e2), .second, .val (.int c2), .val (.int fl), .val (.long eb), .second, .val (.int cb), .val (.ref b9), .val (.ref b11), .val (.int (0 : Int32)), .val (.ref b43), .val (.int (0 : Int32)), .val (.int (0 : Int32)), .val (.int (1 : Int32)), .val (.int (0 : Int32)), .val (.int (0 : Int32))] [(.int (1 : Int32))])) _
          exact retN X54 hx (t := .boolean) Bd.returns (by simp) (hb hby at_171) hr
        · show Q_rm0 Z wcI ccI wcJ ccJ e1 c1 e2 c2 fl h0 n0 _ T54.heap _
          rw [e54]
          exact ⟨rfl, N54⟩
      · obtain ⟨_, _, ⟨T56, L56, k56, n56⟩, -, X56, ⟨Lc56, hQ56, l56, y56, z56⟩, st56⟩ := Jvm.LawKit.callS X12 hx (y := (⟨"java/lang/Long", "valueOf", "(J)Ljava/lang/Long;"⟩ : MethodName)) hown (mvT hZ (hw _ (List.mem_of_getElem? (i := 45) rfl))) (mvT hZ (hw _ (List.mem_of_getElem? (i := 46) rfl))) (mvT hZ (hw _ (List.mem_of_getElem? (i := 47) rfl))) (mvT hZ (hw _ (List.mem_of_getElem? (i := 48) rfl))) (by decide) (backOf (W := 0) (valueOfJ l Z a0 hw [] wcI ccI wcJ ccJ e1 T12.heap n0 O12 S_cI B_cI S_hi S_cJ B_cJ   ) hZ (hw _ (List.mem_of_getElem? (i := 48) rfl)) (hw _ (List.mem_of_getElem? (i := 47) rfl)) (by decide) (by decide)) (g := (mkF m 81 #[.val (.long e1), .second, .val (.int c1), .val (.long e2), .second, .val (.int c2), .val (.int fl), .val (.long eb), .second, .val (.int cb), .val (.ref b9), .val (.ref b11), .val (.int (0 : Int32)), .unset, .unset, .unset, .unset, .unset, .unset] [(.long e1)])) rfl (by rw [hml]; rfl) (argsL := [(.long e1)]) (rest := []) (lenOf pd_6 rfl) rfl (by show 2 * 0 + _ ≤ _; exact Nat.le_of_eq rfl) (hb hby at_81) (fun _ _ => ⟨rfl, rfl, (by decide : 2 + 1 ≤ _), (by decide : 4 + 1 ≤ _)⟩)
        dsimp only [Pt.U, Pt.locs, Pt.cells, Pt.slots] at X56 l56 y56 z56 st56 hQ56
        subst l56 y56 z56
        obtain ⟨b56, rfl, N56q, K56q, y56_0⟩ := hQ56
        have N56 := Fr.app N12 N56q
        have Z56 : n0 ≤ T56.heap.size := Nat.le_trans Z12 K56q.1
        have K56 : Keep h0 T56.heap [] := K12.trans K56q all0
        have O56 : Old Z n0 T56.heap := O12.keep K56q all0
        have f58 : Exa Z T56.heap b9 "com/example/ballot/ballot/model/Vote" := (((y10_0.ext E11).keep K12q).keep K56q)
        have f59 : Exa Z T56.heap b11 "com/example/ballot/ballot/model/Vote" := (y12_0.keep K56q)
        have f60 : Fld Z T56.heap b9 "com/example/ballot/ballot/model/Vote" "epoch" "J" (.long e1) := (((y10_1.ext E11).keep K12q (ninS ne_b9_b11 nin0)).keep K56q nin0)
        have f61 : Fld Z T56.heap b11 "com/example/ballot/ballot/model/Vote" "epoch" "J" (.long eb) := (y12_1.keep K56q nin0)
        have f62 : Fld Z T56.heap b9 "com/example/ballot/ballot/model/Vote" "candidate" "I" (.int c1) := (((y10_2.ext E11).keep K12q (ninS ne_b9_b11 nin0)).keep K56q nin0)
        have f63 : Fld Z T56.heap b11 "com/example/ballot/ballot/model/Vote" "candidate" "I" (.int cb) := (y12_2.keep K56q nin0)
        obtain ⟨cq57, kq57, q57a, q57b, q57c⟩ := isOf hZ rfl f58
        obtain ⟨_, _, ⟨T57, L57, k57, n57⟩, -, X57, ⟨Lc57, hQ57, l57, y57, z57⟩, st57⟩ := X56.virtualBack hx (y := (⟨"com/example/ballot/ballot/model/Vote", "equals", "(Ljava/lang/Object;)Z"⟩ : MethodName)) (z := (⟨"com/example/ballot/ballot/model/Vote", "equals", "(Ljava/lang/Object;)Z"⟩ : MethodName)) hown (mvT hZ (hw _ (List.mem_of_getElem? (i := 20) rfl))) (mvT hZ (hw _ (List.mem_of_getElem? (i := 21) rfl))) (notFace_of_selects (args := #[]) (mvT hZ (hw _ (List.mem_of_getElem? (i := 23) rfl)))) (mvT hZ (hw _ (List.mem_of_getElem? (i := 23) rfl))) (mvT hZ (hw _ (List.mem_of_getElem? (i := 22) rfl))) (by decide) (backOf (W := 0) (eqF2 l Z a0 hw [] wcI ccI wcJ ccJ b9 b11 e1 eb c1 cb T56.heap n0 O56 S_cI B_cI S_hi S_cJ B_cJ   f58 f59 f60 f61 f62 f63 hl hc) hZ (hw _ (List.mem_of_getElem? (i := 24) rfl)) (hw _ (List.mem_of_getElem? (i := 2) rfl)) (by decide) (by decide)) q57a q57c (g := (mkF m 97 #[.val (.long e1), .second, .val (.int c1), .val (.long e2), .second, .val (.int c2), .val (.int fl), .val (.long eb), .second, .val (.int cb), .val (.ref b9), .val (.ref b11), .val (.int (0 : Int32)), .val (.ref b56), .unset, .unset, .unset, .unset, .unset] [(.ref b11), (.ref b9)])) rfl (by rw [hml]; rfl) (Steps.refl _) (argsL := [(.ref b11)]) (rest := []) (lenOf pd_5 rfl) rfl (by show 2 * 0 + _ ≤ _; exact Nat.le_of_eq rfl) (hb hby at_97) (fun _ _ => ⟨rfl, rfl, (by decide : 3 + 0 ≤ _), (by decide : 5 + 0 ≤ _)⟩)
        dsimp only [Pt.U, Pt.locs, Pt.cells, Pt.slots] at X57 l57 y57 z57 st57 hQ57
        subst l57 y57 z57
        obtain ⟨rfl, N57q, e57⟩ := hQ57
        have N57 := Fr.app N56 N57q
        obtain ⟨cq64, kq64, q64a, q64b, q64c⟩ := isOf hZ e57 f59
        obtain ⟨_, _, ⟨T64, L64, k64, n64⟩, -, X64, ⟨Lc64, hQ64, l64, y64, z64⟩, st64⟩ := X57.virtualBack hx (y := (⟨"com/example/ballot/ballot/model/Vote", "equals", "(Ljava/lang/Object;)Z"⟩ : MethodName)) (z := (⟨"com/example/ballot/ballot/model/Vote", "equals", "(Ljava/lang/Object;)Z"⟩ : MethodName)) hown (mvT hZ (hw _ (List.mem_of_getElem? (i := 20) rfl))) (mvT hZ (hw _ (List.mem_of_getElem? (i := 21) rfl))) (notFace_of_selects (args := #[]) (mvT hZ (hw _ (List.mem_of_getElem? (i := 23) rfl)))) (mvT hZ (hw _ (List.mem_of_getElem? (i := 23) rfl))) (mvT hZ (hw _ (List.mem_of_getElem? (i := 22) rfl))) (by decide) (backOf (W := 0) (eqF2 l Z a0 hw [] wcI ccI wcJ ccJ b11 b9 eb e1 cb c1 T56.heap n0 O56 S_cI B_cI S_hi S_cJ B_cJ   f59 f58 f61 f60 f63 f62 ((lw_eq _ _).2 ((lw_eq _ _).1 hl).symm) (fun q => hc q.symm)) hZ (hw _ (List.mem_of_getElem? (i := 24) rfl)) (hw _ (List.mem_of_getElem? (i := 2) rfl)) (by decide) (by decide)) q64a q64c (g := (mkF m 106 #[.val (.long e1), .second, .val (.int c1), .val (.long e2), .second, .val (.int c2), .val (.int fl), .val (.long eb), .second, .val (.int cb), .val (.ref b9), .val (.ref b11), .val (.int (0 : Int32)), .val (.ref b56), .val (.int (0 : Int32)), .unset, .unset, .unset, .unset] [(.ref b9), (.ref b11)])) rfl (by rw [hml]; rfl) (Steps.refl _) (argsL := [(.ref b9)]) (rest := []) (lenOf pd_5 rfl) rfl (by show 2 * 0 + _ ≤ _; exact Nat.le_of_eq rfl) (hb hby at_106) (fun _ _ => ⟨rfl, e57, (by decide : 3 + 0 ≤ _), (by decide : 5 + 0 ≤ _)⟩)
        dsimp only [Pt.U, Pt.locs, Pt.cells, Pt.slots] at X64 l64 y64 z64 st64 hQ64
        subst l64 y64 z64
        obtain ⟨rfl, N64q, e64⟩ := hQ64
        have N64 := Fr.app N57 N64q
        obtain ⟨cq65, kq65, q65a, q65b, q65c⟩ := isOf hZ e64 f58
        obtain ⟨_, _, ⟨T65, L65, k65, n65⟩, -, X65, ⟨Lc65, hQ65, l65, y65, z65⟩, st65⟩ := X64.virtualBack hx (y := (⟨"com/example/ballot/ballot/model/Vote", "equals", "(Ljava/lang/Object;)Z"⟩ : MethodName)) (z := (⟨"com/example/ballot/ballot/model/Vote", "equals", "(Ljava/lang/Object;)Z"⟩ : MethodName)) hown (mvT hZ (hw _ (List.mem_of_getElem? (i := 20) rfl))) (mvT hZ (hw _ (List.mem_of_getElem? (i := 21) rfl))) (notFace_of_selects (args := #[]) (mvT hZ (hw _ (List.mem_of_getElem? (i := 23) rfl)))) (mvT hZ (hw _ (List.mem_of_getElem? (i := 23) rfl))) (mvT hZ (hw _ (List.mem_of_getElem? (i := 22) rfl))) (by decide) (backOf (W := 0) (eqT l Z a0 hw [] wcI ccI wcJ ccJ b9 b9 e1 e1 c1 c1 T56.heap n0 O56 S_cI B_cI S_hi S_cJ B_cJ   f58 f58 f60 f60 f62 f62 ((lw_eq _ _).2 rfl) rfl) hZ (hw _ (List.mem_of_getElem? (i := 24) rfl)) (hw _ (List.mem_of_getElem? (i := 2) rfl)) (by decide) (by decide)) q65a q65c (g := (mkF m 115 #[.val (.long e1), .second, .val (.int c1), .val (.long e2), .second, .val (.int c2), .val (.int fl), .val (.long eb), .second, .val (.int cb), .val (.ref b9), .val (.ref b11), .val (.int (0 : Int32)), .val (.ref b56), .val (.int (0 : Int32)), .val (.int (0 : Int32)), .unset, .unset, .unset] [(.ref b9), (.ref b9)])) rfl (by rw [hml]; rfl) (Steps.refl _) (argsL := [(.ref b9)]) (rest := []) (lenOf pd_5 rfl) rfl (by show 2 * 0 + _ ≤ _; exact Nat.le_of_eq rfl) (hb hby at_115) (fun _ _ => ⟨rfl, e64, (by decide : 3 + 0 ≤ _), (by decide : 5 + 0 ≤ _)⟩)
        dsimp only [Pt.U, Pt.locs, Pt.cells, Pt.slots] at X65 l65 y65 z65 st65 hQ65
        subst l65 y65 z65
        obtain ⟨rfl, N65q, e65⟩ := hQ65
        have N65 := Fr.app N64 N65q
        obtain ⟨cq66, kq66, q66a, q66b, q66c⟩ := isOf hZ e65 f58
        obtain ⟨_, _, ⟨T66, L66, k66, n66⟩, -, X66, ⟨Lc66, hQ66, l66, y66, z66⟩, st66⟩ := X65.virtualBack hx (y := (⟨"com/example/ballot/ballot/model/Vote", "equals", "(Ljava/lang/Object;)Z"⟩ : MethodName)) (z := (⟨"com/example/ballot/ballot/model/Vote", "equals", "(Ljava/lang/Object;)Z"⟩ : MethodName)) hown (mvT hZ (hw _ (List.mem_of_getElem? (i := 20) rfl))) (mvT hZ (hw _ (List.mem_of_getElem? (i := 21) rfl))) (notFace_of_selects (args := #[]) (mvT hZ (hw _ (List.mem_of_getElem? (i := 23) rfl)))) (mvT hZ (hw _ (List.mem_of_getElem? (i := 23) rfl))) (mvT hZ (hw _ (List.mem_of_getElem? (i := 22) rfl))) (by decide) (backOf (W := 0) (eqN l Z a0 hw [] wcI ccI wcJ ccJ b9 T56.heap n0 O56 S_cI B_cI S_hi S_cJ B_cJ   ) hZ (hw _ (List.mem_of_getElem? (i := 24) rfl)) (hw _ (List.mem_of_getElem? (i := 2) rfl)) (by decide) (by decide)) q66a q66c (g := (mkF m 123 #[.val (.long e1), .second, .val (.int c1), .val (.long e2), .second, .val (.int c2), .val (.int fl), .val (.long eb), .second, .val (.int cb), .val (.ref b9), .val (.ref b11), .val (.int (0 : Int32)), .val (.ref b56), .val (.int (0 : Int32)), .val (.int (0 : Int32)), .val (.int (1 : Int32)), .unset, .unset] [.null, (.ref b9)])) rfl (by rw [hml]; rfl) (Steps.refl _) (argsL := [.null]) (rest := []) (lenOf pd_5 rfl) rfl (by show 2 * 0 + _ ≤ _; exact Nat.le_of_eq rfl) (hb hby at_123) (fun _ _ => ⟨rfl, e65, (by decide : 3 + 0 ≤ _), (by decide : 5 + 0 ≤ _)⟩)
        dsimp only [Pt.U, Pt.locs, Pt.cells, Pt.slots] at X66 l66 y66 z66 st66 hQ66
        subst l66 y66 z66
        obtain ⟨rfl, N66q, e66⟩ := hQ66
        have N66 := Fr.app N65 N66q
        obtain ⟨cq67, kq67, q67a, q67b, q67c⟩ := isOf hZ e66 f58
        obtain ⟨_, _, ⟨T67, L67, k67, n67⟩, -, X67, ⟨Lc67, hQ67, l67, y67, z67⟩, st67⟩ := X66.virtualBack hx (y := (⟨"com/example/ballot/ballot/model/Vote", "equals", "(Ljava/lang/Object;)Z"⟩ : MethodName)) (z := (⟨"com/example/ballot/ballot/model/Vote", "equals", "(Ljava/lang/Object;)Z"⟩ : MethodName)) hown (mvT hZ (hw _ (List.mem_of_getElem? (i := 20) rfl))) (mvT hZ (hw _ (List.mem_of_getElem? (i := 21) rfl))) (notFace_of_selects (args := #[]) (mvT hZ (hw _ (List.mem_of_getElem? (i := 23) rfl)))) (mvT hZ (hw _ (List.mem_of_getElem? (i := 23) rfl))) (mvT hZ (hw _ (List.mem_of_getElem? (i := 22) rfl))) (by decide) (backOf (W := 0) (eqOJ l Z a0 hw [] wcI ccI wcJ ccJ b9 b56 T56.heap n0 O56 S_cI B_cI S_hi S_cJ B_cJ   y56_0) hZ (hw _ (List.mem_of_getElem? (i := 24) rfl)) (hw _ (List.mem_of_getElem? (i := 2) rfl)) (by decide) (by decide)) q67a q67c (g := (mkF m 132 #[.val (.long e1), .second, .val (.int c1), .val (.long e2), .second, .val (.int c2), .val (.int fl), .val (.long eb), .second, .val (.int cb), .val (.ref b9), .val (.ref b11), .val (.int (0 : Int32)), .val (.ref b56), .val (.int (0 : Int32)), .val (.int (0 : Int32)), .val (.int (1 : Int32)), .val (.int (0 : Int32)), .unset] [(.ref b56), (.ref b9)])) rfl (by rw [hml]; rfl) (Steps.refl _) (argsL := [(.ref b56)]) (rest := []) (lenOf pd_5 rfl) rfl (by show 2 * 0 + _ ≤ _; exact Nat.le_of_eq rfl) (hb hby at_132) (fun _ _ => ⟨rfl, e66, (by decide : 3 + 0 ≤ _), (by decide : 5 + 0 ≤ _)⟩)
        dsimp only [Pt.U, Pt.locs, Pt.cells, Pt.slots] at X67 l67 y67 z67 st67 hQ67
        subst l67 y67 z67
        obtain ⟨rfl, N67q, e67⟩ := hQ67
        have N67 := Fr.app N66 N67q
        have R68 : ∀ t, Steps p.tables e below (T67.setTop (mkF m 171 #[.val (.long e1), .second, .val (.int c1), .val (.long e2), .second, .val (.int c2), .val (.int fl), .val (.long eb), .second, .val (.int cb), .val (.ref b9), .val (.ref b11), .val (.int (0 : Int32)), .val (.ref b56), .val (.int (0 : Int32)), .val (.int (0 : Int32)), .val (.int (1 : Int32)), .val (.int (0 : Int32)), .val (.int (0 : Int32))] [(.int (1 : Int32))])) t → Steps p.tables e below (s₁.setTop (entryFrame m #[(.long e1), (.int c1), (.long e2), (.int c2), (.int fl)] maxLocals)) t := by
          intro t k
          refine R42 t ?_
          show Steps p.tables e below (T12.setTop (mkF m 77 #[.val (.long e1), .second, .val (.int c1), .val (.long e2), .second, .val (.int c2), .val (.int fl), .val (.long eb), .second, .val (.int cb), .val (.ref b9), .val (.ref b11), .val (.int (0 : Int32)), .unset, .unset, .unset, .unset, .unset, .unset] [(.int (fl &&& (4 : Int32)))])) t
          refine XS.ifNo X12.here hx rfl (hb hby at_77) rfl ((if0 _ _).trans (feq (hf : ¬ ((fl &&& (4 : Int32)) = (0 : Int32)))).1) ?_
          show Steps p.tables e below (T12.setTop (mkF m 80 #[.val (.long e1), .second, .val (.int c1), .val (.long e2), .second, .val (.int c2), .val (.int fl), .val (.long eb), .second, .val (.int cb), .val (.ref b9), .val (.ref b11), .val (.int (0 : Int32)), .unset, .unset, .unset, .unset, .unset, .unset] [])) t
          refine XS.lloadN X12.here hx rfl (hb hby at_80) rfl ?_
          show Steps p.tables e below (T12.setTop (mkF m 81 #[.val (.long e1), .second, .val (.int c1), .val (.long e2), .second, .val (.int c2), .val (.int fl), .val (.long eb), .second, .val (.int cb), .val (.ref b9), .val (.ref b11), .val (.int (0 : Int32)), .unset, .unset, .unset, .unset, .unset, .unset] [(.long e1)])) t
          refine st56 _ ?_
          show Steps p.tables e below (T56.setTop (mkF m 84 #[.val (.long e1), .second, .val (.int c1), .val (.long e2), .second, .val (.int c2), .val (.int fl), .val (.long eb), .second, .val (.int cb), .val (.ref b9), .val (.ref b11), .val (.int (0 : Int32)), .unset, .unset, .unset, .unset, .unset, .unset] [(.ref b56)])) t
          refine XS.goto X56.here hx rfl (pc0 := 84) (pc' := 91) rfl (hb hby at_84) (by decide) (by decide) ?_
          show Steps p.tables e below (T56.setTop (mkF m 91 #[.val (.long e1), .second, .val (.int c1), .val (.long e2), .second, .val (.int c2), .val (.int fl), .val (.long eb), .second, .val (.int cb), .val (.ref b9), .val (.ref b11), .val (.int (0 : Int32)), .unset, .unset, .unset, .unset, .unset, .unset] [(.ref b56)])) t
          refine XS.astore X56.here hx rfl (hb hby at_91) rfl rfl (l' := #[.val (.long e1), .second, .val (.int c1), .val (.long e2), .second, .val (.int c2), .val (.int fl), .val (.long eb), .second, .val (.int cb), .val (.ref b9), .val (.ref b11), .val (.int (0 : Int32)), .val (.ref b56), .unset, .unset, .unset, .unset, .unset]) rfl ?_
          show Steps p.tables e below (T56.setTop (mkF m 93 #[.val (.long e1), .second, .val (.int c1), .val (.long e2), .second, .val (.int c2), .val (.int fl), .val (.long eb), .second, .val (.int cb), .val (.ref b9), .val (.ref b11), .val (.int (0 : Int32)), .val (.ref b56), .unset, .unset, .unset, .unset, .unset] [])) t
          refine XS.aload X56.here hx rfl (hb hby at_93) rfl rfl ?_
          show Steps p.tables e below (T56.setTop (mkF m 95 #[.val (.long e1), .second, .val (.int c1), .val (.long e2), .second, .val (.int c2), .val (.int fl), .val (.long eb), .second, .val (.int cb), .val (.ref b9), .val (.ref b11), .val (.int (0 : Int32)), .val (.ref b56), .unset, .unset, .unset, .unset, .unset] [(.ref b9)])) t
          refine XS.aload X56.here hx rfl (hb hby at_95) rfl rfl ?_
          show Steps p.tables e below (T56.setTop (mkF m 97 #[.val (.long e1), .second, .val (.int c1), .val (.long e2), .second, .val (.int c2), .val (.int fl), .val (.long eb), .second, .val (.int cb), .val (.ref b9), .val (.ref b11), .val (.int (0 : Int32)), .val (.ref b56), .unset, .unset, .unset, .unset, .unset] [(.ref b11), (.ref b9)])) t
          refine st57.trans ?_
          show Steps p.tables e below (T57.setTop (mkF m 100 #[.val (.long e1), .second, .val (.int c1), .val (.long e2), .second, .val (.int c2), .val (.int fl), .val (.long eb), .second, .val (.int cb), .val (.ref b9), .val (.ref b11), .val (.int (0 : Int32)), .val (.ref b56), .unset, .unset, .unset, .unset, .unset] [(.int (0 : Int32))])) t
          refine XS.istore X57.here hx rfl (hb hby at_100) rfl (l' := #[.val (.long e1), .second, .val (.int c1), .val (.long e2), .second, .val (.int c2), .val (.int fl), .val (.long eb), .second, .val (.int cb), .val (.ref b9), .val (.ref b11), .val (.int (0 : Int32)), .val (.ref b56), .val (.int (0 : Int32)), .unset, .unset, .unset, .unset]) rfl ?_
          show Steps p.tables e below (T57.setTop (mkF m 102 #[.val (.long e1), .second, .val (.int c1), .val (.long e2), .second, .val (.int c2), .val (.int fl), .val (.long eb), .second, .val (.int cb), .val (.ref b9), .val (.ref b11), .val (.int (0 : Int32)), .val (.ref b56), .val (.int (0 : Int32)), .unset, .unset, .unset, .unset] [])) t
          refine XS.aload X57.here hx rfl (hb hby at_102) rfl rfl ?_
          show Steps p.tables e below (T57.setTop (mkF m 104 #[.val (.long e1), .second, .val (.int c1), .val (.long e2), .second, .val (.int c2), .val (.int fl), .val (.long eb), .second, .val (.int cb), .val (.ref b9), .val (.ref b11), .val (.int (0 : Int32)), .val (.ref b56), .val (.int (0 : Int32)), .unset, .unset, .unset, .unset] [(.ref b11)])) t
          refine XS.aload X57.here hx rfl (hb hby at_104) rfl rfl ?_
          show Steps p.tables e below (T57.setTop (mkF m 106 #[.val (.long e1), .second, .val (.int c1), .val (.long e2), .second, .val (.int c2), .val (.int fl), .val (.long eb), .second, .val (.int cb), .val (.ref b9), .val (.ref b11), .val (.int (0 : Int32)), .val (.ref b56), .val (.int (0 : Int32)), .unset, .unset, .unset, .unset] [(.ref b9), (.ref b11)])) t
          refine st64.trans ?_
          show Steps p.tables e below (T64.setTop (mkF m 109 #[.val (.long e1), .second, .val (.int c1), .val (.long e2), .second, .val (.int c2), .val (.int fl), .val (.long eb), .second, .val (.int cb), .val (.ref b9), .val (.ref b11), .val (.int (0 : Int32)), .val (.ref b56), .val (.int (0 : Int32)), .unset, .unset, .unset, .unset] [(.int (0 : Int32))])) t
          refine XS.istore X64.here hx rfl (hb hby at_109) rfl (l' := #[.val (.long e1), .second, .val (.int c1), .val (.long e2), .second, .val (.int c2), .val (.int fl), .val (.long eb), .second, .val (.int cb), .val (.ref b9), .val (.ref b11), .val (.int (0 : Int32)), .val (.ref b56), .val (.int (0 : Int32)), .val (.int (0 : Int32)), .unset, .unset, .unset]) rfl ?_
          show Steps p.tables e below (T64.setTop (mkF m 111 #[.val (.long e1), .second, .val (.int c1), .val (.long e2), .second, .val (.int c2), .val (.int fl), .val (.long eb), .second, .val (.int cb), .val (.ref b9), .val (.ref b11), .val (.int (0 : Int32)), .val (.ref b56), .val (.int (0 : Int32)), .val (.int (0 : Int32)), .unset, .unset, .unset] [])) t
          refine XS.aload X64.here hx rfl (hb hby at_111) rfl rfl ?_
          show Steps p.tables e below (T64.setTop (mkF m 113 #[.val (.long e1), .second, .val (.int c1), .val (.long e2), .second, .val (.int c2), .val (.int fl), .val (.long eb), .second, .val (.int cb), .val (.ref b9), .val (.ref b11), .val (.int (0 : Int32)), .val (.ref b56), .val (.int (0 : Int32)), .val (.int (0 : Int32)), .unset, .unset, .unset] [(.ref b9)])) t
          refine XS.aload X64.here hx rfl (hb hby at_113) rfl rfl ?_
          show Steps p.tables e below (T64.setTop (mkF m 115 #[.val (.long e1), .second, .val (.int c1), .val (.long e2), .second, .val (.int c2), .val (.int fl), .val (.long eb), .second, .val (.int cb), .val (.ref b9), .val (.ref b11), .val (.int (0 : Int32)), .val (.ref b56), .val (.int (0 : Int32)), .val (.int (0 : Int32)), .unset, .unset, .unset] [(.ref b9), (.ref b9)])) t
          refine st65.trans ?_
          show Steps p.tables e below (T65.setTop (mkF m 118 #[.val (.long e1), .second, .val (.int c1), .val (.long e2), .second, .val (.int c2), .val (.int fl), .val (.long eb), .second, .val (.int cb), .val (.ref b9), .val (.ref b11), .val (.int (0 : Int32)), .val (.ref b56), .val (.int (0 : Int32)), .val (.int (0 : Int32)), .unset, .unset, .unset] [(.int (1 : Int32))])) t
          refine XS.istore X65.here hx rfl (hb hby at_118) rfl (l' := #[.val (.long e1), .second, .val (.int c1), .val (.long e2), .second, .val (.int c2), .val (.int fl), .val (.long eb), .second, .val (.int cb), .val (.ref b9), .val (.ref b11), .val (.int (0 : Int32)), .val (.ref b56), .val (.int (0 : Int32)), .val (.int (0 : Int32)), .val (.int (1 : Int32)), .unset, .unset]) rfl ?_
          show Steps p.tables e below (T65.setTop (mkF m 120 #[.val (.long e1), .second, .val (.int c1), .val (.long e2), .second, .val (.int c2), .val (.int fl), .val (.long eb), .second, .val (.int cb), .val (.ref b9), .val (.ref b11), .val (.int (0 : Int32)), .val (.ref b56), .val (.int (0 : Int32)), .val (.int (0 : Int32)), .val (.int (1 : Int32)), .unset, .unset] [])) t
          refine XS.aload X65.here hx rfl (hb hby at_120) rfl rfl ?_
          show Steps p.tables e below (T65.setTop (mkF m 122 #[.val (.long e1), .second, .val (.int c1), .val (.long e2), .second, .val (.int c2), .val (.int fl), .val (.long eb), .second, .val (.int cb), .val (.ref b9), .val (.ref b11), .val (.int (0 : Int32)), .val (.ref b56), .val (.int (0 : Int32)), .val (.int (0 : Int32)), .val (.int (1 : Int32)), .unset, .unset] [(.ref b9)])) t
          refine XS.aconstNull X65.here hx rfl (hb hby at_122) ?_
          show Steps p.tables e below (T65.setTop (mkF m 123 #[.val (.long e1), .second, .val (.int c1), .val (.long e2), .second, .val (.int c2), .val (.int fl), .val (.long eb), .second, .val (.int cb), .val (.ref b9), .val (.ref b11), .val (.int (0 : Int32)), .val (.ref b56), .val (.int (0 : Int32)), .val (.int (0 : Int32)), .val (.int (1 : Int32)), .unset, .unset] [.null, (.ref b9)])) t
          refine st66.trans ?_
          show Steps p.tables e below (T66.setTop (mkF m 126 #[.val (.long e1), .second, .val (.int c1), .val (.long e2), .second, .val (.int c2), .val (.int fl), .val (.long eb), .second, .val (.int cb), .val (.ref b9), .val (.ref b11), .val (.int (0 : Int32)), .val (.ref b56), .val (.int (0 : Int32)), .val (.int (0 : Int32)), .val (.int (1 : Int32)), .unset, .unset] [(.int (0 : Int32))])) t
          refine XS.istore X66.here hx rfl (hb hby at_126) rfl (l' := #[.val (.long e1), .second, .val (.int c1), .val (.long e2), .second, .val (.int c2), .val (.int fl), .val (.long eb), .second, .val (.int cb), .val (.ref b9), .val (.ref b11), .val (.int (0 : Int32)), .val (.ref b56), .val (.int (0 : Int32)), .val (.int (0 : Int32)), .val (.int (1 : Int32)), .val (.int (0 : Int32)), .unset]) rfl ?_
          show Steps p.tables e below (T66.setTop (mkF m 128 #[.val (.long e1), .second, .val (.int c1), .val (.long e2), .second, .val (.int c2), .val (.int fl), .val (.long eb), .second, .val (.int cb), .val (.ref b9), .val (.ref b11), .val (.int (0 : Int32)), .val (.ref b56), .val (.int (0 : Int32)), .val (.int (0 : Int32)), .val (.int (1 : Int32)), .val (.int (0 : Int32)), .unset] [])) t
          refine XS.aload X66.here hx rfl (hb hby at_128) rfl rfl ?_
          show Steps p.tables e below (T66.setTop (mkF m 130 #[.val (.long e1), .second, .val (.int c1), .val (.long e2), .second, .val (.int c2), .val (.int fl), .val (.long eb), .second, .val (.int cb), .val (.ref b9), .val (.ref b11), .val (.int (0 : Int32)), .val (.ref b56), .val (.int (0 : Int32)), .val (.int (0 : Int32)), .val (.int (1 : Int32)), .val (.int (0 : Int32)), .unset] [(.ref b9)])) t
          refine XS.aload X66.here hx rfl (hb hby at_130) rfl rfl ?_
          show Steps p.tables e below (T66.setTop (mkF m 132 #[.val (.long e1), .second, .val (.int c1), .val (.long e2), .second, .val (.int c2), .val (.int fl), .val (.long eb), .second, .val (.int cb), .val (.ref b9), .val (.ref b11), .val (.int (0 : Int32)), .val (.ref b56), .val (.int (0 : Int32)), .val (.int (0 : Int32)), .val (.int (1 : Int32)), .val (.int (0 : Int32)), .unset] [(.ref b56), (.ref b9)])) t
          refine st67.trans ?_
          show Steps p.tables e below (T67.setTop (mkF m 135 #[.val (.long e1), .second, .val (.int c1), .val (.long e2), .second, .val (.int c2), .val (.int fl), .val (.long eb), .second, .val (.int cb), .val (.ref b9), .val (.ref b11), .val (.int (0 : Int32)), .val (.ref b56), .val (.int (0 : Int32)), .val (.int (0 : Int32)), .val (.int (1 : Int32)), .val (.int (0 : Int32)), .unset] [(.int (0 : Int32))])) t
          refine XS.istore X67.here hx rfl (hb hby at_135) rfl (l' := #[.val (.long e1), .second, .val (.int c1), .val (.long e2), .second, .val (.int c2), .val (.int fl), .val (.long eb), .second, .val (.int cb), .val (.ref b9), .val (.ref b11), .val (.int (0 : Int32)), .val (.ref b56), .val (.int (0 : Int32)), .val (.int (0 : Int32)), .val (.int (1 : Int32)), .val (.int (0 : Int32)), .val (.int (0 : Int32))]) rfl ?_
          show Steps p.tables e below (T67.setTop (mkF m 137 #[.val (.long e1), .second, .val (.int c1), .val (.long e2), .second, .val (.int c2), .val (.int fl), .val (.long eb), .second, .val (.int cb), .val (.ref b9), .val (.ref b11), .val (.int (0 : Int32)), .val (.ref b56), .val (.int (0 : Int32)), .val (.int (0 : Int32)), .val (.int (1 : Int32)), .val (.int (0 : Int32)), .val (.int (0 : Int32))] [])) t
          refine XS.iload X67.here hx rfl (hb hby at_137) rfl ?_
          show Steps p.tables e below (T67.setTop (mkF m 139 #[.val (.long e1), .second, .val (.int c1), .val (.long e2), .second, .val (.int c2), .val (.int fl), .val (.long eb), .second, .val (.int cb), .val (.ref b9), .val (.ref b11), .val (.int (0 : Int32)), .val (.ref b56), .val (.int (0 : Int32)), .val (.int (0 : Int32)), .val (.int (1 : Int32)), .val (.int (0 : Int32)), .val (.int (0 : Int32))] [(.int (0 : Int32))])) t
          refine XS.iload X67.here hx rfl (hb hby at_139) rfl ?_
          show Steps p.tables e below (T67.setTop (mkF m 141 #[.val (.long e1), .second, .val (.int c1), .val (.long e2), .second, .val (.int c2), .val (.int fl), .val (.long eb), .second, .val (.int cb), .val (.ref b9), .val (.ref b11), .val (.int (0 : Int32)), .val (.ref b56), .val (.int (0 : Int32)), .val (.int (0 : Int32)), .val (.int (1 : Int32)), .val (.int (0 : Int32)), .val (.int (0 : Int32))] [(.int (0 : Int32)), (.int (0 : Int32))])) t
          refine XS.icmpNo X67.here hx rfl (hb hby at_141) rfl (teq ((by decide) : (0 : Int32) = (0 : Int32))).2 ?_
          show Steps p.tables e below (T67.setTop (mkF m 144 #[.val (.long e1), .second, .val (.int c1), .val (.long e2), .second, .val (.int c2), .val (.int fl), .val (.long eb), .second, .val (.int cb), .val (.ref b9), .val (.ref b11), .val (.int (0 : Int32)), .val (.ref b56), .val (.int (0 : Int32)), .val (.int (0 : Int32)), .val (.int (1 : Int32)), .val (.int (0 : Int32)), .val (.int (0 : Int32))] [])) t
          refine XS.iload X67.here hx rfl (hb hby at_144) rfl ?_
          show Steps p.tables e below (T67.setTop (mkF m 146 #[.val (.long e1), .second, .val (.int c1), .val (.long e2), .second, .val (.int c2), .val (.int fl), .val (.long eb), .second, .val (.int cb), .val (.ref b9), .val (.ref b11), .val (.int (0 : Int32)), .val (.ref b56), .val (.int (0 : Int32)), .val (.int (0 : Int32)), .val (.int (1 : Int32)), .val (.int (0 : Int32)), .val (.int (0 : Int32))] [(.int (0 : Int32))])) t
          refine XS.iload X67.here hx rfl (hb hby at_146) rfl ?_
          show Steps p.tables e below (T67.setTop (mkF m 148 #[.val (.long e1), .second, .val (.int c1), .val (.long e2), .second, .val (.int c2), .val (.int fl), .val (.long eb), .second, .val (.int cb), .val (.ref b9), .val (.ref b11), .val (.int (0 : Int32)), .val (.ref b56), .val (.int (0 : Int32)), .val (.int (0 : Int32)), .val (.int (1 : Int32)), .val (.int (0 : Int32)), .val (.int (0 : Int32))] [(.int (0 : Int32)), (.int (0 : Int32))])) t
          refine XS.icmpNo X67.here hx rfl (hb hby at_148) rfl (teq ((by decide) : (0 : Int32) = (0 : Int32))).2 ?_
          show Steps p.tables e below (T67.setTop (mkF m 151 #[.val (.long e1), .second, .val (.int c1), .val (.long e2), .second, .val (.int c2), .val (.int fl), .val (.long eb), .second, .val (.int cb), .val (.ref b9), .val (.ref b11), .val (.int (0 : Int32)), .val (.ref b56), .val (.int (0 : Int32)), .val (.int (0 : Int32)), .val (.int (1 : Int32)), .val (.int (0 : Int32)), .val (.int (0 : Int32))] [])) t
          refine XS.iload X67.here hx rfl (hb hby at_151) rfl ?_
          show Steps p.tables e below (T67.setTop (mkF m 153 #[.val (.long e1), .second, .val (.int c1), .val (.long e2), .second, .val (.int c2), .val (.int fl), .val (.long eb), .second, .val (.int cb), .val (.ref b9), .val (.ref b11), .val (.int (0 : Int32)), .val (.ref b56), .val (.int (0 : Int32)), .val (.int (0 : Int32)), .val (.int (1 : Int32)), .val (.int (0 : Int32)), .val (.int (0 : Int32))] [(.int (1 : Int32))])) t
          refine XS.ifNo X67.here hx rfl (hb hby at_153) rfl ((if0 _ _).trans (feq ((by decide) : ¬ ((1 : Int32) = (0 : Int32)))).1) ?_
          show Steps p.tables e below (T67.setTop (mkF m 156 #[.val (.long e1), .second, .val (.int c1), .val (.long e2), .second, .val (.int c2), .val (.int fl), .val (.long eb), .second, .val (.int cb), .val (.ref b9), .val (.ref b11), .val (.int (0 : Int32)), .val (.ref b56), .val (.int (0 : Int32)), .val (.int (0 : Int32)), .val (.int (1 : Int32)), .val (.int (0 : Int32)), .val (.int (0 : Int32))] [])) t
          refine XS.iload X67.here hx rfl (hb hby at_156) rfl ?_
          show Steps p.tables e below (T67.setTop (mkF m 158 #[.val (.long e1), .second, .val (.int c1), .val (.long e2), .second, .val (.int c2), .val (.int fl), .val (.long eb), .second, .val (.int cb), .val (.ref b9), .val (.ref b11), .val (.int (0 : Int32)), .val (.ref b56), .val (.int (0 : Int32)), .val (.int (0 : Int32)), .val (.int (1 : Int32)), .val (.int (0 : Int32)), .val (.int (0 : Int32))] [(.int (0 : Int32))])) t
          refine XS.ifNo X67.here hx rfl (hb hby at_158) rfl ((if0 _ _).trans (teq ((by decide) : (0 : Int32) = (0 : Int32))).2) ?_
          show Steps p.tables e below (T67.setTop (mkF m 161 #[.val (.long e1), .second, .val (.int c1), .val (.long e2), .second, .val (.int c2), .val (.int fl), .val (.long eb), .second, .val (.int cb), .val (.ref b9), .val (.ref b11), .val (.int (0 : Int32)), .val (.ref b56), .val (.int (0 : Int32)), .val (.int (0 : Int32)), .val (.int (1 : Int32)), .val (.int (0 : Int32)), .val (.int (0 : Int32))] [])) t
          refine XS.iload X67.here hx rfl (hb hby at_161) rfl ?_
          show Steps p.tables e below (T67.setTop (mkF m 163 #[.val (.long e1), .second, .val (.int c1), .val (.long e2), .second, .val (.int c2), .val (.int fl), .val (.long eb), .second, .val (.int cb), .val (.ref b9), .val (.ref b11), .val (.int (0 : Int32)), .val (.ref b56), .val (.int (0 : Int32)), .val (.int (0 : Int32)), .val (.int (1 : Int32)), .val (.int (0 : Int32)), .val (.int (0 : Int32))] [(.int (0 : Int32))])) t
          refine XS.ifNo X67.here hx rfl (hb hby at_163) rfl ((if0 _ _).trans (teq ((by decide) : (0 : Int32) = (0 : Int32))).2) ?_
          show Steps p.tables e below (T67.setTop (mkF m 166 #[.val (.long e1), .second, .val (.int c1), .val (.long e2), .second, .val (.int c2), .val (.int fl), .val (.long eb), .second, .val (.int cb), .val (.ref b9), .val (.ref b11), .val (.int (0 : Int32)), .val (.ref b56), .val (.int (0 : Int32)), .val (.int (0 : Int32)), .val (.int (1 : Int32)), .val (.int (0 : Int32)), .val (.int (0 : Int32))] [])) t
          refine XS.iconst X67.here hx rfl (hb hby at_166) ?_
          show Steps p.tables e below (T67.setTop (mkF m 167 #[.val (.long e1), .second, .val (.int c1), .val (.long e2), .second, .val (.int c2), .val (.int fl), .val (.long eb), .second, .val (.int cb), .val (.ref b9), .val (.ref b11), .val (.int (0 : Int32)), .val (.ref b56), .val (.int (0 : Int32)), .val (.int (0 : Int32)), .val (.int (1 : Int32)), .val (.int (0 : Int32)), .val (.int (0 : Int32))] [(.int (1 : Int32))])) t
          refine XS.goto X67.here hx rfl (pc0 := 167) (pc' := 171) rfl (hb hby at_167) (by decide) (by decide) ?_
          exact k
        obtain ⟨fs, hr, hrun, hended, hW, hsame⟩ := X67.leave (v := some (.int (1 : Int32))) (fun h => by rw [Bd.returns] at h; cases h)
        refine ⟨_, _, R68 _ ?_, hrun, hended, _, _, rfl, ?_, ⟨_, rfl⟩, hW, hsame.mono (by decide) (by decide)⟩
        · show Steps p.tables e below (T67.setTop (mkF m 171 #[.val (.long e1), .second, .val (.int c1), .val (.long e2), .second, .val (.int c2), .val (.int fl), .val (.long eb), .second, .val (.int cb), .val (.ref b9), .val (.ref b11), .val (.int (0 : Int32)), .val (.ref b56), .val (.int (0 : Int32)), .val (.int (0 : Int32)), .val (.int (1 : Int32)), .val (.int (0 : Int32)), .val (.int (0 : Int32))] [(.int (1 : Int32))])) _
          exact retN X67 hx (t := .boolean) Bd.returns (by simp) (hb hby at_171) hr
        · show Q_rm0 Z wcI ccI wcJ ccJ e1 c1 e2 c2 fl h0 n0 _ T67.heap _
          rw [e67]
          exact ⟨rfl, N67⟩
  · have R69 : ∀ t, Steps p.tables e below (T12.setTop (mkF m 77 #[.val (.long e1), .second, .val (.int c1), .val (.long e2), .second, .val (.int c2), .val (.int fl), .val (.long eb), .second, .val (.int cb), .val (.ref b9), .val (.ref b11), .val (.int (0 : Int32)), .unset, .unset, .unset, .unset, .unset, .unset] [(.int (fl &&& (4 : Int32)))])) t → Steps p.tables e below (s₁.setTop (entryFrame m #[(.long e1), (.int c1), (.long e2), (.int c2), (.int fl)] maxLocals)) t := by
      intro t k
      refine R13 t ?_
      show Steps p.tables e below (T12.setTop (mkF m 57 #[.val (.long e1), .second, .val (.int c1), .val (.long e2), .second, .val (.int c2), .val (.int fl), .val (.long eb), .second, .val (.int cb), .val (.ref b9), .val (.ref b11), .unset, .unset, .unset, .unset, .unset, .unset, .unset] [(.int (lcmpW e1 eb))])) t
      refine XS.ifYes X12.here hx rfl (pc0 := 57) (pc' := 70) rfl (hb hby at_57) rfl ((if0 _ _).trans (feq (hl : ¬ ((lcmpW e1 eb) = (0 : Int32)))).2) (by decide) (by decide) ?_
      show Steps p.tables e below (T12.setTop (mkF m 70 #[.val (.long e1), .second, .val (.int c1), .val (.long e2), .second, .val (.int c2), .val (.int fl), .val (.long eb), .second, .val (.int cb), .val (.ref b9), .val (.ref b11), .unset, .unset, .unset, .unset, .unset, .unset, .unset] [])) t
      refine XS.iconst X12.here hx rfl (hb hby at_70) ?_
      show Steps p.tables e below (T12.setTop (mkF m 71 #[.val (.long e1), .second, .val (.int c1), .val (.long e2), .second, .val (.int c2), .val (.int fl), .val (.long eb), .second, .val (.int cb), .val (.ref b9), .val (.ref b11), .unset, .unset, .unset, .unset, .unset, .unset, .unset] [(.int (0 : Int32))])) t
      refine XS.istore X12.here hx rfl (hb hby at_71) rfl (l' := #[.val (.long e1), .second, .val (.int c1), .val (.long e2), .second, .val (.int c2), .val (.int fl), .val (.long eb), .second, .val (.int cb), .val (.ref b9), .val (.ref b11), .val (.int (0 : Int32)), .unset, .unset, .unset, .unset, .unset, .unset]) rfl ?_
      show Steps p.tables e below (T12.setTop (mkF m 73 #[.val (.long e1), .second, .val (.int c1), .val (.long e2), .second, .val (.int c2), .val (.int fl), .val (.long eb), .second, .val (.int cb), .val (.ref b9), .val (.ref b11), .val (.int (0 : Int32)), .unset, .unset, .unset, .unset, .unset, .unset] [])) t
      refine XS.iload X12.here hx rfl (hb hby at_73) rfl ?_
      show Steps p.tables e below (T12.setTop (mkF m 75 #[.val (.long e1), .second, .val (.int c1), .val (.long e2), .second, .val (.int c2), .val (.int fl), .val (.long eb), .second, .val (.int cb), .val (.ref b9), .val (.ref b11), .val (.int (0 : Int32)), .unset, .unset, .unset, .unset, .unset, .unset] [(.int fl)])) t
      refine XS.iconst X12.here hx rfl (hb hby at_75) ?_
      show Steps p.tables e below (T12.setTop (mkF m 76 #[.val (.long e1), .second, .val (.int c1), .val (.long e2), .second, .val (.int c2), .val (.int fl), .val (.long eb), .second, .val (.int cb), .val (.ref b9), .val (.ref b11), .val (.int (0 : Int32)), .unset, .unset, .unset, .unset, .unset, .unset] [(.int (4 : Int32)), (.int fl)])) t
      refine XS.iand X12.here hx rfl (hb hby at_76) rfl ?_
      exact k
    by_cases hf : (fl &&& (4 : Int32)) = (0 : Int32)
    · obtain ⟨_, _, ⟨T70, L70, k70, n70⟩, -, X70, ⟨Lc70, hQ70, l70, y70, z70⟩, st70⟩ := Jvm.LawKit.callS X12 hx (y := (⟨"java/lang/Integer", "valueOf", "(I)Ljava/lang/Integer;"⟩ : MethodName)) hown (mvT hZ (hw _ (List.mem_of_getElem? (i := 13) rfl))) (mvT hZ (hw _ (List.mem_of_getElem? (i := 14) rfl))) (mvT hZ (hw _ (List.mem_of_getElem? (i := 15) rfl))) (mvT hZ (hw _ (List.mem_of_getElem? (i := 16) rfl))) (by decide) (backOf (W := 0) (valueOfI l Z a0 hw [] wcI ccI wcJ ccJ c1 T12.heap n0 O12 S_cI B_cI S_hi S_cJ B_cJ   ) hZ (hw _ (List.mem_of_getElem? (i := 16) rfl)) (hw _ (List.mem_of_getElem? (i := 15) rfl)) (by decide) (by decide)) (g := (mkF m 88 #[.val (.long e1), .second, .val (.int c1), .val (.long e2), .second, .val (.int c2), .val (.int fl), .val (.long eb), .second, .val (.int cb), .val (.ref b9), .val (.ref b11), .val (.int (0 : Int32)), .unset, .unset, .unset, .unset, .unset, .unset] [(.int c1)])) rfl (by rw [hml]; rfl) (argsL := [(.int c1)]) (rest := []) (lenOf pd_4 rfl) rfl (by show 2 * 0 + _ ≤ _; exact Nat.le_of_eq rfl) (hb hby at_88) (fun _ _ => ⟨rfl, rfl, (by decide : 2 + 1 ≤ _), (by decide : 4 + 1 ≤ _)⟩)
      dsimp only [Pt.U, Pt.locs, Pt.cells, Pt.slots] at X70 l70 y70 z70 st70 hQ70
      subst l70 y70 z70
      obtain ⟨b70, rfl, N70q, K70q, y70_0⟩ := hQ70
      have N70 := Fr.app N12 N70q
      have Z70 : n0 ≤ T70.heap.size := Nat.le_trans Z12 K70q.1
      have K70 : Keep h0 T70.heap [] := K12.trans K70q all0
      have O70 : Old Z n0 T70.heap := O12.keep K70q all0
      have f72 : Exa Z T70.heap b9 "com/example/ballot/ballot/model/Vote" := (((y10_0.ext E11).keep K12q).keep K70q)
      have f73 : Exa Z T70.heap b11 "com/example/ballot/ballot/model/Vote" := (y12_0.keep K70q)
      have f74 : Fld Z T70.heap b9 "com/example/ballot/ballot/model/Vote" "epoch" "J" (.long e1) := (((y10_1.ext E11).keep K12q (ninS ne_b9_b11 nin0)).keep K70q nin0)
      have f75 : Fld Z T70.heap b11 "com/example/ballot/ballot/model/Vote" "epoch" "J" (.long eb) := (y12_1.keep K70q nin0)
      have f76 : Fld Z T70.heap b9 "com/example/ballot/ballot/model/Vote" "candidate" "I" (.int c1) := (((y10_2.ext E11).keep K12q (ninS ne_b9_b11 nin0)).keep K70q nin0)
      have f77 : Fld Z T70.heap b11 "com/example/ballot/ballot/model/Vote" "candidate" "I" (.int cb) := (y12_2.keep K70q nin0)
      obtain ⟨cq71, kq71, q71a, q71b, q71c⟩ := isOf hZ rfl f72
      obtain ⟨_, _, ⟨T71, L71, k71, n71⟩, -, X71, ⟨Lc71, hQ71, l71, y71, z71⟩, st71⟩ := X70.virtualBack hx (y := (⟨"com/example/ballot/ballot/model/Vote", "equals", "(Ljava/lang/Object;)Z"⟩ : MethodName)) (z := (⟨"com/example/ballot/ballot/model/Vote", "equals", "(Ljava/lang/Object;)Z"⟩ : MethodName)) hown (mvT hZ (hw _ (List.mem_of_getElem? (i := 20) rfl))) (mvT hZ (hw _ (List.mem_of_getElem? (i := 21) rfl))) (notFace_of_selects (args := #[]) (mvT hZ (hw _ (List.mem_of_getElem? (i := 23) rfl)))) (mvT hZ (hw _ (List.mem_of_getElem? (i := 23) rfl))) (mvT hZ (hw _ (List.mem_of_getElem? (i := 22) rfl))) (by decide) (backOf (W := 0) (eqF1 l Z a0 hw [] wcI ccI wcJ ccJ b9 b11 e1 eb c1 cb T70.heap n0 O70 S_cI B_cI S_hi S_cJ B_cJ   f72 f73 f74 f75 f76 f77 hl) hZ (hw _ (List.mem_of_getElem? (i := 24) rfl)) (hw _ (List.mem_of_getElem? (i := 2) rfl)) (by decide) (by decide)) q71a q71c (g := (mkF m 97 #[.val (.long e1), .second, .val (.int c1), .val (.long e2), .second, .val (.int c2), .val (.int fl), .val (.long eb), .second, .val (.int cb), .val (.ref b9), .val (.ref b11), .val (.int (0 : Int32)), .val (.ref b70), .unset, .unset, .unset, .unset, .unset] [(.ref b11), (.ref b9)])) rfl (by rw [hml]; rfl) (Steps.refl _) (argsL := [(.ref b11)]) (rest := []) (lenOf pd_5 rfl) rfl (by show 2 * 0 + _ ≤ _; exact Nat.le_of_eq rfl) (hb hby at_97) (fun _ _ => ⟨rfl, rfl, (by decide : 3 + 0 ≤ _), (by decide : 5 + 0 ≤ _)⟩)
      dsimp only [Pt.U, Pt.locs, Pt.cells, Pt.slots] at X71 l71 y71 z71 st71 hQ71
      subst l71 y71 z71
      obtain ⟨rfl, N71q, e71⟩ := hQ71
      have N71 := Fr.app N70 N71q
      obtain ⟨cq78, kq78, q78a, q78b, q78c⟩ := isOf hZ e71 f73
      obtain ⟨_, _, ⟨T78, L78, k78, n78⟩, -, X78, ⟨Lc78, hQ78, l78, y78, z78⟩, st78⟩ := X71.virtualBack hx (y := (⟨"com/example/ballot/ballot/model/Vote", "equals", "(Ljava/lang/Object;)Z"⟩ : MethodName)) (z := (⟨"com/example/ballot/ballot/model/Vote", "equals", "(Ljava/lang/Object;)Z"⟩ : MethodName)) hown (mvT hZ (hw _ (List.mem_of_getElem? (i := 20) rfl))) (mvT hZ (hw _ (List.mem_of_getElem? (i := 21) rfl))) (notFace_of_selects (args := #[]) (mvT hZ (hw _ (List.mem_of_getElem? (i := 23) rfl)))) (mvT hZ (hw _ (List.mem_of_getElem? (i := 23) rfl))) (mvT hZ (hw _ (List.mem_of_getElem? (i := 22) rfl))) (by decide) (backOf (W := 0) (eqF1 l Z a0 hw [] wcI ccI wcJ ccJ b11 b9 eb e1 cb c1 T70.heap n0 O70 S_cI B_cI S_hi S_cJ B_cJ   f73 f72 f75 f74 f77 f76 (fun q => hl ((lw_eq _ _).2 ((lw_eq _ _).1 q).symm))) hZ (hw _ (List.mem_of_getElem? (i := 24) rfl)) (hw _ (List.mem_of_getElem? (i := 2) rfl)) (by decide) (by decide)) q78a q78c (g := (mkF m 106 #[.val (.long e1), .second, .val (.int c1), .val (.long e2), .second, .val (.int c2), .val (.int fl), .val (.long eb), .second, .val (.int cb), .val (.ref b9), .val (.ref b11), .val (.int (0 : Int32)), .val (.ref b70), .val (.int (0 : Int32)), .unset, .unset, .unset, .unset] [(.ref b9), (.ref b11)])) rfl (by rw [hml]; rfl) (Steps.refl _) (argsL := [(.ref b9)]) (rest := []) (lenOf pd_5 rfl) rfl (by show 2 * 0 + _ ≤ _; exact Nat.le_of_eq rfl) (hb hby at_106) (fun _ _ => ⟨rfl, e71, (by decide : 3 + 0 ≤ _), (by decide : 5 + 0 ≤ _)⟩)
      dsimp only [Pt.U, Pt.locs, Pt.cells, Pt.slots] at X78 l78 y78 z78 st78 hQ78
      subst l78 y78 z78
      obtain ⟨rfl, N78q, e78⟩ := hQ78
      have N78 := Fr.app N71 N78q
      obtain ⟨cq79, kq79, q79a, q79b, q79c⟩ := isOf hZ e78 f72
      obtain ⟨_, _, ⟨T79, L79, k79, n79⟩, -, X79, ⟨Lc79, hQ79, l79, y79, z79⟩, st79⟩ := X78.virtualBack hx (y := (⟨"com/example/ballot/ballot/model/Vote", "equals", "(Ljava/lang/Object;)Z"⟩ : MethodName)) (z := (⟨"com/example/ballot/ballot/model/Vote", "equals", "(Ljava/lang/Object;)Z"⟩ : MethodName)) hown (mvT hZ (hw _ (List.mem_of_getElem? (i := 20) rfl))) (mvT hZ (hw _ (List.mem_of_getElem? (i := 21) rfl))) (notFace_of_selects (args := #[]) (mvT hZ (hw _ (List.mem_of_getElem? (i := 23) rfl)))) (mvT hZ (hw _ (List.mem_of_getElem? (i := 23) rfl))) (mvT hZ (hw _ (List.mem_of_getElem? (i := 22) rfl))) (by decide) (backOf (W := 0) (eqT l Z a0 hw [] wcI ccI wcJ ccJ b9 b9 e1 e1 c1 c1 T70.heap n0 O70 S_cI B_cI S_hi S_cJ B_cJ   f72 f72 f74 f74 f76 f76 ((lw_eq _ _).2 rfl) rfl) hZ (hw _ (List.mem_of_getElem? (i := 24) rfl)) (hw _ (List.mem_of_getElem? (i := 2) rfl)) (by decide) (by decide)) q79a q79c (g := (mkF m 115 #[.val (.long e1), .second, .val (.int c1), .val (.long e2), .second, .val (.int c2), .val (.int fl), .val (.long eb), .second, .val (.int cb), .val (.ref b9), .val (.ref b11), .val (.int (0 : Int32)), .val (.ref b70), .val (.int (0 : Int32)), .val (.int (0 : Int32)), .unset, .unset, .unset] [(.ref b9), (.ref b9)])) rfl (by rw [hml]; rfl) (Steps.refl _) (argsL := [(.ref b9)]) (rest := []) (lenOf pd_5 rfl) rfl (by show 2 * 0 + _ ≤ _; exact Nat.le_of_eq rfl) (hb hby at_115) (fun _ _ => ⟨rfl, e78, (by decide : 3 + 0 ≤ _), (by decide : 5 + 0 ≤ _)⟩)
      dsimp only [Pt.U, Pt.locs, Pt.cells, Pt.slots] at X79 l79 y79 z79 st79 hQ79
      subst l79 y79 z79
      obtain ⟨rfl, N79q, e79⟩ := hQ79
      have N79 := Fr.app N78 N79q
      obtain ⟨cq80, kq80, q80a, q80b, q80c⟩ := isOf hZ e79 f72
      obtain ⟨_, _, ⟨T80, L80, k80, n80⟩, -, X80, ⟨Lc80, hQ80, l80, y80, z80⟩, st80⟩ := X79.virtualBack hx (y := (⟨"com/example/ballot/ballot/model/Vote", "equals", "(Ljava/lang/Object;)Z"⟩ : MethodName)) (z := (⟨"com/example/ballot/ballot/model/Vote", "equals", "(Ljava/lang/Object;)Z"⟩ : MethodName)) hown (mvT hZ (hw _ (List.mem_of_getElem? (i := 20) rfl))) (mvT hZ (hw _ (List.mem_of_getElem? (i := 21) rfl))) (notFace_of_selects (args := #[]) (mvT hZ (hw _ (List.mem_of_getElem? (i := 23) rfl)))) (mvT hZ (hw _ (List.mem_of_getElem? (i := 23) rfl))) (mvT hZ (hw _ (List.mem_of_getElem? (i := 22) rfl))) (by decide) (backOf (W := 0) (eqN l Z a0 hw [] wcI ccI wcJ ccJ b9 T70.heap n0 O70 S_cI B_cI S_hi S_cJ B_cJ   ) hZ (hw _ (List.mem_of_getElem? (i := 24) rfl)) (hw _ (List.mem_of_getElem? (i := 2) rfl)) (by decide) (by decide)) q80a q80c (g := (mkF m 123 #[.val (.long e1), .second, .val (.int c1), .val (.long e2), .second, .val (.int c2), .val (.int fl), .val (.long eb), .second, .val (.int cb), .val (.ref b9), .val (.ref b11), .val (.int (0 : Int32)), .val (.ref b70), .val (.int (0 : Int32)), .val (.int (0 : Int32)), .val (.int (1 : Int32)), .unset, .unset] [.null, (.ref b9)])) rfl (by rw [hml]; rfl) (Steps.refl _) (argsL := [.null]) (rest := []) (lenOf pd_5 rfl) rfl (by show 2 * 0 + _ ≤ _; exact Nat.le_of_eq rfl) (hb hby at_123) (fun _ _ => ⟨rfl, e79, (by decide : 3 + 0 ≤ _), (by decide : 5 + 0 ≤ _)⟩)
      dsimp only [Pt.U, Pt.locs, Pt.cells, Pt.slots] at X80 l80 y80 z80 st80 hQ80
      subst l80 y80 z80
      obtain ⟨rfl, N80q, e80⟩ := hQ80
      have N80 := Fr.app N79 N80q
      obtain ⟨cq81, kq81, q81a, q81b, q81c⟩ := isOf hZ e80 f72
      obtain ⟨_, _, ⟨T81, L81, k81, n81⟩, -, X81, ⟨Lc81, hQ81, l81, y81, z81⟩, st81⟩ := X80.virtualBack hx (y := (⟨"com/example/ballot/ballot/model/Vote", "equals", "(Ljava/lang/Object;)Z"⟩ : MethodName)) (z := (⟨"com/example/ballot/ballot/model/Vote", "equals", "(Ljava/lang/Object;)Z"⟩ : MethodName)) hown (mvT hZ (hw _ (List.mem_of_getElem? (i := 20) rfl))) (mvT hZ (hw _ (List.mem_of_getElem? (i := 21) rfl))) (notFace_of_selects (args := #[]) (mvT hZ (hw _ (List.mem_of_getElem? (i := 23) rfl)))) (mvT hZ (hw _ (List.mem_of_getElem? (i := 23) rfl))) (mvT hZ (hw _ (List.mem_of_getElem? (i := 22) rfl))) (by decide) (backOf (W := 0) (eqOI l Z a0 hw [] wcI ccI wcJ ccJ b9 b70 T70.heap n0 O70 S_cI B_cI S_hi S_cJ B_cJ   y70_0) hZ (hw _ (List.mem_of_getElem? (i := 24) rfl)) (hw _ (List.mem_of_getElem? (i := 2) rfl)) (by decide) (by decide)) q81a q81c (g := (mkF m 132 #[.val (.long e1), .second, .val (.int c1), .val (.long e2), .second, .val (.int c2), .val (.int fl), .val (.long eb), .second, .val (.int cb), .val (.ref b9), .val (.ref b11), .val (.int (0 : Int32)), .val (.ref b70), .val (.int (0 : Int32)), .val (.int (0 : Int32)), .val (.int (1 : Int32)), .val (.int (0 : Int32)), .unset] [(.ref b70), (.ref b9)])) rfl (by rw [hml]; rfl) (Steps.refl _) (argsL := [(.ref b70)]) (rest := []) (lenOf pd_5 rfl) rfl (by show 2 * 0 + _ ≤ _; exact Nat.le_of_eq rfl) (hb hby at_132) (fun _ _ => ⟨rfl, e80, (by decide : 3 + 0 ≤ _), (by decide : 5 + 0 ≤ _)⟩)
      dsimp only [Pt.U, Pt.locs, Pt.cells, Pt.slots] at X81 l81 y81 z81 st81 hQ81
      subst l81 y81 z81
      obtain ⟨rfl, N81q, e81⟩ := hQ81
      have N81 := Fr.app N80 N81q
      have R82 : ∀ t, Steps p.tables e below (T81.setTop (mkF m 171 #[.val (.long e1), .second, .val (.int c1), .val (.long e2), .second, .val (.int c2), .val (.int fl), .val (.long eb), .second, .val (.int cb), .val (.ref b9), .val (.ref b11), .val (.int (0 : Int32)), .val (.ref b70), .val (.int (0 : Int32)), .val (.int (0 : Int32)), .val (.int (1 : Int32)), .val (.int (0 : Int32)), .val (.int (0 : Int32))] [(.int (1 : Int32))])) t → Steps p.tables e below (s₁.setTop (entryFrame m #[(.long e1), (.int c1), (.long e2), (.int c2), (.int fl)] maxLocals)) t := by
        intro t k
        refine R69 t ?_
        show Steps p.tables e below (T12.setTop (mkF m 77 #[.val (.long e1), .second, .val (.int c1), .val (.long e2), .second, .val (.int c2), .val (.int fl), .val (.long eb), .second, .val (.int cb), .val (.ref b9), .val (.ref b11), .val (.int (0 : Int32)), .unset, .unset, .unset, .unset, .unset, .unset] [(.int (fl &&& (4 : Int32)))])) t
        refine XS.ifYes X12.here hx rfl (pc0 := 77) (pc' := 87) rfl (hb hby at_77) rfl ((if0 _ _).trans (teq (hf : (fl &&& (4 : Int32)) = (0 : Int32))).1) (by decide) (by decide) ?_
        show Steps p.tables e below (T12.setTop (mkF m 87 #[.val (.long e1), .second, .val (.int c1), .val (.long e2), .second, .val (.int c2), .val (.int fl), .val (.long eb), .second, .val (.int cb), .val (.ref b9), .val (.ref b11), .val (.int (0 : Int32)), .unset, .unset, .unset, .unset, .unset, .unset] [])) t
        refine XS.iloadN X12.here hx rfl (hb hby at_87) rfl ?_
        show Steps p.tables e below (T12.setTop (mkF m 88 #[.val (.long e1), .second, .val (.int c1), .val (.long e2), .second, .val (.int c2), .val (.int fl), .val (.long eb), .second, .val (.int cb), .val (.ref b9), .val (.ref b11), .val (.int (0 : Int32)), .unset, .unset, .unset, .unset, .unset, .unset] [(.int c1)])) t
        refine st70 _ ?_
        show Steps p.tables e below (T70.setTop (mkF m 91 #[.val (.long e1), .second, .val (.int c1), .val (.long e2), .second, .val (.int c2), .val (.int fl), .val (.long eb), .second, .val (.int cb), .val (.ref b9), .val (.ref b11), .val (.int (0 : Int32)), .unset, .unset, .unset, .unset, .unset, .unset] [(.ref b70)])) t
        refine XS.astore X70.here hx rfl (hb hby at_91) rfl rfl (l' := #[.val (.long e1), .second, .val (.int c1), .val (.long e2), .second, .val (.int c2), .val (.int fl), .val (.long eb), .second, .val (.int cb), .val (.ref b9), .val (.ref b11), .val (.int (0 : Int32)), .val (.ref b70), .unset, .unset, .unset, .unset, .unset]) rfl ?_
        show Steps p.tables e below (T70.setTop (mkF m 93 #[.val (.long e1), .second, .val (.int c1), .val (.long e2), .second, .val (.int c2), .val (.int fl), .val (.long eb), .second, .val (.int cb), .val (.ref b9), .val (.ref b11), .val (.int (0 : Int32)), .val (.ref b70), .unset, .unset, .unset, .unset, .unset] [])) t
        refine XS.aload X70.here hx rfl (hb hby at_93) rfl rfl ?_
        show Steps p.tables e below (T70.setTop (mkF m 95 #[.val (.long e1), .second, .val (.int c1), .val (.long e2), .second, .val (.int c2), .val (.int fl), .val (.long eb), .second, .val (.int cb), .val (.ref b9), .val (.ref b11), .val (.int (0 : Int32)), .val (.ref b70), .unset, .unset, .unset, .unset, .unset] [(.ref b9)])) t
        refine XS.aload X70.here hx rfl (hb hby at_95) rfl rfl ?_
        show Steps p.tables e below (T70.setTop (mkF m 97 #[.val (.long e1), .second, .val (.int c1), .val (.long e2), .second, .val (.int c2), .val (.int fl), .val (.long eb), .second, .val (.int cb), .val (.ref b9), .val (.ref b11), .val (.int (0 : Int32)), .val (.ref b70), .unset, .unset, .unset, .unset, .unset] [(.ref b11), (.ref b9)])) t
        refine st71.trans ?_
        show Steps p.tables e below (T71.setTop (mkF m 100 #[.val (.long e1), .second, .val (.int c1), .val (.long e2), .second, .val (.int c2), .val (.int fl), .val (.long eb), .second, .val (.int cb), .val (.ref b9), .val (.ref b11), .val (.int (0 : Int32)), .val (.ref b70), .unset, .unset, .unset, .unset, .unset] [(.int (0 : Int32))])) t
        refine XS.istore X71.here hx rfl (hb hby at_100) rfl (l' := #[.val (.long e1), .second, .val (.int c1), .val (.long e2), .second, .val (.int c2), .val (.int fl), .val (.long eb), .second, .val (.int cb), .val (.ref b9), .val (.ref b11), .val (.int (0 : Int32)), .val (.ref b70), .val (.int (0 : Int32)), .unset, .unset, .unset, .unset]) rfl ?_
        show Steps p.tables e below (T71.setTop (mkF m 102 #[.val (.long e1), .second, .val (.int c1), .val (.long e2), .second, .val (.int c2), .val (.int fl), .val (.long eb), .second, .val (.int cb), .val (.ref b9), .val (.ref b11), .val (.int (0 : Int32)), .val (.ref b70), .val (.int (0 : Int32)), .unset, .unset, .unset, .unset] [])) t
        refine XS.aload X71.here hx rfl (hb hby at_102) rfl rfl ?_
        show Steps p.tables e below (T71.setTop (mkF m 104 #[.val (.long e1), .second, .val (.int c1), .val (.long e2), .second, .val (.int c2), .val (.int fl), .val (.long eb), .second, .val (.int cb), .val (.ref b9), .val (.ref b11), .val (.int (0 : Int32)), .val (.ref b70), .val (.int (0 : Int32)), .unset, .unset, .unset, .unset] [(.ref b11)])) t
        refine XS.aload X71.here hx rfl (hb hby at_104) rfl rfl ?_
        show Steps p.tables e below (T71.setTop (mkF m 106 #[.val (.long e1), .second, .val (.int c1), .val (.long e2), .second, .val (.int c2), .val (.int fl), .val (.long eb), .second, .val (.int cb), .val (.ref b9), .val (.ref b11), .val (.int (0 : Int32)), .val (.ref b70), .val (.int (0 : Int32)), .unset, .unset, .unset, .unset] [(.ref b9), (.ref b11)])) t
        refine st78.trans ?_
        show Steps p.tables e below (T78.setTop (mkF m 109 #[.val (.long e1), .second, .val (.int c1), .val (.long e2), .second, .val (.int c2), .val (.int fl), .val (.long eb), .second, .val (.int cb), .val (.ref b9), .val (.ref b11), .val (.int (0 : Int32)), .val (.ref b70), .val (.int (0 : Int32)), .unset, .unset, .unset, .unset] [(.int (0 : Int32))])) t
        refine XS.istore X78.here hx rfl (hb hby at_109) rfl (l' := #[.val (.long e1), .second, .val (.int c1), .val (.long e2), .second, .val (.int c2), .val (.int fl), .val (.long eb), .second, .val (.int cb), .val (.ref b9), .val (.ref b11), .val (.int (0 : Int32)), .val (.ref b70), .val (.int (0 : Int32)), .val (.int (0 : Int32)), .unset, .unset, .unset]) rfl ?_
        show Steps p.tables e below (T78.setTop (mkF m 111 #[.val (.long e1), .second, .val (.int c1), .val (.long e2), .second, .val (.int c2), .val (.int fl), .val (.long eb), .second, .val (.int cb), .val (.ref b9), .val (.ref b11), .val (.int (0 : Int32)), .val (.ref b70), .val (.int (0 : Int32)), .val (.int (0 : Int32)), .unset, .unset, .unset] [])) t
        refine XS.aload X78.here hx rfl (hb hby at_111) rfl rfl ?_
        show Steps p.tables e below (T78.setTop (mkF m 113 #[.val (.long e1), .second, .val (.int c1), .val (.long e2), .second, .val (.int c2), .val (.int fl), .val (.long eb), .second, .val (.int cb), .val (.ref b9), .val (.ref b11), .val (.int (0 : Int32)), .val (.ref b70), .val (.int (0 : Int32)), .val (.int (0 : Int32)), .unset, .unset, .unset] [(.ref b9)])) t
        refine XS.aload X78.here hx rfl (hb hby at_113) rfl rfl ?_
        show Steps p.tables e below (T78.setTop (mkF m 115 #[.val (.long e1), .second, .val (.int c1), .val (.long e2), .second, .val (.int c2), .val (.int fl), .val (.long eb), .second, .val (.int cb), .val (.ref b9), .val (.ref b11), .val (.int (0 : Int32)), .val (.ref b70), .val (.int (0 : Int32)), .val (.int (0 : Int32)), .unset, .unset, .unset] [(.ref b9), (.ref b9)])) t
        refine st79.trans ?_
        show Steps p.tables e below (T79.setTop (mkF m 118 #[.val (.long e1), .second, .val (.int c1), .val (.long e2), .second, .val (.int c2), .val (.int fl), .val (.long eb), .second, .val (.int cb), .val (.ref b9), .val (.ref b11), .val (.int (0 : Int32)), .val (.ref b70), .val (.int (0 : Int32)), .val (.int (0 : Int32)), .unset, .unset, .unset] [(.int (1 : Int32))])) t
        refine XS.istore X79.here hx rfl (hb hby at_118) rfl (l' := #[.val (.long e1), .second, .val (.int c1), .val (.long e2), .second, .val (.int c2), .val (.int fl), .val (.long eb), .second, .val (.int cb), .val (.ref b9), .val (.ref b11), .val (.int (0 : Int32)), .val (.ref b70), .val (.int (0 : Int32)), .val (.int (0 : Int32)), .val (.int (1 : Int32)), .unset, .unset]) rfl ?_
        show Steps p.tables e below (T79.setTop (mkF m 120 #[.val (.long e1), .second, .val (.int c1), .val (.long e2), .second, .val (.int c2), .val (.int fl), .val (.long eb), .second, .val (.int cb), .val (.ref b9), .val (.ref b11), .val (.int (0 : Int32)), .val (.ref b70), .val (.int (0 : Int32)), .val (.int (0 : Int32)), .val (.int (1 : Int32)), .unset, .unset] [])) t
        refine XS.aload X79.here hx rfl (hb hby at_120) rfl rfl ?_
        show Steps p.tables e below (T79.setTop (mkF m 122 #[.val (.long e1), .second, .val (.int c1), .val (.long e2), .second, .val (.int c2), .val (.int fl), .val (.long eb), .second, .val (.int cb), .val (.ref b9), .val (.ref b11), .val (.int (0 : Int32)), .val (.ref b70), .val (.int (0 : Int32)), .val (.int (0 : Int32)), .val (.int (1 : Int32)), .unset, .unset] [(.ref b9)])) t
        refine XS.aconstNull X79.here hx rfl (hb hby at_122) ?_
        show Steps p.tables e below (T79.setTop (mkF m 123 #[.val (.long e1), .second, .val (.int c1), .val (.long e2), .second, .val (.int c2), .val (.int fl), .val (.long eb), .second, .val (.int cb), .val (.ref b9), .val (.ref b11), .val (.int (0 : Int32)), .val (.ref b70), .val (.int (0 : Int32)), .val (.int (0 : Int32)), .val (.int (1 : Int32)), .unset, .unset] [.null, (.ref b9)])) t
        refine st80.trans ?_
        show Steps p.tables e below (T80.setTop (mkF m 126 #[.val (.long e1), .second, .val (.int c1), .val (.long e2), .second, .val (.int c2), .val (.int fl), .val (.long eb), .second, .val (.int cb), .val (.ref b9), .val (.ref b11), .val (.int (0 : Int32)), .val (.ref b70), .val (.int (0 : Int32)), .val (.int (0 : Int32)), .val (.int (1 : Int32)), .unset, .unset] [(.int (0 : Int32))])) t
        refine XS.istore X80.here hx rfl (hb hby at_126) rfl (l' := #[.val (.long e1), .second, .val (.int c1), .val (.long e2), .second, .val (.int c2), .val (.int fl), .val (.long eb), .second, .val (.int cb), .val (.ref b9), .val (.ref b11), .val (.int (0 : Int32)), .val (.ref b70), .val (.int (0 : Int32)), .val (.int (0 : Int32)), .val (.int (1 : Int32)), .val (.int (0 : Int32)), .unset]) rfl ?_
        show Steps p.tables e below (T80.setTop (mkF m 128 #[.val (.long e1), .second, .val (.int c1), .val (.long e2), .second, .val (.int c2), .val (.int fl), .val (.long eb), .second, .val (.int cb), .val (.ref b9), .val (.ref b11), .val (.int (0 : Int32)), .val (.ref b70), .val (.int (0 : Int32)), .val (.int (0 : Int32)), .val (.int (1 : Int32)), .val (.int (0 : Int32)), .unset] [])) t
        refine XS.aload X80.here hx rfl (hb hby at_128) rfl rfl ?_
        show Steps p.tables e below (T80.setTop (mkF m 130 #[.val (.long e1), .second, .val (.int c1), .val (.long e2), .second, .val (.int c2), .val (.int fl), .val (.long eb), .second, .val (.int cb), .val (.ref b9), .val (.ref b11), .val (.int (0 : Int32)), .val (.ref b70), .val (.int (0 : Int32)), .val (.int (0 : Int32)), .val (.int (1 : Int32)), .val (.int (0 : Int32)), .unset] [(.ref b9)])) t
        refine XS.aload X80.here hx rfl (hb hby at_130) rfl rfl ?_
        show Steps p.tables e below (T80.setTop (mkF m 132 #[.val (.long e1), .second, .val (.int c1), .val (.long e2), .second, .val (.int c2), .val (.int fl), .val (.long eb), .second, .val (.int cb), .val (.ref b9), .val (.ref b11), .val (.int (0 : Int32)), .val (.ref b70), .val (.int (0 : Int32)), .val (.int (0 : Int32)), .val (.int (1 : Int32)), .val (.int (0 : Int32)), .unset] [(.ref b70), (.ref b9)])) t
        refine st81.trans ?_
        show Steps p.tables e below (T81.setTop (mkF m 135 #[.val (.long e1), .second, .val (.int c1), .val (.long e2), .second, .val (.int c2), .val (.int fl), .val (.long eb), .second, .val (.int cb), .val (.ref b9), .val (.ref b11), .val (.int (0 : Int32)), .val (.ref b70), .val (.int (0 : Int32)), .val (.int (0 : Int32)), .val (.int (1 : Int32)), .val (.int (0 : Int32)), .unset] [(.int (0 : Int32))])) t
        refine XS.istore X81.here hx rfl (hb hby at_135) rfl (l' := #[.val (.long e1), .second, .val (.int c1), .val (.long e2), .second, .val (.int c2), .val (.int fl), .val (.long eb), .second, .val (.int cb), .val (.ref b9), .val (.ref b11), .val (.int (0 : Int32)), .val (.ref b70), .val (.int (0 : Int32)), .val (.int (0 : Int32)), .val (.int (1 : Int32)), .val (.int (0 : Int32)), .val (.int (0 : Int32))]) rfl ?_
        show Steps p.tables e below (T81.setTop (mkF m 137 #[.val (.long e1), .second, .val (.int c1), .val (.long e2), .second, .val (.int c2), .val (.int fl), .val (.long eb), .second, .val (.int cb), .val (.ref b9), .val (.ref b11), .val (.int (0 : Int32)), .val (.ref b70), .val (.int (0 : Int32)), .val (.int (0 : Int32)), .val (.int (1 : Int32)), .val (.int (0 : Int32)), .val (.int (0 : Int32))] [])) t
        refine XS.iload X81.here hx rfl (hb hby at_137) rfl ?_
        show Steps p.tables e below (T81.setTop (mkF m 139 #[.val (.long e1), .second, .val (.int c1), .val (.long e2), .second, .val (.int c2), .val (.int fl), .val (.long eb), .second, .val (.int cb), .val (.ref b9), .val (.ref b11), .val (.int (0 : Int32)), .val (.ref b70), .val (.int (0 : Int32)), .val (.int (0 : Int32)), .val (.int (1 : Int32)), .val (.int (0 : Int32)), .val (.int (0 : Int32))] [(.int (0 : Int32))])) t
        refine XS.iload X81.here hx rfl (hb hby at_139) rfl ?_
        show Steps p.tables e below (T81.setTop (mkF m 141 #[.val (.long e1), .second, .val (.int c1), .val (.long e2), .second, .val (.int c2), .val (.int fl), .val (.long eb), .second, .val (.int cb), .val (.ref b9), .val (.ref b11), .val (.int (0 : Int32)), .val (.ref b70), .val (.int (0 : Int32)), .val (.int (0 : Int32)), .val (.int (1 : Int32)), .val (.int (0 : Int32)), .val (.int (0 : Int32))] [(.int (0 : Int32)), (.int (0 : Int32))])) t
        refine XS.icmpNo X81.here hx rfl (hb hby at_141) rfl (teq ((by decide) : (0 : Int32) = (0 : Int32))).2 ?_
        show Steps p.tables e below (T81.setTop (mkF m 144 #[.val (.long e1), .second, .val (.int c1), .val (.long e2), .second, .val (.int c2), .val (.int fl), .val (.long eb), .second, .val (.int cb), .val (.ref b9), .val (.ref b11), .val (.int (0 : Int32)), .val (.ref b70), .val (.int (0 : Int32)), .val (.int (0 : Int32)), .val (.int (1 : Int32)), .val (.int (0 : Int32)), .val (.int (0 : Int32))] [])) t
        refine XS.iload X81.here hx rfl (hb hby at_144) rfl ?_
        show Steps p.tables e below (T81.setTop (mkF m 146 #[.val (.long e1), .second, .val (.int c1), .val (.long e2), .second, .val (.int c2), .val (.int fl), .val (.long eb), .second, .val (.int cb), .val (.ref b9), .val (.ref b11), .val (.int (0 : Int32)), .val (.ref b70), .val (.int (0 : Int32)), .val (.int (0 : Int32)), .val (.int (1 : Int32)), .val (.int (0 : Int32)), .val (.int (0 : Int32))] [(.int (0 : Int32))])) t
        refine XS.iload X81.here hx rfl (hb hby at_146) rfl ?_
        show Steps p.tables e below (T81.setTop (mkF m 148 #[.val (.long e1), .second, .val (.int c1), .val (.long e2), .second, .val (.int c2), .val (.int fl), .val (.long eb), .second, .val (.int cb), .val (.ref b9), .val (.ref b11), .val (.int (0 : Int32)), .val (.ref b70), .val (.int (0 : Int32)), .val (.int (0 : Int32)), .val (.int (1 : Int32)), .val (.int (0 : Int32)), .val (.int (0 : Int32))] [(.int (0 : Int32)), (.int (0 : Int32))])) t
        refine XS.icmpNo X81.here hx rfl (hb hby at_148) rfl (teq ((by decide) : (0 : Int32) = (0 : Int32))).2 ?_
        show Steps p.tables e below (T81.setTop (mkF m 151 #[.val (.long e1), .second, .val (.int c1), .val (.long e2), .second, .val (.int c2), .val (.int fl), .val (.long eb), .second, .val (.int cb), .val (.ref b9), .val (.ref b11), .val (.int (0 : Int32)), .val (.ref b70), .val (.int (0 : Int32)), .val (.int (0 : Int32)), .val (.int (1 : Int32)), .val (.int (0 : Int32)), .val (.int (0 : Int32))] [])) t
        refine XS.iload X81.here hx rfl (hb hby at_151) rfl ?_
        show Steps p.tables e below (T81.setTop (mkF m 153 #[.val (.long e1), .second, .val (.int c1), .val (.long e2), .second, .val (.int c2), .val (.int fl), .val (.long eb), .second, .val (.int cb), .val (.ref b9), .val (.ref b11), .val (.int (0 : Int32)), .val (.ref b70), .val (.int (0 : Int32)), .val (.int (0 : Int32)), .val (.int (1 : Int32)), .val (.int (0 : Int32)), .val (.int (0 : Int32))] [(.int (1 : Int32))])) t
        refine XS.ifNo X81.here hx rfl (hb hby at_153) rfl ((if0 _ _).trans (feq ((by decide) : ¬ ((1 : Int32) = (0 : Int32)))).1) ?_
        show Steps p.tables e below (T81.setTop (mkF m 156 #[.val (.long e1), .second, .val (.int c1), .val (.long e2), .second, .val (.int c2), .val (.int fl), .val (.long eb), .second, .val (.int cb), .val (.ref b9), .val (.ref b11), .val (.int (0 : Int32)), .val (.ref b70), .val (.int (0 : Int32)), .val (.int (0 : Int32)), .val (.int (1 : Int32)), .val (.int (0 : Int32)), .val (.int (0 : Int32))] [])) t
        refine XS.iload X81.here hx rfl (hb hby at_156) rfl ?_
        show Steps p.tables e below (T81.setTop (mkF m 158 #[.val (.long e1), .second, .val (.int c1), .val (.long e2), .second, .val (.int c2), .val (.int fl), .val (.long eb), .second, .val (.int cb), .val (.ref b9), .val (.ref b11), .val (.int (0 : Int32)), .val (.ref b70), .val (.int (0 : Int32)), .val (.int (0 : Int32)), .val (.int (1 : Int32)), .val (.int (0 : Int32)), .val (.int (0 : Int32))] [(.int (0 : Int32))])) t
        refine XS.ifNo X81.here hx rfl (hb hby at_158) rfl ((if0 _ _).trans (teq ((by decide) : (0 : Int32) = (0 : Int32))).2) ?_
        show Steps p.tables e below (T81.setTop (mkF m 161 #[.val (.long e1), .second, .val (.int c1), .val (.long e2), .second, .val (.int c2), .val (.int fl), .val (.long eb), .second, .val (.int cb), .val (.ref b9), .val (.ref b11), .val (.int (0 : Int32)), .val (.ref b70), .val (.int (0 : Int32)), .val (.int (0 : Int32)), .val (.int (1 : Int32)), .val (.int (0 : Int32)), .val (.int (0 : Int32))] [])) t
        refine XS.iload X81.here hx rfl (hb hby at_161) rfl ?_
        show Steps p.tables e below (T81.setTop (mkF m 163 #[.val (.long e1), .second, .val (.int c1), .val (.long e2), .second, .val (.int c2), .val (.int fl), .val (.long eb), .second, .val (.int cb), .val (.ref b9), .val (.ref b11), .val (.int (0 : Int32)), .val (.ref b70), .val (.int (0 : Int32)), .val (.int (0 : Int32)), .val (.int (1 : Int32)), .val (.int (0 : Int32)), .val (.int (0 : Int32))] [(.int (0 : Int32))])) t
        refine XS.ifNo X81.here hx rfl (hb hby at_163) rfl ((if0 _ _).trans (teq ((by decide) : (0 : Int32) = (0 : Int32))).2) ?_
        show Steps p.tables e below (T81.setTop (mkF m 166 #[.val (.long e1), .second, .val (.int c1), .val (.long e2), .second, .val (.int c2), .val (.int fl), .val (.long eb), .second, .val (.int cb), .val (.ref b9), .val (.ref b11), .val (.int (0 : Int32)), .val (.ref b70), .val (.int (0 : Int32)), .val (.int (0 : Int32)), .val (.int (1 : Int32)), .val (.int (0 : Int32)), .val (.int (0 : Int32))] [])) t
        refine XS.iconst X81.here hx rfl (hb hby at_166) ?_
        show Steps p.tables e below (T81.setTop (mkF m 167 #[.val (.long e1), .second, .val (.int c1), .val (.long e2), .second, .val (.int c2), .val (.int fl), .val (.long eb), .second, .val (.int cb), .val (.ref b9), .val (.ref b11), .val (.int (0 : Int32)), .val (.ref b70), .val (.int (0 : Int32)), .val (.int (0 : Int32)), .val (.int (1 : Int32)), .val (.int (0 : Int32)), .val (.int (0 : Int32))] [(.int (1 : Int32))])) t
        refine XS.goto X81.here hx rfl (pc0 := 167) (pc' := 171) rfl (hb hby at_167) (by decide) (by decide) ?_
        exact k
      obtain ⟨fs, hr, hrun, hended, hW, hsame⟩ := X81.leave (v := some (.int (1 : Int32))) (fun h => by rw [Bd.returns] at h; cases h)
      refine ⟨_, _, R82 _ ?_, hrun, hended, _, _, rfl, ?_, ⟨_, rfl⟩, hW, hsame.mono (by decide) (by decide)⟩
      · show Steps p.tables e below (T81.setTop (mkF m 171 #[.val (.long e1), .second, .val (.int c1), .val (.long e2), .second, .val (.int c2), .val (.int fl), .val (.long eb), .second, .val (.int cb), .val (.ref b9), .val (.ref b11), .val (.int (0 : Int32)), .val (.ref b70), .val (.int (0 : Int32)), .val (.int (0 : Int32)), .val (.int (1 : Int32)), .val (.int (0 : Int32)), .val (.int (0 : Int32))] [(.int (1 : Int32))])) _
        exact retN X81 hx (t := .boolean) Bd.returns (by simp) (hb hby at_171) hr
      · show Q_rm0 Z wcI ccI wcJ ccJ e1 c1 e2 c2 fl h0 n0 _ T81.heap _
        rw [e81]
        exact ⟨rfl, N81⟩
    · obtain ⟨_, _, ⟨T83, L83, k83, n83⟩, -, X83, ⟨Lc83, hQ83, l83, y83, z83⟩, st83⟩ := Jvm.LawKit.callS X12 hx (y := (⟨"java/lang/Long", "valueOf", "(J)Ljava/lang/Long;"⟩ : MethodName)) hown (mvT hZ (hw _ (List.mem_of_getElem? (i := 45) rfl))) (mvT hZ (hw _ (List.mem_of_getElem? (i := 46) rfl))) (mvT hZ (hw _ (List.mem_of_getElem? (i := 47) rfl))) (mvT hZ (hw _ (List.mem_of_getElem? (i := 48) rfl))) (by decide) (backOf (W := 0) (valueOfJ l Z a0 hw [] wcI ccI wcJ ccJ e1 T12.heap n0 O12 S_cI B_cI S_hi S_cJ B_cJ   ) hZ (hw _ (List.mem_of_getElem? (i := 48) rfl)) (hw _ (List.mem_of_getElem? (i := 47) rfl)) (by decide) (by decide)) (g := (mkF m 81 #[.val (.long e1), .second, .val (.int c1), .val (.long e2), .second, .val (.int c2), .val (.int fl), .val (.long eb), .second, .val (.int cb), .val (.ref b9), .val (.ref b11), .val (.int (0 : Int32)), .unset, .unset, .unset, .unset, .unset, .unset] [(.long e1)])) rfl (by rw [hml]; rfl) (argsL := [(.long e1)]) (rest := []) (lenOf pd_6 rfl) rfl (by show 2 * 0 + _ ≤ _; exact Nat.le_of_eq rfl) (hb hby at_81) (fun _ _ => ⟨rfl, rfl, (by decide : 2 + 1 ≤ _), (by decide : 4 + 1 ≤ _)⟩)
      dsimp only [Pt.U, Pt.locs, Pt.cells, Pt.slots] at X83 l83 y83 z83 st83 hQ83
      subst l83 y83 z83
      obtain ⟨b83, rfl, N83q, K83q, y83_0⟩ := hQ83
      have N83 := Fr.app N12 N83q
      have Z83 : n0 ≤ T83.heap.size := Nat.le_trans Z12 K83q.1
      have K83 : Keep h0 T83.heap [] := K12.trans K83q all0
      have O83 : Old Z n0 T83.heap := O12.keep K83q all0
      have f85 : Exa Z T83.heap b9 "com/example/ballot/ballot/model/Vote" := (((y10_0.ext E11).keep K12q).keep K83q)
      have f86 : Exa Z T83.heap b11 "com/example/ballot/ballot/model/Vote" := (y12_0.keep K83q)
      have f87 : Fld Z T83.heap b9 "com/example/ballot/ballot/model/Vote" "epoch" "J" (.long e1) := (((y10_1.ext E11).keep K12q (ninS ne_b9_b11 nin0)).keep K83q nin0)
      have f88 : Fld Z T83.heap b11 "com/example/ballot/ballot/model/Vote" "epoch" "J" (.long eb) := (y12_1.keep K83q nin0)
      have f89 : Fld Z T83.heap b9 "com/example/ballot/ballot/model/Vote" "candidate" "I" (.int c1) := (((y10_2.ext E11).keep K12q (ninS ne_b9_b11 nin0)).keep K83q nin0)
      have f90 : Fld Z T83.heap b11 "com/example/ballot/ballot/model/Vote" "candidate" "I" (.int cb) := (y12_2.keep K83q nin0)
      obtain ⟨cq84, kq84, q84a, q84b, q84c⟩ := isOf hZ rfl f85
      obtain ⟨_, _, ⟨T84, L84, k84, n84⟩, -, X84, ⟨Lc84, hQ84, l84, y84, z84⟩, st84⟩ := X83.virtualBack hx (y := (⟨"com/example/ballot/ballot/model/Vote", "equals", "(Ljava/lang/Object;)Z"⟩ : MethodName)) (z := (⟨"com/example/ballot/ballot/model/Vote", "equals", "(Ljava/lang/Object;)Z"⟩ : MethodName)) hown (mvT hZ (hw _ (List.mem_of_getElem? (i := 20) rfl))) (mvT hZ (hw _ (List.mem_of_getElem? (i := 21) rfl))) (notFace_of_selects (args := #[]) (mvT hZ (hw _ (List.mem_of_getElem? (i := 23) rfl)))) (mvT hZ (hw _ (List.mem_of_getElem? (i := 23) rfl))) (mvT hZ (hw _ (List.mem_of_getElem? (i := 22) rfl))) (by decide) (backOf (W := 0) (eqF1 l Z a0 hw [] wcI ccI wcJ ccJ b9 b11 e1 eb c1 cb T83.heap n0 O83 S_cI B_cI S_hi S_cJ B_cJ   f85 f86 f87 f88 f89 f90 hl) hZ (hw _ (List.mem_of_getElem? (i := 24) rfl)) (hw _ (List.mem_of_getElem? (i := 2) rfl)) (by decide) (by decide)) q84a q84c (g := (mkF m 97 #[.val (.long e1), .second, .val (.int c1), .val (.long e2), .second, .val (.int c2), .val (.int fl), .val (.long eb), .second, .val (.int cb), .val (.ref b9), .val (.ref b11), .val (.int (0 : Int32)), .val (.ref b83), .unset, .unset, .unset, .unset, .unset] [(.ref b11), (.ref b9)])) rfl (by rw [hml]; rfl) (Steps.refl _) (argsL := [(.ref b11)]) (rest := []) (lenOf pd_5 rfl) rfl (by show 2 * 0 + _ ≤ _; exact Nat.le_of_eq rfl) (hb hby at_97) (fun _ _ => ⟨rfl, rfl, (by decide : 3 + 0 ≤ _), (by decide : 5 + 0 ≤ _)⟩)
      dsimp only [Pt.U, Pt.locs, Pt.cells, Pt.slots] at X84 l84 y84 z84 st84 hQ84
      subst l84 y84 z84
      obtain ⟨rfl, N84q, e84⟩ := hQ84
      have N84 := Fr.app N83 N84q
      obtain ⟨cq91, kq91, q91a, q91b, q91c⟩ := isOf hZ e84 f86
      obtain ⟨_, _, ⟨T91, L91, k91, n91⟩, -, X91, ⟨Lc91, hQ91, l91, y91, z91⟩, st91⟩ := X84.virtualBack hx (y := (⟨"com/example/ballot/ballot/model/Vote", "equals", "(Ljava/lang/Object;)Z"⟩ : MethodName)) (z := (⟨"com/example/ballot/ballot/model/Vote", "equals", "(Ljava/lang/Object;)Z"⟩ : MethodName)) hown (mvT hZ (hw _ (List.mem_of_getElem? (i := 20) rfl))) (mvT hZ (hw _ (List.mem_of_getElem? (i := 21) rfl))) (notFace_of_selects (args := #[]) (mvT hZ (hw _ (List.mem_of_getElem? (i := 23) rfl)))) (mvT hZ (hw _ (List.mem_of_getElem? (i := 23) rfl))) (mvT hZ (hw _ (List.mem_of_getElem? (i := 22) rfl))) (by decide) (backOf (W := 0) (eqF1 l Z a0 hw [] wcI ccI wcJ ccJ b11 b9 eb e1 cb c1 T83.heap n0 O83 S_cI B_cI S_hi S_cJ B_cJ   f86 f85 f88 f87 f90 f89 (fun q => hl ((lw_eq _ _).2 ((lw_eq _ _).1 q).symm))) hZ (hw _ (List.mem_of_getElem? (i := 24) rfl)) (hw _ (List.mem_of_getElem? (i := 2) rfl)) (by decide) (by decide)) q91a q91c (g := (mkF m 106 #[.val (.long e1), .second, .val (.int c1), .val (.long e2), .second, .val (.int c2), .val (.int fl), .val (.long eb), .second, .val (.int cb), .val (.ref b9), .val (.ref b11), .val (.int (0 : Int32)), .val (.ref b83), .val (.int (0 : Int32)), .unset, .unset, .unset, .unset] [(.ref b9), (.ref b11)])) rfl (by rw [hml]; rfl) (Steps.refl _) (argsL := [(.ref b9)]) (rest := []) (lenOf pd_5 rfl) rfl (by show 2 * 0 + _ ≤ _; exact Nat.le_of_eq rfl) (hb hby at_106) (fun _ _ => ⟨rfl, e84, (by decide : 3 + 0 ≤ _), (by decide : 5 + 0 ≤ _)⟩)
      dsimp only [Pt.U, Pt.locs, Pt.cells, Pt.slots] at X91 l91 y91 z91 st91 hQ91
      subst l91 y91 z91
      obtain ⟨rfl, N91q, e91⟩ := hQ91
      have N91 := Fr.app N84 N91q
      obtain ⟨cq92, kq92, q92a, q92b, q92c⟩ := isOf hZ e91 f85
      obtain ⟨_, _, ⟨T92, L92, k92, n92⟩, -, X92, ⟨Lc92, hQ92, l92, y92, z92⟩, st92⟩ := X91.virtualBack hx (y := (⟨"com/example/ballot/ballot/model/Vote", "equals", "(Ljava/lang/Object;)Z"⟩ : MethodName)) (z := (⟨"com/example/ballot/ballot/model/Vote", "equals", "(Ljava/lang/Object;)Z"⟩ : MethodName)) hown (mvT hZ (hw _ (List.mem_of_getElem? (i := 20) rfl))) (mvT hZ (hw _ (List.mem_of_getElem? (i := 21) rfl))) (notFace_of_selects (args := #[]) (mvT hZ (hw _ (List.mem_of_getElem? (i := 23) rfl)))) (mvT hZ (hw _ (List.mem_of_getElem? (i := 23) rfl))) (mvT hZ (hw _ (List.mem_of_getElem? (i := 22) rfl))) (by decide) (backOf (W := 0) (eqT l Z a0 hw [] wcI ccI wcJ ccJ b9 b9 e1 e1 c1 c1 T83.heap n0 O83 S_cI B_cI S_hi S_cJ B_cJ   f85 f85 f87 f87 f89 f89 ((lw_eq _ _).2 rfl) rfl) hZ (hw _ (List.mem_of_getElem? (i := 24) rfl)) (hw _ (List.mem_of_getElem? (i := 2) rfl)) (by decide) (by decide)) q92a q92c (g := (mkF m 115 #[.val (.long e1), .second, .val (.int c1), .val (.long e2), .second, .val (.int c2), .val (.int fl), .val (.long eb), .second, .val (.int cb), .val (.ref b9), .val (.ref b11), .val (.int (0 : Int32)), .val (.ref b83), .val (.int (0 : Int32)), .val (.int (0 : Int32)), .unset, .unset, .unset] [(.ref b9), (.ref b9)])) rfl (by rw [hml]; rfl) (Steps.refl _) (argsL := [(.ref b9)]) (rest := []) (lenOf pd_5 rfl) rfl (by show 2 * 0 + _ ≤ _; exact Nat.le_of_eq rfl) (hb hby at_115) (fun _ _ => ⟨rfl, e91, (by decide : 3 + 0 ≤ _), (by decide : 5 + 0 ≤ _)⟩)
      dsimp only [Pt.U, Pt.locs, Pt.cells, Pt.slots] at X92 l92 y92 z92 st92 hQ92
      subst l92 y92 z92
      obtain ⟨rfl, N92q, e92⟩ := hQ92
      have N92 := Fr.app N91 N92q
      obtain ⟨cq93, kq93, q93a, q93b, q93c⟩ := isOf hZ e92 f85
      obtain ⟨_, _, ⟨T93, L93, k93, n93⟩, -, X93, ⟨Lc93, hQ93, l93, y93, z93⟩, st93⟩ := X92.virtualBack hx (y := (⟨"com/example/ballot/ballot/model/Vote", "equals", "(Ljava/lang/Object;)Z"⟩ : MethodName)) (z := (⟨"com/example/ballot/ballot/model/Vote", "equals", "(Ljava/lang/Object;)Z"⟩ : MethodName)) hown (mvT hZ (hw _ (List.mem_of_getElem? (i := 20) rfl))) (mvT hZ (hw _ (List.mem_of_getElem? (i := 21) rfl))) (notFace_of_selects (args := #[]) (mvT hZ (hw _ (List.mem_of_getElem? (i := 23) rfl)))) (mvT hZ (hw _ (List.mem_of_getElem? (i := 23) rfl))) (mvT hZ (hw _ (List.mem_of_getElem? (i := 22) rfl))) (by decide) (backOf (W := 0) (eqN l Z a0 hw [] wcI ccI wcJ ccJ b9 T83.heap n0 O83 S_cI B_cI S_hi S_cJ B_cJ   ) hZ (hw _ (List.mem_of_getElem? (i := 24) rfl)) (hw _ (List.mem_of_getElem? (i := 2) rfl)) (by decide) (by decide)) q93a q93c (g := (mkF m 123 #[.val (.long e1), .second, .val (.int c1), .val (.long e2), .second, .val (.int c2), .val (.int fl), .val (.long eb), .second, .val (.int cb), .val (.ref b9), .val (.ref b11), .val (.int (0 : Int32)), .val (.ref b83), .val (.int (0 : Int32)), .val (.int (0 : Int32)), .val (.int (1 : Int32)), .unset, .unset] [.null, (.ref b9)])) rfl (by rw [hml]; rfl) (Steps.refl _) (argsL := [.null]) (rest := []) (lenOf pd_5 rfl) rfl (by show 2 * 0 + _ ≤ _; exact Nat.le_of_eq rfl) (hb hby at_123) (fun _ _ => ⟨rfl, e92, (by decide : 3 + 0 ≤ _), (by decide : 5 + 0 ≤ _)⟩)
      dsimp only [Pt.U, Pt.locs, Pt.cells, Pt.slots] at X93 l93 y93 z93 st93 hQ93
      subst l93 y93 z93
      obtain ⟨rfl, N93q, e93⟩ := hQ93
      have N93 := Fr.app N92 N93q
      obtain ⟨cq94, kq94, q94a, q94b, q94c⟩ := isOf hZ e93 f85
      obtain ⟨_, _, ⟨T94, L94, k94, n94⟩, -, X94, ⟨Lc94, hQ94, l94, y94, z94⟩, st94⟩ := X93.virtualBack hx (y := (⟨"com/example/ballot/ballot/model/Vote", "equals", "(Ljava/lang/Object;)Z"⟩ : MethodName)) (z := (⟨"com/example/ballot/ballot/model/Vote", "equals", "(Ljava/lang/Object;)Z"⟩ : MethodName)) hown (mvT hZ (hw _ (List.mem_of_getElem? (i := 20) rfl))) (mvT hZ (hw _ (List.mem_of_getElem? (i := 21) rfl))) (notFace_of_selects (args := #[]) (mvT hZ (hw _ (List.mem_of_getElem? (i := 23) rfl)))) (mvT hZ (hw _ (List.mem_of_getElem? (i := 23) rfl))) (mvT hZ (hw _ (List.mem_of_getElem? (i := 22) rfl))) (by decide) (backOf (W := 0) (eqOJ l Z a0 hw [] wcI ccI wcJ ccJ b9 b83 T83.heap n0 O83 S_cI B_cI S_hi S_cJ B_cJ   y83_0) hZ (hw _ (List.mem_of_getElem? (i := 24) rfl)) (hw _ (List.mem_of_getElem? (i := 2) rfl)) (by decide) (by decide)) q94a q94c (g := (mkF m 132 #[.val (.long e1), .second, .val (.int c1), .val (.long e2), .second, .val (.int c2), .val (.int fl), .val (.long eb), .second, .val (.int cb), .val (.ref b9), .val (.ref b11), .val (.int (0 : Int32)), .val (.ref b83), .val (.int (0 : Int32)), .val (.int (0 : Int32)), .val (.int (1 : Int32)), .val (.int (0 : Int32)), .unset] [(.ref b83), (.ref b9)])) rfl (by rw [hml]; rfl) (Steps.refl _) (argsL := [(.ref b83)]) (rest := []) (lenOf pd_5 rfl) rfl (by show 2 * 0 + _ ≤ _; exact Nat.le_of_eq rfl) (hb hby at_132) (fun _ _ => ⟨rfl, e93, (by decide : 3 + 0 ≤ _), (by decide : 5 + 0 ≤ _)⟩)
      dsimp only [Pt.U, Pt.locs, Pt.cells, Pt.slots] at X94 l94 y94 z94 st94 hQ94
      subst l94 y94 z94
      obtain ⟨rfl, N94q, e94⟩ := hQ94
      have N94 := Fr.app N93 N94q
      have R95 : ∀ t, Steps p.tables e below (T94.setTop (mkF m 171 #[.val (.long e1), .second, .val (.int c1), .val (.long e2), .second, .val (.int c2), .val (.int fl), .val (.long eb), .second, .val (.int cb), .val (.ref b9), .val (.ref b11), .val (.int (0 : Int32)), .val (.ref b83), .val (.int (0 : Int32)), .val (.int (0 : Int32)), .val (.int (1 : Int32)), .val (.int (0 : Int32)), .val (.int (0 : Int32))] [(.int (1 : Int32))])) t → Steps p.tables e below (s₁.setTop (entryFrame m #[(.long e1), (.int c1), (.long e2), (.int c2), (.int fl)] maxLocals)) t := by
        intro t k
        refine R69 t ?_
        show Steps p.tables e below (T12.setTop (mkF m 77 #[.val (.long e1), .second, .val (.int c1), .val (.long e2), .second, .val (.int c2), .val (.int fl), .val (.long eb), .second, .val (.int cb), .val (.ref b9), .val (.ref b11), .val (.int (0 : Int32)), .unset, .unset, .unset, .unset, .unset, .unset] [(.int (fl &&& (4 : Int32)))])) t
        refine XS.ifNo X12.here hx rfl (hb hby at_77) rfl ((if0 _ _).trans (feq (hf : ¬ ((fl &&& (4 : Int32)) = (0 : Int32)))).1) ?_
        show Steps p.tables e below (T12.setTop (mkF m 80 #[.val (.long e1), .second, .val (.int c1), .val (.long e2), .second, .val (.int c2), .val (.int fl), .val (.long eb), .second, .val (.int cb), .val (.ref b9), .val (.ref b11), .val (.int (0 : Int32)), .unset, .unset, .unset, .unset, .unset, .unset] [])) t
        refine XS.lloadN X12.here hx rfl (hb hby at_80) rfl ?_
        show Steps p.tables e below (T12.setTop (mkF m 81 #[.val (.long e1), .second, .val (.int c1), .val (.long e2), .second, .val (.int c2), .val (.int fl), .val (.long eb), .second, .val (.int cb), .val (.ref b9), .val (.ref b11), .val (.int (0 : Int32)), .unset, .unset, .unset, .unset, .unset, .unset] [(.long e1)])) t
        refine st83 _ ?_
        show Steps p.tables e below (T83.setTop (mkF m 84 #[.val (.long e1), .second, .val (.int c1), .val (.long e2), .second, .val (.int c2), .val (.int fl), .val (.long eb), .second, .val (.int cb), .val (.ref b9), .val (.ref b11), .val (.int (0 : Int32)), .unset, .unset, .unset, .unset, .unset, .unset] [(.ref b83)])) t
        refine XS.goto X83.here hx rfl (pc0 := 84) (pc' := 91) rfl (hb hby at_84) (by decide) (by decide) ?_
        show Steps p.tables e below (T83.setTop (mkF m 91 #[.val (.long e1), .second, .val (.int c1), .val (.long e2), .second, .val (.int c2), .val (.int fl), .val (.long eb), .second, .val (.int cb), .val (.ref b9), .val (.ref b11), .val (.int (0 : Int32)), .unset, .unset, .unset, .unset, .unset, .unset] [(.ref b83)])) t
        refine XS.astore X83.here hx rfl (hb hby at_91) rfl rfl (l' := #[.val (.long e1), .second, .val (.int c1), .val (.long e2), .second, .val (.int c2), .val (.int fl), .val (.long eb), .second, .val (.int cb), .val (.ref b9), .val (.ref b11), .val (.int (0 : Int32)), .val (.ref b83), .unset, .unset, .unset, .unset, .unset]) rfl ?_
        show Steps p.tables e below (T83.setTop (mkF m 93 #[.val (.long e1), .second, .val (.int c1), .val (.long e2), .second, .val (.int c2), .val (.int fl), .val (.long eb), .second, .val (.int cb), .val (.ref b9), .val (.ref b11), .val (.int (0 : Int32)), .val (.ref b83), .unset, .unset, .unset, .unset, .unset] [])) t
        refine XS.aload X83.here hx rfl (hb hby at_93) rfl rfl ?_
        show Steps p.tables e below (T83.setTop (mkF m 95 #[.val (.long e1), .second, .val (.int c1), .val (.long e2), .second, .val (.int c2), .val (.int fl), .val (.long eb), .second, .val (.int cb), .val (.ref b9), .val (.ref b11), .val (.int (0 : Int32)), .val (.ref b83), .unset, .unset, .unset, .unset, .unset] [(.ref b9)])) t
        refine XS.aload X83.here hx rfl (hb hby at_95) rfl rfl ?_
        show Steps p.tables e below (T83.setTop (mkF m 97 #[.val (.long e1), .second, .val (.int c1), .val (.long e2), .second, .val (.int c2), .val (.int fl), .val (.long eb), .second, .val (.int cb), .val (.ref b9), .val (.ref b11), .val (.int (0 : Int32)), .val (.ref b83), .unset, .unset, .unset, .unset, .unset] [(.ref b11), (.ref b9)])) t
        refine st84.trans ?_
        show Steps p.tables e below (T84.setTop (mkF m 100 #[.val (.long e1), .second, .val (.int c1), .val (.long e2), .second, .val (.int c2), .val (.int fl), .val (.long eb), .second, .val (.int cb), .val (.ref b9), .val (.ref b11), .val (.int (0 : Int32)), .val (.ref b83), .unset, .unset, .unset, .unset, .unset] [(.int (0 : Int32))])) t
        refine XS.istore X84.here hx rfl (hb hby at_100) rfl (l' := #[.val (.long e1), .second, .val (.int c1), .val (.long e2), .second, .val (.int c2), .val (.int fl), .val (.long eb), .second, .val (.int cb), .val (.ref b9), .val (.ref b11), .val (.int (0 : Int32)), .val (.ref b83), .val (.int (0 : Int32)), .unset, .unset, .unset, .unset]) rfl ?_
        show Steps p.tables e below (T84.setTop (mkF m 102 #[.val (.long e1), .second, .val (.int c1), .val (.long e2), .second, .val (.int c2), .val (.int fl), .val (.long eb), .second, .val (.int cb), .val (.ref b9), .val (.ref b11), .val (.int (0 : Int32)), .val (.ref b83), .val (.int (0 : Int32)), .unset, .unset, .unset, .unset] [])) t
        refine XS.aload X84.here hx rfl (hb hby at_102) rfl rfl ?_
        show Steps p.tables e below (T84.setTop (mkF m 104 #[.val (.long e1), .second, .val (.int c1), .val (.long e2), .second, .val (.int c2), .val (.int fl), .val (.long eb), .second, .val (.int cb), .val (.ref b9), .val (.ref b11), .val (.int (0 : Int32)), .val (.ref b83), .val (.int (0 : Int32)), .unset, .unset, .unset, .unset] [(.ref b11)])) t
        refine XS.aload X84.here hx rfl (hb hby at_104) rfl rfl ?_
        show Steps p.tables e below (T84.setTop (mkF m 106 #[.val (.long e1), .second, .val (.int c1), .val (.long e2), .second, .val (.int c2), .val (.int fl), .val (.long eb), .second, .val (.int cb), .val (.ref b9), .val (.ref b11), .val (.int (0 : Int32)), .val (.ref b83), .val (.int (0 : Int32)), .unset, .unset, .unset, .unset] [(.ref b9), (.ref b11)])) t
        refine st91.trans ?_
        show Steps p.tables e below (T91.setTop (mkF m 109 #[.val (.long e1), .second, .val (.int c1), .val (.long e2), .second, .val (.int c2), .val (.int fl), .val (.long eb), .second, .val (.int cb), .val (.ref b9), .val (.ref b11), .val (.int (0 : Int32)), .val (.ref b83), .val (.int (0 : Int32)), .unset, .unset, .unset, .unset] [(.int (0 : Int32))])) t
        refine XS.istore X91.here hx rfl (hb hby at_109) rfl (l' := #[.val (.long e1), .second, .val (.int c1), .val (.long e2), .second, .val (.int c2), .val (.int fl), .val (.long eb), .second, .val (.int cb), .val (.ref b9), .val (.ref b11), .val (.int (0 : Int32)), .val (.ref b83), .val (.int (0 : Int32)), .val (.int (0 : Int32)), .unset, .unset, .unset]) rfl ?_
        show Steps p.tables e below (T91.setTop (mkF m 111 #[.val (.long e1), .second, .val (.int c1), .val (.long e2), .second, .val (.int c2), .val (.int fl), .val (.long eb), .second, .val (.int cb), .val (.ref b9), .val (.ref b11), .val (.int (0 : Int32)), .val (.ref b83), .val (.int (0 : Int32)), .val (.int (0 : Int32)), .unset, .unset, .unset] [])) t
        refine XS.aload X91.here hx rfl (hb hby at_111) rfl rfl ?_
        show Steps p.tables e below (T91.setTop (mkF m 113 #[.val (.long e1), .second, .val (.int c1), .val (.long e2), .second, .val (.int c2), .val (.int fl), .val (.long eb), .second, .val (.int cb), .val (.ref b9), .val (.ref b11), .val (.int (0 : Int32)), .val (.ref b83), .val (.int (0 : Int32)), .val (.int (0 : Int32)), .unset, .unset, .unset] [(.ref b9)])) t
        refine XS.aload X91.here hx rfl (hb hby at_113) rfl rfl ?_
        show Steps p.tables e below (T91.setTop (mkF m 115 #[.val (.long e1), .second, .val (.int c1), .val (.long e2), .second, .val (.int c2), .val (.int fl), .val (.long eb), .second, .val (.int cb), .val (.ref b9), .val (.ref b11), .val (.int (0 : Int32)), .val (.ref b83), .val (.int (0 : Int32)), .val (.int (0 : Int32)), .unset, .unset, .unset] [(.ref b9), (.ref b9)])) t
        refine st92.trans ?_
        show Steps p.tables e below (T92.setTop (mkF m 118 #[.val (.long e1), .second, .val (.int c1), .val (.long e2), .second, .val (.int c2), .val (.int fl), .val (.long eb), .second, .val (.int cb), .val (.ref b9), .val (.ref b11), .val (.int (0 : Int32)), .val (.ref b83), .val (.int (0 : Int32)), .val (.int (0 : Int32)), .unset, .unset, .unset] [(.int (1 : Int32))])) t
        refine XS.istore X92.here hx rfl (hb hby at_118) rfl (l' := #[.val (.long e1), .second, .val (.int c1), .val (.long e2), .second, .val (.int c2), .val (.int fl), .val (.long eb), .second, .val (.int cb), .val (.ref b9), .val (.ref b11), .val (.int (0 : Int32)), .val (.ref b83), .val (.int (0 : Int32)), .val (.int (0 : Int32)), .val (.int (1 : Int32)), .unset, .unset]) rfl ?_
        show Steps p.tables e below (T92.setTop (mkF m 120 #[.val (.long e1), .second, .val (.int c1), .val (.long e2), .second, .val (.int c2), .val (.int fl), .val (.long eb), .second, .val (.int cb), .val (.ref b9), .val (.ref b11), .val (.int (0 : Int32)), .val (.ref b83), .val (.int (0 : Int32)), .val (.int (0 : Int32)), .val (.int (1 : Int32)), .unset, .unset] [])) t
        refine XS.aload X92.here hx rfl (hb hby at_120) rfl rfl ?_
        show Steps p.tables e below (T92.setTop (mkF m 122 #[.val (.long e1), .second, .val (.int c1), .val (.long e2), .second, .val (.int c2), .val (.int fl), .val (.long eb), .second, .val (.int cb), .val (.ref b9), .val (.ref b11), .val (.int (0 : Int32)), .val (.ref b83), .val (.int (0 : Int32)), .val (.int (0 : Int32)), .val (.int (1 : Int32)), .unset, .unset] [(.ref b9)])) t
        refine XS.aconstNull X92.here hx rfl (hb hby at_122) ?_
        show Steps p.tables e below (T92.setTop (mkF m 123 #[.val (.long e1), .second, .val (.int c1), .val (.long e2), .second, .val (.int c2), .val (.int fl), .val (.long eb), .second, .val (.int cb), .val (.ref b9), .val (.ref b11), .val (.int (0 : Int32)), .val (.ref b83), .val (.int (0 : Int32)), .val (.int (0 : Int32)), .val (.int (1 : Int32)), .unset, .unset] [.null, (.ref b9)])) t
        refine st93.trans ?_
        show Steps p.tables e below (T93.setTop (mkF m 126 #[.val (.long e1), .second, .val (.int c1), .val (.long e2), .second, .val (.int c2), .val (.int fl), .val (.long eb), .second, .val (.int cb), .val (.ref b9), .val (.ref b11), .val (.int (0 : Int32)), .val (.ref b83), .val (.int (0 : Int32)), .val (.int (0 : Int32)), .val (.int (1 : Int32)), .unset, .unset] [(.int (0 : Int32))])) t
        refine XS.istore X93.here hx rfl (hb hby at_126) rfl (l' := #[.val (.long e1), .second, .val (.int c1), .val (.long e2), .second, .val (.int c2), .val (.int fl), .val (.long eb), .second, .val (.int cb), .val (.ref b9), .val (.ref b11), .val (.int (0 : Int32)), .val (.ref b83), .val (.int (0 : Int32)), .val (.int (0 : Int32)), .val (.int (1 : Int32)), .val (.int (0 : Int32)), .unset]) rfl ?_
        show Steps p.tables e below (T93.setTop (mkF m 128 #[.val (.long e1), .second, .val (.int c1), .val (.long e2), .second, .val (.int c2), .val (.int fl), .val (.long eb), .second, .val (.int cb), .val (.ref b9), .val (.ref b11), .val (.int (0 : Int32)), .val (.ref b83), .val (.int (0 : Int32)), .val (.int (0 : Int32)), .val (.int (1 : Int32)), .val (.int (0 : Int32)), .unset] [])) t
        refine XS.aload X93.here hx rfl (hb hby at_128) rfl rfl ?_
        show Steps p.tables e below (T93.setTop (mkF m 130 #[.val (.long e1), .second, .val (.int c1), .val (.long e2), .second, .val (.int c2), .val (.int fl), .val (.long eb), .second, .val (.int cb), .val (.ref b9), .val (.ref b11), .val (.int (0 : Int32)), .val (.ref b83), .val (.int (0 : Int32)), .val (.int (0 : Int32)), .val (.int (1 : Int32)), .val (.int (0 : Int32)), .unset] [(.ref b9)])) t
        refine XS.aload X93.here hx rfl (hb hby at_130) rfl rfl ?_
        show Steps p.tables e below (T93.setTop (mkF m 132 #[.val (.long e1), .second, .val (.int c1), .val (.long e2), .second, .val (.int c2), .val (.int fl), .val (.long eb), .second, .val (.int cb), .val (.ref b9), .val (.ref b11), .val (.int (0 : Int32)), .val (.ref b83), .val (.int (0 : Int32)), .val (.int (0 : Int32)), .val (.int (1 : Int32)), .val (.int (0 : Int32)), .unset] [(.ref b83), (.ref b9)])) t
        refine st94.trans ?_
        show Steps p.tables e below (T94.setTop (mkF m 135 #[.val (.long e1), .second, .val (.int c1), .val (.long e2), .second, .val (.int c2), .val (.int fl), .val (.long eb), .second, .val (.int cb), .val (.ref b9), .val (.ref b11), .val (.int (0 : Int32)), .val (.ref b83), .val (.int (0 : Int32)), .val (.int (0 : Int32)), .val (.int (1 : Int32)), .val (.int (0 : Int32)), .unset] [(.int (0 : Int32))])) t
        refine XS.istore X94.here hx rfl (hb hby at_135) rfl (l' := #[.val (.long e1), .second, .val (.int c1), .val (.long e2), .second, .val (.int c2), .val (.int fl), .val (.long eb), .second, .val (.int cb), .val (.ref b9), .val (.ref b11), .val (.int (0 : Int32)), .val (.ref b83), .val (.int (0 : Int32)), .val (.int (0 : Int32)), .val (.int (1 : Int32)), .val (.int (0 : Int32)), .val (.int (0 : Int32))]) rfl ?_
        show Steps p.tables e below (T94.setTop (mkF m 137 #[.val (.long e1), .second, .val (.int c1), .val (.long e2), .second, .val (.int c2), .val (.int fl), .val (.long eb), .second, .val (.int cb), .val (.ref b9), .val (.ref b11), .val (.int (0 : Int32)), .val (.ref b83), .val (.int (0 : Int32)), .val (.int (0 : Int32)), .val (.int (1 : Int32)), .val (.int (0 : Int32)), .val (.int (0 : Int32))] [])) t
        refine XS.iload X94.here hx rfl (hb hby at_137) rfl ?_
        show Steps p.tables e below (T94.setTop (mkF m 139 #[.val (.long e1), .second, .val (.int c1), .val (.long e2), .second, .val (.int c2), .val (.int fl), .val (.long eb), .second, .val (.int cb), .val (.ref b9), .val (.ref b11), .val (.int (0 : Int32)), .val (.ref b83), .val (.int (0 : Int32)), .val (.int (0 : Int32)), .val (.int (1 : Int32)), .val (.int (0 : Int32)), .val (.int (0 : Int32))] [(.int (0 : Int32))])) t
        refine XS.iload X94.here hx rfl (hb hby at_139) rfl ?_
        show Steps p.tables e below (T94.setTop (mkF m 141 #[.val (.long e1), .second, .val (.int c1), .val (.long e2), .second, .val (.int c2), .val (.int fl), .val (.long eb), .second, .val (.int cb), .val (.ref b9), .val (.ref b11), .val (.int (0 : Int32)), .val (.ref b83), .val (.int (0 : Int32)), .val (.int (0 : Int32)), .val (.int (1 : Int32)), .val (.int (0 : Int32)), .val (.int (0 : Int32))] [(.int (0 : Int32)), (.int (0 : Int32))])) t
        refine XS.icmpNo X94.here hx rfl (hb hby at_141) rfl (teq ((by decide) : (0 : Int32) = (0 : Int32))).2 ?_
        show Steps p.tables e below (T94.setTop (mkF m 144 #[.val (.long e1), .second, .val (.int c1), .val (.long e2), .second, .val (.int c2), .val (.int fl), .val (.long eb), .second, .val (.int cb), .val (.ref b9), .val (.ref b11), .val (.int (0 : Int32)), .val (.ref b83), .val (.int (0 : Int32)), .val (.int (0 : Int32)), .val (.int (1 : Int32)), .val (.int (0 : Int32)), .val (.int (0 : Int32))] [])) t
        refine XS.iload X94.here hx rfl (hb hby at_144) rfl ?_
        show Steps p.tables e below (T94.setTop (mkF m 146 #[.val (.long e1), .second, .val (.int c1), .val (.long e2), .second, .val (.int c2), .val (.int fl), .val (.long eb), .second, .val (.int cb), .val (.ref b9), .val (.ref b11), .val (.int (0 : Int32)), .val (.ref b83), .val (.int (0 : Int32)), .val (.int (0 : Int32)), .val (.int (1 : Int32)), .val (.int (0 : Int32)), .val (.int (0 : Int32))] [(.int (0 : Int32))])) t
        refine XS.iload X94.here hx rfl (hb hby at_146) rfl ?_
        show Steps p.tables e below (T94.setTop (mkF m 148 #[.val (.long e1), .second, .val (.int c1), .val (.long e2), .second, .val (.int c2), .val (.int fl), .val (.long eb), .second, .val (.int cb), .val (.ref b9), .val (.ref b11), .val (.int (0 : Int32)), .val (.ref b83), .val (.int (0 : Int32)), .val (.int (0 : Int32)), .val (.int (1 : Int32)), .val (.int (0 : Int32)), .val (.int (0 : Int32))] [(.int (0 : Int32)), (.int (0 : Int32))])) t
        refine XS.icmpNo X94.here hx rfl (hb hby at_148) rfl (teq ((by decide) : (0 : Int32) = (0 : Int32))).2 ?_
        show Steps p.tables e below (T94.setTop (mkF m 151 #[.val (.long e1), .second, .val (.int c1), .val (.long e2), .second, .val (.int c2), .val (.int fl), .val (.long eb), .second, .val (.int cb), .val (.ref b9), .val (.ref b11), .val (.int (0 : Int32)), .val (.ref b83), .val (.int (0 : Int32)), .val (.int (0 : Int32)), .val (.int (1 : Int32)), .val (.int (0 : Int32)), .val (.int (0 : Int32))] [])) t
        refine XS.iload X94.here hx rfl (hb hby at_151) rfl ?_
        show Steps p.tables e below (T94.setTop (mkF m 153 #[.val (.long e1), .second, .val (.int c1), .val (.long e2), .second, .val (.int c2), .val (.int fl), .val (.long eb), .second, .val (.int cb), .val (.ref b9), .val (.ref b11), .val (.int (0 : Int32)), .val (.ref b83), .val (.int (0 : Int32)), .val (.int (0 : Int32)), .val (.int (1 : Int32)), .val (.int (0 : Int32)), .val (.int (0 : Int32))] [(.int (1 : Int32))])) t
        refine XS.ifNo X94.here hx rfl (hb hby at_153) rfl ((if0 _ _).trans (feq ((by decide) : ¬ ((1 : Int32) = (0 : Int32)))).1) ?_
        show Steps p.tables e below (T94.setTop (mkF m 156 #[.val (.long e1), .second, .val (.int c1), .val (.long e2), .second, .val (.int c2), .val (.int fl), .val (.long eb), .second, .val (.int cb), .val (.ref b9), .val (.ref b11), .val (.int (0 : Int32)), .val (.ref b83), .val (.int (0 : Int32)), .val (.int (0 : Int32)), .val (.int (1 : Int32)), .val (.int (0 : Int32)), .val (.int (0 : Int32))] [])) t
        refine XS.iload X94.here hx rfl (hb hby at_156) rfl ?_
        show Steps p.tables e below (T94.setTop (mkF m 158 #[.val (.long e1), .second, .val (.int c1), .val (.long e2), .second, .val (.int c2), .val (.int fl), .val (.long eb), .second, .val (.int cb), .val (.ref b9), .val (.ref b11), .val (.int (0 : Int32)), .val (.ref b83), .val (.int (0 : Int32)), .val (.int (0 : Int32)), .val (.int (1 : Int32)), .val (.int (0 : Int32)), .val (.int (0 : Int32))] [(.int (0 : Int32))])) t
        refine XS.ifNo X94.here hx rfl (hb hby at_158) rfl ((if0 _ _).trans (teq ((by decide) : (0 : Int32) = (0 : Int32))).2) ?_
        show Steps p.tables e below (T94.setTop (mkF m 161 #[.val (.long e1), .second, .val (.int c1), .val (.long e2), .second, .val (.int c2), .val (.int fl), .val (.long eb), .second, .val (.int cb), .val (.ref b9), .val (.ref b11), .val (.int (0 : Int32)), .val (.ref b83), .val (.int (0 : Int32)), .val (.int (0 : Int32)), .val (.int (1 : Int32)), .val (.int (0 : Int32)), .val (.int (0 : Int32))] [])) t
        refine XS.iload X94.here hx rfl (hb hby at_161) rfl ?_
        show Steps p.tables e below (T94.setTop (mkF m 163 #[.val (.long e1), .second, .val (.int c1), .val (.long e2), .second, .val (.int c2), .val (.int fl), .val (.long eb), .second, .val (.int cb), .val (.ref b9), .val (.ref b11), .val (.int (0 : Int32)), .val (.ref b83), .val (.int (0 : Int32)), .val (.int (0 : Int32)), .val (.int (1 : Int32)), .val (.int (0 : Int32)), .val (.int (0 : Int32))] [(.int (0 : Int32))])) t
        refine XS.ifNo X94.here hx rfl (hb hby at_163) rfl ((if0 _ _).trans (teq ((by decide) : (0 : Int32) = (0 : Int32))).2) ?_
        show Steps p.tables e below (T94.setTop (mkF m 166 #[.val (.long e1), .second, .val (.int c1), .val (.long e2), .second, .val (.int c2), .val (.int fl), .val (.long eb), .second, .val (.int cb), .val (.ref b9), .val (.ref b11), .val (.int (0 : Int32)), .val (.ref b83), .val (.int (0 : Int32)), .val (.int (0 : Int32)), .val (.int (1 : Int32)), .val (.int (0 : Int32)), .val (.int (0 : Int32))] [])) t
        refine XS.iconst X94.here hx rfl (hb hby at_166) ?_
        show Steps p.tables e below (T94.setTop (mkF m 167 #[.val (.long e1), .second, .val (.int c1), .val (.long e2), .second, .val (.int c2), .val (.int fl), .val (.long eb), .second, .val (.int cb), .val (.ref b9), .val (.ref b11), .val (.int (0 : Int32)), .val (.ref b83), .val (.int (0 : Int32)), .val (.int (0 : Int32)), .val (.int (1 : Int32)), .val (.int (0 : Int32)), .val (.int (0 : Int32))] [(.int (1 : Int32))])) t
        refine XS.goto X94.here hx rfl (pc0 := 167) (pc' := 171) rfl (hb hby at_167) (by decide) (by decide) ?_
        exact k
      obtain ⟨fs, hr, hrun, hended, hW, hsame⟩ := X94.leave (v := some (.int (1 : Int32))) (fun h => by rw [Bd.returns] at h; cases h)
      refine ⟨_, _, R95 _ ?_, hrun, hended, _, _, rfl, ?_, ⟨_, rfl⟩, hW, hsame.mono (by decide) (by decide)⟩
      · show Steps p.tables e below (T94.setTop (mkF m 171 #[.val (.long e1), .second, .val (.int c1), .val (.long e2), .second, .val (.int c2), .val (.int fl), .val (.long eb), .second, .val (.int cb), .val (.ref b9), .val (.ref b11), .val (.int (0 : Int32)), .val (.ref b83), .val (.int (0 : Int32)), .val (.int (0 : Int32)), .val (.int (1 : Int32)), .val (.int (0 : Int32)), .val (.int (0 : Int32))] [(.int (1 : Int32))])) _
        exact retN X94 hx (t := .boolean) Bd.returns (by simp) (hb hby at_171) hr
      · show Q_rm0 Z wcI ccI wcJ ccJ e1 c1 e2 c2 fl h0 n0 _ T94.heap _
        rw [e94]
        exact ⟨rfl, N94⟩
set_option maxRecDepth 65536 in
set_option maxHeartbeats 40000000 in
theorem comes_1 {Post : Tables → Env → Array Value → State → Outcome → State → Prop} (hpost : ∀ tb e args s v u, (limb_1_1.after args s (.returned v) u = true ∧ limb_1_2.after args s (.returned v) u = true ∧ True) → FrameEnd s (.returned v) u (Jvm.fieldLocs frame_1_writes args s ++ Jvm.arrayLocs frame_1_arrays args s ++ Jvm.staticLocs frame_1_statics s) 16 128 → Post tb e args s (.returned v) u) :
    ArmFor flags0 classFile x code maxLocals ret World_1 tables_1 room_1 Calls_1 rest_1 Pre_1 Post := by
  intro l hfl _ _ p e ha hc hk s m args below hf hA hF happ hP
  obtain ⟨hcalls, hrest, hpre⟩ := hP
  obtain ⟨-, -, -, hnamed, -, -, -, hat⟩ := (Spec.applies_iff hf).mp happ
  obtain ⟨hg, hn⟩ := and_e (Cond.before_iff.mp (show (Jvm.Cond.and given_1 narrow_1).before args s = true from hpre))
  obtain ⟨g1, g2⟩ := and_e hg
  obtain ⟨g3, g4⟩ := and_e g2
  obtain ⟨g5, g6⟩ := and_e g4
  obtain ⟨g7, g8⟩ := and_e g6
  obtain ⟨g9, g10⟩ := and_e g8
  obtain ⟨w0, w1, w2, w3, w4, rfl⟩ : ∃ w0 w1 w2 w3 w4 : Value, args = #[w0, w1, w2, w3, w4] := by
    have hs : args.size = 5 := by simpa [Cond.value, given_1] using g1
    obtain ⟨L⟩ := args
    match L, hs with
    | [w0, w1, w2, w3, w4], _ => exact ⟨w0, w1, w2, w3, w4, rfl⟩
  have hw := fun d (hd : d ∈ tables_1) => atoms_spec (ws := Jvm.Cond.code x code maxLocals ret :: tables_1) hat d (List.mem_cons_of_mem _ hd)
  have hfit : Fit s := fun {y c} hc i hi => by
    obtain ⟨ha, rfl⟩ := Array.getElem?_eq_some_iff.mp hc
    have q := List.all_eq_true.mp ((Array.all_eq_true_iff_forall_mem.mp hF) _ (Array.getElem_mem ha)) i (List.mem_range.mpr hi)
    simpa [Array.getElem?_eq_getElem hi] using q
  obtain ⟨hsets, hown0⟩ := atoms_of _ (rest_1_c_eq ▸ (show rest_1_c.before _ s = true from hrest))
  have hr0 := Cond.before_iff.mp hown0
  obtain ⟨i0, ei0⟩ := isL_v g3
  obtain rfl : w0 = (.long i0) := Option.some.inj ei0
  obtain ⟨i1, ei1⟩ := is_v g5
  obtain rfl : w1 = (.int i1) := Option.some.inj ei1
  obtain ⟨i2, ei2⟩ := isL_v g7
  obtain rfl : w2 = (.long i2) := Option.some.inj ei2
  obtain ⟨i3, ei3⟩ := is_v g9
  obtain rfl : w3 = (.int i3) := Option.some.inj ei3
  obtain ⟨i4, ei4⟩ := is_v g10
  obtain rfl : w4 = (.int i4) := Option.some.inj ei4
  have evh := eqv_i (Term.int_eval (127)) (Cond.before_iff.mp (hsets _ (List.mem_of_getElem? (i := 3) rfl)))
  have S_hi := Sta.start evh (Or.inl (hsets _ (List.mem_of_getElem? (i := 1) rfl)))
  obtain ⟨wcI, evcI⟩ := arr_v (Cond.before_iff.mp (hsets _ (List.mem_of_getElem? (i := 4) rfl)))
  have S_cI := Sta.start evcI (Or.inr ⟨(hw _ (List.mem_of_getElem? (i := 18) rfl)), (hsets _ (List.mem_of_getElem? (i := 2) rfl))⟩)
  obtain ⟨ccI, ArcI⟩ := Arr.start evcI (Cond.before_iff.mp (hsets _ (List.mem_of_getElem? (i := 4) rfl)))
  have lnI := own_len evcI (ArcI.fin (Vm.Alike.refl _)) (eqv_i (Term.int_eval (256)) (Cond.before_iff.mp (hsets _ (List.mem_of_getElem? (i := 6) rfl))))
  have B_cI : Bxs s wcI ccI "java/lang/Integer" "I" 256 (fun j => .int (j - 128)) := Bxs.start (fun _ => evcI) ArcI lnI.1 lnI.2 (by decide) (Cond.before_iff.mp (hsets _ (List.mem_of_getElem? (i := 7) rfl))) (fun X j nn h => eqv_i (by simp [Term.eval, (back32 nn).1]) h)
  obtain ⟨wcJ, evcJ⟩ := arr_v (Cond.before_iff.mp (hsets _ (List.mem_of_getElem? (i := 10) rfl)))
  have S_cJ := Sta.start evcJ (Or.inr ⟨(hw _ (List.mem_of_getElem? (i := 52) rfl)), (hsets _ (List.mem_of_getElem? (i := 8) rfl))⟩)
  obtain ⟨ccJ, ArcJ⟩ := Arr.start evcJ (Cond.before_iff.mp (hsets _ (List.mem_of_getElem? (i := 10) rfl)))
  have lnJ := own_len evcJ (ArcJ.fin (Vm.Alike.refl _)) (eqv_i (Term.int_eval (256)) (Cond.before_iff.mp (hsets _ (List.mem_of_getElem? (i := 12) rfl))))
  have B_cJ : Bxs s wcJ ccJ "java/lang/Long" "J" 256 (fun j => .long (j - 128).toInt64) := Bxs.start (fun _ => evcJ) ArcJ lnJ.1 lnJ.2 (by decide) (Cond.before_iff.mp (hsets _ (List.mem_of_getElem? (i := 13) rfl))) (fun X j nn h => eqv_l (i2l_at (by simp [Term.eval, (back32 nn).1])) h)
  obtain ⟨n, o, h1, h2, h3, _, L, rfl, ⟨rfl, N⟩, hq⟩ := rm0 l s _ hw tables_1 wcI ccI wcJ ccJ i0 i1 i2 i3 i4 s.heap s.heap.size (Old.start s) S_cI B_cI S_hi S_cJ B_cJ p e ha hc hk s m _ below hf ((Spec.applies_iff_loose hf).mp happ).1 ⟨rfl, State.Warmed39.refl s, rfl⟩ trivial
  refine ⟨n, _, h1, h2, h3, hpost _ _ _ _ _ _ ⟨Cond.after_iff.mpr rfl, Cond.after_iff.mpr (eq_i res_at (Term.int_eval (1)) rfl), trivial⟩ ⟨hq.1, hq.2.1, (hq.2.2.sift fun y hy => Or.inr (N y hy)).mono (by decide) (by decide)⟩⟩
theorem main_1_1 : Claimed_1_1 := comes_1 fun _ _ _ _ _ _ h hF => ⟨h.1, hF⟩
theorem main_1_2 : Claimed_1_2 := comes_1 fun _ _ _ _ _ _ h hF => ⟨h.2.1, hF⟩
end Jvm.Pilot.@@N@@
namespace Jvm.Pilot.@@N@@
open Jvm Jvm.ClassFile Sem Op Lib Jvm.Free Jvm.Stand Jvm.Pilot.@@N@@.Jvm.D
/-! MADE BY PROGRAM (witnessworld.py) out of the Statement's table words and the real class files: 19 classes; the members and pool entries that the words name. The judged class is class 1, her method 1. -/
namespace start1
open Jvm.ClassFile
def u (s : String) : CpInfo := .utf8 (stringToUtf16 s)
/-- a pool by its gaps: so many unusable entries, then the entry; so many at the end -/
def gap : Nat → List CpInfo → List CpInfo
  | 0, r => r
  | n + 1, r => .unusable :: gap n r
def poolList (es : List (Nat × CpInfo)) (last : Nat) : List CpInfo := es.foldr (fun e r => gap e.1 (e.2 :: r)) (gap last [])
def pool (es : List (Nat × CpInfo)) (last : Nat) : Array CpInfo := ⟨poolList es last⟩
def fileOf (pool : Array CpInfo) (this : Nat) (attrs : Array Attribute := #[]) (ms : Array MethodInfo := #[]) (fl : Nat := 33) (sup : Nat := 0) (ifs : Array Nat := #[]) (fds : Array FieldInfo := #[]) : ClassFile where
  minorVersion := 0
  majorVersion := 65
  constantPool := pool
  accessFlags := fl
  thisClass := this
  superClass := sup
  interfaces := ifs
  fields := fds
  methods := ms
  attributes := attrs
def plain (name : String) (sup : Option ClassId) : Class where
  name := name
  kind := .ordinary
  loader := none
  accessFlags := 33
  super := sup
  interfaces := #[]
  cf := none
  fields := #[]
  methods := #[]
  instanceTypes := #[]
  staticTypes := #[]
  resolved := #[]
  callSites := []
  init := .initialized
  statics := none
  mirror := none

def pool0 : Array CpInfo := pool [(5, u "<init>"), (0, u "()V"), (1, .class_ 10), (1, u "java/lang/Object")] 113

def k0c0 : Code := { maxStack := 0, maxLocals := 1, code := object_method_1_code, exceptionTable := #[], attributes := #[] }
def k0m0 : Method := { name := "<init>", desc := "()V", sig := { parameters := [], returnType := none }, accessFlags := 1, code := some k0c0 }
/-- java/lang/Object -/
def k0 : Class := { plain "java/lang/Object" none with
  accessFlags := 33
  interfaces := #[]
  cf := some (fileOf pool0 8 #[] #[{ accessFlags := 1, nameIndex := 5, descriptorIndex := 6, attributes := #[] }] 33 0 #[] #[])
  fields := #[]
  methods := #[k0m0]
  instanceTypes := #[]
  staticTypes := #[]
  resolved := Array.replicate 124 none
  statics := none }

def pool1 : Array CpInfo := pool [(2, .class_ 4), (1, u "java/lang/Object"), (0, u "<init>"), (0, u "()V"), (0, .class_ 8), (0, u "com/example/ballot/ballot/model/Vote"), (0, .methodref 7 10), (0, .nameAndType 5 11), (0, u "(JI)V"), (0, .methodref 13 14), (0, .class_ 15), (0, .nameAndType 16 17), (0, u "java/lang/Long"), (0, u "valueOf"), (0, u "(J)Ljava/lang/Long;"), (0, .methodref 19 20), (0, .class_ 21), (0, .nameAndType 16 22), (0, u "java/lang/Integer"), (0, u "(I)Ljava/lang/Integer;"), (0, .methodref 7 24), (0, .nameAndType 25 26), (0, u "equals"), (0, u "(Ljava/lang/Object;)Z"), (0, .class_ 28), (0, u "com/example/ballot/ballot/model/VoteEqualsPinLaw"), (2, u "law"), (0, u "(JIJII)Z")] 3

def k1m0 : Method := { name := "<init>", desc := "()V", sig := { parameters := [], returnType := none }, accessFlags := 1, code := none }
def k1c1 : Code := { maxStack := 5, maxLocals := 19, code := code, exceptionTable := #[], attributes := #[] }
def k1m1 : Method := { name := "law", desc := "(JIJII)Z", sig := { parameters := [.long, .int, .long, .int, .int], returnType := some .boolean }, accessFlags := 9, code := some k1c1 }
/-- com/example/ballot/ballot/model/VoteEqualsPinLaw -/
def k1 : Class := { plain "com/example/ballot/ballot/model/VoteEqualsPinLaw" (some 0) with
  accessFlags := 49
  interfaces := #[]
  cf := some (fileOf pool1 27 #[] #[{ accessFlags := 1, nameIndex := 5, descriptorIndex := 6, attributes := #[] }, { accessFlags := 9, nameIndex := 31, descriptorIndex := 32, attributes := #[] }] 49 2 #[] #[])
  fields := #[]
  methods := #[k1m0, k1m1]
  instanceTypes := #[]
  staticTypes := #[]
  resolved := Array.replicate 36 none
  statics := none }

def pool2 : Array CpInfo := pool [(1, .methodref 2 3), (0, .class_ 4), (0, .nameAndType 5 6), (0, u "java/lang/Object"), (0, u "<init>"), (0, u "()V"), (0, .fieldref 8 9), (0, .class_ 10), (0, .nameAndType 11 12), (0, u "com/example/ballot/ballot/model/Vote"), (0, u "epoch"), (0, u "J"), (0, .fieldref 8 14), (0, .nameAndType 15 16), (0, u "candidate"), (0, u "I"), (21, u "(JI)V"), (4, u "equals"), (0, u "(Ljava/lang/Object;)Z")] 21

def k2c0 : Code := { maxStack := 3, maxLocals := 4, code := prog_23_method_1_code, exceptionTable := #[], attributes := #[] }
def k2m0 : Method := { name := "<init>", desc := "(JI)V", sig := { parameters := [.long, .int], returnType := none }, accessFlags := 1, code := some k2c0 }
def k2c1 : Code := { maxStack := 4, maxLocals := 3, code := prog_23_method_4_code, exceptionTable := #[], attributes := #[] }
def k2m1 : Method := { name := "equals", desc := "(Ljava/lang/Object;)Z", sig := { parameters := [(.object "java/lang/Object")], returnType := some .boolean }, accessFlags := 1, code := some k2c1 }
/-- com/example/ballot/ballot/model/Vote -/
def k2 : Class := { plain "com/example/ballot/ballot/model/Vote" (some 0) with
  accessFlags := 33
  interfaces := #[]
  cf := some (fileOf pool2 8 #[] #[{ accessFlags := 1, nameIndex := 5, descriptorIndex := 38, attributes := #[] }, { accessFlags := 1, nameIndex := 43, descriptorIndex := 44, attributes := #[] }] 33 2 #[] #[{ accessFlags := 18, nameIndex := 11, descriptorIndex := 12, attributes := #[] }, { accessFlags := 18, nameIndex := 15, descriptorIndex := 16, attributes := #[] }])
  fields := #[{ name := "epoch", type := .long, accessFlags := 18, slot := 0, constantValue := 0 }, { name := "candidate", type := .int, accessFlags := 18, slot := 1, constantValue := 0 }]
  methods := #[k2m0, k2m1]
  instanceTypes := #[.long, .int]
  staticTypes := #[]
  resolved := Array.replicate 66 none
  statics := none }

def pool3 : Array CpInfo := pool [(1, .class_ 2), (0, u "java/io/Serializable"), (0, .class_ 4), (0, u "java/lang/Object")] 2

/-- java/io/Serializable -/
def k3 : Class := { plain "java/io/Serializable" (some 0) with
  accessFlags := 1537
  interfaces := #[]
  cf := some (fileOf pool3 1 #[] #[] 1537 3 #[] #[])
  fields := #[]
  methods := #[]
  instanceTypes := #[]
  staticTypes := #[]
  resolved := Array.replicate 7 none
  statics := none }

def pool4 : Array CpInfo := pool [(1, .methodref 2 3), (0, .class_ 4), (0, .nameAndType 5 6), (0, u "java/lang/Object"), (0, u "<init>"), (0, u "()V"), (1, .class_ 10), (1, u "java/lang/Number"), (2, .class_ 14), (0, u "java/io/Serializable"), (0, u "serialVersionUID"), (0, u "J")] 20

def k4c0 : Code := { maxStack := 1, maxLocals := 1, code := jdk_18_method_1_code, exceptionTable := #[], attributes := #[] }
def k4m0 : Method := { name := "<init>", desc := "()V", sig := { parameters := [], returnType := none }, accessFlags := 1, code := some k4c0 }
/-- java/lang/Number -/
def k4 : Class := { plain "java/lang/Number" (some 0) with
  accessFlags := 1057
  interfaces := #[3]
  cf := some (fileOf pool4 8 #[] #[{ accessFlags := 1, nameIndex := 5, descriptorIndex := 6, attributes := #[] }] 1057 2 #[13] #[{ accessFlags := 26, nameIndex := 15, descriptorIndex := 16, attributes := #[] }])
  fields := #[{ name := "serialVersionUID", type := .long, accessFlags := 26, slot := 0, constantValue := 0 }]
  methods := #[k4m0]
  instanceTypes := #[]
  staticTypes := #[.long]
  resolved := Array.replicate 37 none
  statics := none }

def pool5 : Array CpInfo := pool [(1, .class_ 2), (0, u "java/lang/Comparable"), (0, .class_ 4), (0, u "java/lang/Object")] 7

/-- java/lang/Comparable -/
def k5 : Class := { plain "java/lang/Comparable" (some 0) with
  accessFlags := 1537
  interfaces := #[]
  cf := some (fileOf pool5 1 #[] #[] 1537 3 #[] #[])
  fields := #[]
  methods := #[]
  instanceTypes := #[]
  staticTypes := #[]
  resolved := Array.replicate 12 none
  statics := none }

def pool6 : Array CpInfo := pool [(1, .class_ 2), (0, u "java/lang/constant/Constable"), (0, .class_ 4), (0, u "java/lang/Object")] 6

/-- java/lang/constant/Constable -/
def k6 : Class := { plain "java/lang/constant/Constable" (some 0) with
  accessFlags := 1537
  interfaces := #[]
  cf := some (fileOf pool6 1 #[] #[] 1537 3 #[] #[])
  fields := #[]
  methods := #[]
  instanceTypes := #[]
  staticTypes := #[]
  resolved := Array.replicate 11 none
  statics := none }

def pool7 : Array CpInfo := pool [(1, .class_ 2), (0, u "java/lang/constant/ConstantDesc"), (0, .class_ 4), (0, u "java/lang/Object")] 32

/-- java/lang/constant/ConstantDesc -/
def k7 : Class := { plain "java/lang/constant/ConstantDesc" (some 0) with
  accessFlags := 1537
  interfaces := #[]
  cf := some (fileOf pool7 1 #[] #[] 1537 3 #[] #[])
  fields := #[]
  methods := #[]
  instanceTypes := #[]
  staticTypes := #[]
  resolved := Array.replicate 37 none
  statics := none }

def pool8 : Array CpInfo := pool [(1, .class_ 2), (0, u "java/lang/Integer"), (16, u "digits"), (0, u "[C"), (46, u "<init>"), (17, u "DigitOnes"), (0, u "[B"), (2, u "DigitTens"), (10, .nameAndType 67 101), (0, u "()V"), (85, u "valueOf"), (0, u "(I)Ljava/lang/Integer;"), (0, .class_ 190), (0, u "java/lang/Integer$IntegerCache"), (0, .fieldref 189 192), (0, .nameAndType 193 194), (0, u "high"), (0, u "I"), (0, .fieldref 189 196), (0, .nameAndType 197 198), (0, u "cache"), (0, u "[Ljava/lang/Integer;"), (0, .methodref 1 200), (0, .nameAndType 67 201), (0, u "(I)V"), (0, .methodref 203 100), (0, .class_ 204), (0, u "java/lang/Number"), (0, .fieldref 1 206), (0, .nameAndType 207 194), (0, u "value"), (94, u "TYPE"), (0, u "Ljava/lang/Class;"), (0, .class_ 305), (0, u "java/lang/Comparable"), (0, .class_ 307), (0, u "java/lang/constant/Constable"), (0, .class_ 309), (0, u "java/lang/constant/ConstantDesc"), (0, u "MIN_VALUE"), (1, u "MAX_VALUE"), (3, u "SIZE"), (1, u "BYTES"), (1, u "serialVersionUID"), (0, u "J")] 131

def k8c0 : Code := { maxStack := 3, maxLocals := 1, code := jdk_33_method_22_code, exceptionTable := #[], attributes := #[] }
def k8m0 : Method := { name := "valueOf", desc := "(I)Ljava/lang/Integer;", sig := { parameters := [.int], returnType := some (.object "java/lang/Integer") }, accessFlags := 9, code := some k8c0 }
def k8c1 : Code := { maxStack := 2, maxLocals := 2, code := jdk_33_method_23_code, exceptionTable := #[], attributes := #[] }
def k8m1 : Method := { name := "<init>", desc := "(I)V", sig := { parameters := [.int], returnType := none }, accessFlags := 1, code := some k8c1 }
/-- java/lang/Integer -/
def k8 : Class := { plain "java/lang/Integer" (some 4) with
  accessFlags := 49
  interfaces := #[5, 6, 7]
  cf := some (fileOf pool8 1 #[.nestMembers #[189]] #[{ accessFlags := 9, nameIndex := 187, descriptorIndex := 188, attributes := #[] }, { accessFlags := 1, nameIndex := 67, descriptorIndex := 201, attributes := #[] }] 49 203 #[304, 306, 308] #[{ accessFlags := 25, nameIndex := 310, descriptorIndex := 194, attributes := #[] }, { accessFlags := 25, nameIndex := 312, descriptorIndex := 194, attributes := #[] }, { accessFlags := 25, nameIndex := 302, descriptorIndex := 303, attributes := #[] }, { accessFlags := 24, nameIndex := 19, descriptorIndex := 20, attributes := #[] }, { accessFlags := 24, nameIndex := 89, descriptorIndex := 86, attributes := #[] }, { accessFlags := 24, nameIndex := 85, descriptorIndex := 86, attributes := #[] }, { accessFlags := 18, nameIndex := 207, descriptorIndex := 194, attributes := #[] }, { accessFlags := 25, nameIndex := 316, descriptorIndex := 194, attributes := #[] }, { accessFlags := 25, nameIndex := 318, descriptorIndex := 194, attributes := #[] }, { accessFlags := 26, nameIndex := 320, descriptorIndex := 321, attributes := #[] }])
  fields := #[{ name := "MIN_VALUE", type := .int, accessFlags := 25, slot := 0, constantValue := 0 }, { name := "MAX_VALUE", type := .int, accessFlags := 25, slot := 1, constantValue := 0 }, { name := "TYPE", type := (.object "java/lang/Class"), accessFlags := 25, slot := 2, constantValue := 0 }, { name := "digits", type := (.array .char), accessFlags := 24, slot := 3, constantValue := 0 }, { name := "DigitTens", type := (.array .byte), accessFlags := 24, slot := 4, constantValue := 0 }, { name := "DigitOnes", type := (.array .byte), accessFlags := 24, slot := 5, constantValue := 0 }, { name := "value", type := .int, accessFlags := 18, slot := 0, constantValue := 0 }, { name := "SIZE", type := .int, accessFlags := 25, slot := 6, constantValue := 0 }, { name := "BYTES", type := .int, accessFlags := 25, slot := 7, constantValue := 0 }, { name := "serialVersionUID", type := .long, accessFlags := 26, slot := 8, constantValue := 0 }]
  methods := #[k8m0, k8m1]
  instanceTypes := #[.int]
  staticTypes := #[.int, .int, (.object "java/lang/Class"), (.array .char), (.array .byte), (.array .byte), .int, .int, .long]
  resolved := Array.replicate 453 none
  statics := none }

def pool9 : Array CpInfo := pool [(2, .class_ 4), (1, u "java/lang/Object"), (0, u "<init>"), (0, u "()V"), (0, .class_ 8), (0, u "java/lang/Integer"), (7, .class_ 18), (1, u "java/lang/Integer$IntegerCache"), (0, u "$assertionsDisabled"), (0, u "Z"), (26, u "high"), (0, u "I"), (8, u "archivedCache"), (0, u "[Ljava/lang/Integer;"), (12, u "cache"), (0, u "low")] 27

def k9m0 : Method := { name := "<init>", desc := "()V", sig := { parameters := [], returnType := none }, accessFlags := 2, code := none }
/-- java/lang/Integer$IntegerCache -/
def k9 : Class := { plain "java/lang/Integer$IntegerCache" (some 0) with
  accessFlags := 48
  interfaces := #[]
  cf := some (fileOf pool9 16 #[.nestHost 7] #[{ accessFlags := 2, nameIndex := 5, descriptorIndex := 6, attributes := #[] }] 48 2 #[] #[{ accessFlags := 24, nameIndex := 72, descriptorIndex := 48, attributes := #[] }, { accessFlags := 24, nameIndex := 47, descriptorIndex := 48, attributes := #[] }, { accessFlags := 24, nameIndex := 71, descriptorIndex := 58, attributes := #[] }, { accessFlags := 8, nameIndex := 57, descriptorIndex := 58, attributes := #[] }, { accessFlags := 4120, nameIndex := 19, descriptorIndex := 20, attributes := #[] }])
  fields := #[{ name := "low", type := .int, accessFlags := 24, slot := 0, constantValue := 0 }, { name := "high", type := .int, accessFlags := 24, slot := 1, constantValue := 0 }, { name := "cache", type := (.array (.object "java/lang/Integer")), accessFlags := 24, slot := 2, constantValue := 0 }, { name := "archivedCache", type := (.array (.object "java/lang/Integer")), accessFlags := 8, slot := 3, constantValue := 0 }, { name := "$assertionsDisabled", type := .boolean, accessFlags := 4120, slot := 4, constantValue := 0 }]
  methods := #[k9m0]
  instanceTypes := #[]
  staticTypes := #[.int, .int, (.array (.object "java/lang/Integer")), (.array (.object "java/lang/Integer")), .boolean]
  resolved := Array.replicate 100 none
  statics := some 0 }

def pool10 : Array CpInfo := pool [(1, .class_ 2), (0, u "java/lang/Long"), (55, .nameAndType 59 60), (0, u "<init>"), (0, u "()V"), (24, u "valueOf"), (143, u "(J)Ljava/lang/Long;"), (0, .long 18446744073709551488), (1, .long 127), (1, .fieldref 235 236), (0, .class_ 237), (0, .nameAndType 238 239), (0, u "java/lang/Long$LongCache"), (0, u "cache"), (0, u "[Ljava/lang/Long;"), (0, .methodref 1 241), (0, .nameAndType 59 242), (0, u "(J)V"), (27, .methodref 271 58), (0, .class_ 272), (0, u "java/lang/Number"), (0, .fieldref 1 274), (0, .nameAndType 275 276), (0, u "value"), (0, u "J"), (84, u "TYPE"), (0, u "Ljava/lang/Class;"), (0, .class_ 364), (0, u "java/lang/Comparable"), (0, .class_ 366), (0, u "java/lang/constant/Constable"), (0, .class_ 368), (0, u "java/lang/constant/ConstantDesc"), (0, u "MIN_VALUE"), (1, u "MAX_VALUE"), (4, u "SIZE"), (0, u "I"), (1, u "BYTES"), (1, u "serialVersionUID")] 142

def k10c0 : Code := { maxStack := 4, maxLocals := 3, code := jdk_35_method_24_code, exceptionTable := #[], attributes := #[] }
def k10m0 : Method := { name := "valueOf", desc := "(J)Ljava/lang/Long;", sig := { parameters := [.long], returnType := some (.object "java/lang/Long") }, accessFlags := 9, code := some k10c0 }
def k10c1 : Code := { maxStack := 3, maxLocals := 3, code := jdk_35_method_26_code, exceptionTable := #[], attributes := #[] }
def k10m1 : Method := { name := "<init>", desc := "(J)V", sig := { parameters := [.long], returnType := none }, accessFlags := 1, code := some k10c1 }
/-- java/lang/Long -/
def k10 : Class := { plain "java/lang/Long" (some 4) with
  accessFlags := 49
  interfaces := #[5, 6, 7]
  cf := some (fileOf pool10 1 #[.nestMembers #[235]] #[{ accessFlags := 9, nameIndex := 85, descriptorIndex := 229, attributes := #[] }, { accessFlags := 1, nameIndex := 59, descriptorIndex := 242, attributes := #[] }] 49 271 #[363, 365, 367] #[{ accessFlags := 25, nameIndex := 369, descriptorIndex := 276, attributes := #[] }, { accessFlags := 25, nameIndex := 371, descriptorIndex := 276, attributes := #[] }, { accessFlags := 25, nameIndex := 361, descriptorIndex := 362, attributes := #[] }, { accessFlags := 18, nameIndex := 275, descriptorIndex := 276, attributes := #[] }, { accessFlags := 25, nameIndex := 376, descriptorIndex := 377, attributes := #[] }, { accessFlags := 25, nameIndex := 379, descriptorIndex := 377, attributes := #[] }, { accessFlags := 26, nameIndex := 381, descriptorIndex := 276, attributes := #[] }])
  fields := #[{ name := "MIN_VALUE", type := .long, accessFlags := 25, slot := 0, constantValue := 0 }, { name := "MAX_VALUE", type := .long, accessFlags := 25, slot := 1, constantValue := 0 }, { name := "TYPE", type := (.object "java/lang/Class"), accessFlags := 25, slot := 2, constantValue := 0 }, { name := "value", type := .long, accessFlags := 18, slot := 0, constantValue := 0 }, { name := "SIZE", type := .int, accessFlags := 25, slot := 3, constantValue := 0 }, { name := "BYTES", type := .int, accessFlags := 25, slot := 4, constantValue := 0 }, { name := "serialVersionUID", type := .long, accessFlags := 26, slot := 5, constantValue := 0 }]
  methods := #[k10m0, k10m1]
  instanceTypes := #[.long]
  staticTypes := #[.long, .long, (.object "java/lang/Class"), .int, .int, .long]
  resolved := Array.replicate 524 none
  statics := none }

def pool11 : Array CpInfo := pool [(2, .class_ 4), (1, u "java/lang/Object"), (0, u "<init>"), (0, u "()V"), (0, .class_ 8), (0, u "java/lang/Long"), (7, .class_ 18), (1, u "java/lang/Long$LongCache"), (0, u "$assertionsDisabled"), (0, u "Z"), (8, u "archivedCache"), (0, u "[Ljava/lang/Long;"), (7, u "cache")] 24

def k11m0 : Method := { name := "<init>", desc := "()V", sig := { parameters := [], returnType := none }, accessFlags := 2, code := none }
/-- java/lang/Long$LongCache -/
def k11 : Class := { plain "java/lang/Long$LongCache" (some 0) with
  accessFlags := 48
  interfaces := #[]
  cf := some (fileOf pool11 16 #[.nestHost 7] #[{ accessFlags := 2, nameIndex := 5, descriptorIndex := 6, attributes := #[] }] 48 2 #[] #[{ accessFlags := 24, nameIndex := 38, descriptorIndex := 30, attributes := #[] }, { accessFlags := 8, nameIndex := 29, descriptorIndex := 30, attributes := #[] }, { accessFlags := 4120, nameIndex := 19, descriptorIndex := 20, attributes := #[] }])
  fields := #[{ name := "cache", type := (.array (.object "java/lang/Long")), accessFlags := 24, slot := 0, constantValue := 0 }, { name := "archivedCache", type := (.array (.object "java/lang/Long")), accessFlags := 8, slot := 1, constantValue := 0 }, { name := "$assertionsDisabled", type := .boolean, accessFlags := 4120, slot := 2, constantValue := 0 }]
  methods := #[k11m0]
  instanceTypes := #[]
  staticTypes := #[(.array (.object "java/lang/Long")), (.array (.object "java/lang/Long")), .boolean]
  resolved := Array.replicate 63 none
  statics := some 1 }

def pool12 : Array CpInfo := pool [(1, u "java/lang/Cloneable"), (0, .class_ 1), (0, u "java/lang/Object"), (0, .class_ 3)] 3

/-- java/lang/Cloneable -/
def k12 : Class := { plain "java/lang/Cloneable" (some 0) with
  accessFlags := 1537
  interfaces := #[]
  cf := some (fileOf pool12 2 #[] #[] 1537 4 #[] #[])
  fields := #[]
  methods := #[]
  instanceTypes := #[]
  staticTypes := #[]
  resolved := Array.replicate 8 none
  statics := none }

/-- the primitive byte -/
def k13 : Class := { plain "byte" none with kind := .primitive 'B', accessFlags := 0x411 }
/-- [B -/
def k14 : Class := { plain "[B" (some 0) with kind := .array 13 .byte, interfaces := #[12, 3], accessFlags := 1041 }

/-- the primitive int -/
def k15 : Class := { plain "int" none with kind := .primitive 'I', accessFlags := 0x411 }
/-- [I -/
def k16 : Class := { plain "[I" (some 0) with kind := .array 15 .int, interfaces := #[12, 3], accessFlags := 1041 }

/-- [Ljava/lang/Integer; -/
def k17 : Class := { plain "[Ljava/lang/Integer;" (some 0) with kind := .array 8 (.object "java/lang/Integer"), interfaces := #[12, 3], accessFlags := 1041 }

/-- [Ljava/lang/Long; -/
def k18 : Class := { plain "[Ljava/lang/Long;" (some 0) with kind := .array 10 (.object "java/lang/Long"), interfaces := #[12, 3], accessFlags := 1041 }

def heap : Heap := #[{ cls := 9, slots := #[.int 0, .int 127, .ref 2, .null, .int 0], vm := .statics 9 },
  { cls := 11, slots := #[.ref 3, .null, .int 0], vm := .statics 11 },
  { cls := 17, slots := #[.ref 4, .ref 5, .ref 6, .ref 7, .ref 8, .ref 9, .ref 10, .ref 11, .ref 12, .ref 13, .ref 14, .ref 15, .ref 16, .ref 17, .ref 18, .ref 19, .ref 20, .ref 21, .ref 22, .ref 23, .ref 24, .ref 25, .ref 26, .ref 27, .ref 28, .ref 29, .ref 30, .ref 31, .ref 32, .ref 33, .ref 34, .ref 35, .ref 36, .ref 37, .ref 38, .ref 39, .ref 40, .ref 41, .ref 42, .ref 43, .ref 44, .ref 45, .ref 46, .ref 47, .ref 48, .ref 49, .ref 50, .ref 51, .ref 52, .ref 53, .ref 54, .ref 55, .ref 56, .ref 57, .ref 58, .ref 59, .ref 60, .ref 61, .ref 62, .ref 63, .ref 64, .ref 65, .ref 66, .ref 67, .ref 68, .ref 69, .ref 70, .ref 71, .ref 72, .ref 73, .ref 74, .ref 75, .ref 76, .ref 77, .ref 78, .ref 79, .ref 80, .ref 81, .ref 82, .ref 83, .ref 84, .ref 85, .ref 86, .ref 87, .ref 88, .ref 89, .ref 90, .ref 91, .ref 92, .ref 93, .ref 94, .ref 95, .ref 96, .ref 97, .ref 98, .ref 99, .ref 100, .ref 101, .ref 102, .ref 103, .ref 104, .ref 105, .ref 106, .ref 107, .ref 108, .ref 109, .ref 110, .ref 111, .ref 112, .ref 113, .ref 114, .ref 115, .ref 116, .ref 117, .ref 118, .ref 119, .ref 120, .ref 121, .ref 122, .ref 123, .ref 124, .ref 125, .ref 126, .ref 127, .ref 128, .ref 129, .ref 130, .ref 131, .ref 132, .ref 133, .ref 134, .ref 135, .ref 136, .ref 137, .ref 138, .ref 139, .ref 140, .ref 141, .ref 142, .ref 143, .ref 144, .ref 145, .ref 146, .ref 147, .ref 148, .ref 149, .ref 150, .ref 151, .ref 152, .ref 153, .ref 154, .ref 155, .ref 156, .ref 157, .ref 158, .ref 159, .ref 160, .ref 161, .ref 162, .ref 163, .ref 164, .ref 165, .ref 166, .ref 167, .ref 168, .ref 169, .ref 170, .ref 171, .ref 172, .ref 173, .ref 174, .ref 175, .ref 176, .ref 177, .ref 178, .ref 179, .ref 180, .ref 181, .ref 182, .ref 183, .ref 184, .ref 185, .ref 186, .ref 187, .ref 188, .ref 189, .ref 190, .ref 191, .ref 192, .ref 193, .ref 194, .ref 195, .ref 196, .ref 197, .ref 198, .ref 199, .ref 200, .ref 201, .ref 202, .ref 203, .ref 204, .ref 205, .ref 206, .ref 207, .ref 208, .ref 209, .ref 210, .ref 211, .ref 212, .ref 213, .ref 214, .ref 215, .ref 216, .ref 217, .ref 218, .ref 219, .ref 220, .ref 221, .ref 222, .ref 223, .ref 224, .ref 225, .ref 226, .ref 227, .ref 228, .ref 229, .ref 230, .ref 231, .ref 232, .ref 233, .ref 234, .ref 235, .ref 236, .ref 237, .ref 238, .ref 239, .ref 240, .ref 241, .ref 242, .ref 243, .ref 244, .ref 245, .ref 246, .ref 247, .ref 248, .ref 249, .ref 250, .ref 251, .ref 252, .ref 253, .ref 254, .ref 255, .ref 256, .ref 257, .ref 258, .ref 259], vm := .none },
  { cls := 18, slots := #[.ref 260, .ref 261, .ref 262, .ref 263, .ref 264, .ref 265, .ref 266, .ref 267, .ref 268, .ref 269, .ref 270, .ref 271, .ref 272, .ref 273, .ref 274, .ref 275, .ref 276, .ref 277, .ref 278, .ref 279, .ref 280, .ref 281, .ref 282, .ref 283, .ref 284, .ref 285, .ref 286, .ref 287, .ref 288, .ref 289, .ref 290, .ref 291, .ref 292, .ref 293, .ref 294, .ref 295, .ref 296, .ref 297, .ref 298, .ref 299, .ref 300, .ref 301, .ref 302, .ref 303, .ref 304, .ref 305, .ref 306, .ref 307, .ref 308, .ref 309, .ref 310, .ref 311, .ref 312, .ref 313, .ref 314, .ref 315, .ref 316, .ref 317, .ref 318, .ref 319, .ref 320, .ref 321, .ref 322, .ref 323, .ref 324, .ref 325, .ref 326, .ref 327, .ref 328, .ref 329, .ref 330, .ref 331, .ref 332, .ref 333, .ref 334, .ref 335, .ref 336, .ref 337, .ref 338, .ref 339, .ref 340, .ref 341, .ref 342, .ref 343, .ref 344, .ref 345, .ref 346, .ref 347, .ref 348, .ref 349, .ref 350, .ref 351, .ref 352, .ref 353, .ref 354, .ref 355, .ref 356, .ref 357, .ref 358, .ref 359, .ref 360, .ref 361, .ref 362, .ref 363, .ref 364, .ref 365, .ref 366, .ref 367, .ref 368, .ref 369, .ref 370, .ref 371, .ref 372, .ref 373, .ref 374, .ref 375, .ref 376, .ref 377, .ref 378, .ref 379, .ref 380, .ref 381, .ref 382, .ref 383, .ref 384, .ref 385, .ref 386, .ref 387, .ref 388, .ref 389, .ref 390, .ref 391, .ref 392, .ref 393, .ref 394, .ref 395, .ref 396, .ref 397, .ref 398, .ref 399, .ref 400, .ref 401, .ref 402, .ref 403, .ref 404, .ref 405, .ref 406, .ref 407, .ref 408, .ref 409, .ref 410, .ref 411, .ref 412, .ref 413, .ref 414, .ref 415, .ref 416, .ref 417, .ref 418, .ref 419, .ref 420, .ref 421, .ref 422, .ref 423, .ref 424, .ref 425, .ref 426, .ref 427, .ref 428, .ref 429, .ref 430, .ref 431, .ref 432, .ref 433, .ref 434, .ref 435, .ref 436, .ref 437, .ref 438, .ref 439, .ref 440, .ref 441, .ref 442, .ref 443, .ref 444, .ref 445, .ref 446, .ref 447, .ref 448, .ref 449, .ref 450, .ref 451, .ref 452, .ref 453, .ref 454, .ref 455, .ref 456, .ref 457, .ref 458, .ref 459, .ref 460, .ref 461, .ref 462, .ref 463, .ref 464, .ref 465, .ref 466, .ref 467, .ref 468, .ref 469, .ref 470, .ref 471, .ref 472, .ref 473, .ref 474, .ref 475, .ref 476, .ref 477, .ref 478, .ref 479, .ref 480, .ref 481, .ref 482, .ref 483, .ref 484, .ref 485, .ref 486, .ref 487, .ref 488, .ref 489, .ref 490, .ref 491, .ref 492, .ref 493, .ref 494, .ref 495, .ref 496, .ref 497, .ref 498, .ref 499, .ref 500, .ref 501, .ref 502, .ref 503, .ref 504, .ref 505, .ref 506, .ref 507, .ref 508, .ref 509, .ref 510, .ref 511, .ref 512, .ref 513, .ref 514, .ref 515], vm := .none },
  { cls := 8, slots := #[.int (-128)], vm := .none },
  { cls := 8, slots := #[.int (-127)], vm := .none },
  { cls := 8, slots := #[.int (-126)], vm := .none },
  { cls := 8, slots := #[.int (-125)], vm := .none },
  { cls := 8, slots := #[.int (-124)], vm := .none },
  { cls := 8, slots := #[.int (-123)], vm := .none },
  { cls := 8, slots := #[.int (-122)], vm := .none },
  { cls := 8, slots := #[.int (-121)], vm := .none },
  { cls := 8, slots := #[.int (-120)], vm := .none },
  { cls := 8, slots := #[.int (-119)], vm := .none },
  { cls := 8, slots := #[.int (-118)], vm := .none },
  { cls := 8, slots := #[.int (-117)], vm := .none },
  { cls := 8, slots := #[.int (-116)], vm := .none },
  { cls := 8, slots := #[.int (-115)], vm := .none },
  { cls := 8, slots := #[.int (-114)], vm := .none },
  { cls := 8, slots := #[.int (-113)], vm := .none },
  { cls := 8, slots := #[.int (-112)], vm := .none },
  { cls := 8, slots := #[.int (-111)], vm := .none },
  { cls := 8, slots := #[.int (-110)], vm := .none },
  { cls := 8, slots := #[.int (-109)], vm := .none },
  { cls := 8, slots := #[.int (-108)], vm := .none },
  { cls := 8, slots := #[.int (-107)], vm := .none },
  { cls := 8, slots := #[.int (-106)], vm := .none },
  { cls := 8, slots := #[.int (-105)], vm := .none },
  { cls := 8, slots := #[.int (-104)], vm := .none },
  { cls := 8, slots := #[.int (-103)], vm := .none },
  { cls := 8, slots := #[.int (-102)], vm := .none },
  { cls := 8, slots := #[.int (-101)], vm := .none },
  { cls := 8, slots := #[.int (-100)], vm := .none },
  { cls := 8, slots := #[.int (-99)], vm := .none },
  { cls := 8, slots := #[.int (-98)], vm := .none },
  { cls := 8, slots := #[.int (-97)], vm := .none },
  { cls := 8, slots := #[.int (-96)], vm := .none },
  { cls := 8, slots := #[.int (-95)], vm := .none },
  { cls := 8, slots := #[.int (-94)], vm := .none },
  { cls := 8, slots := #[.int (-93)], vm := .none },
  { cls := 8, slots := #[.int (-92)], vm := .none },
  { cls := 8, slots := #[.int (-91)], vm := .none },
  { cls := 8, slots := #[.int (-90)], vm := .none },
  { cls := 8, slots := #[.int (-89)], vm := .none },
  { cls := 8, slots := #[.int (-88)], vm := .none },
  { cls := 8, slots := #[.int (-87)], vm := .none },
  { cls := 8, slots := #[.int (-86)], vm := .none },
  { cls := 8, slots := #[.int (-85)], vm := .none },
  { cls := 8, slots := #[.int (-84)], vm := .none },
  { cls := 8, slots := #[.int (-83)], vm := .none },
  { cls := 8, slots := #[.int (-82)], vm := .none },
  { cls := 8, slots := #[.int (-81)], vm := .none },
  { cls := 8, slots := #[.int (-80)], vm := .none },
  { cls := 8, slots := #[.int (-79)], vm := .none },
  { cls := 8, slots := #[.int (-78)], vm := .none },
  { cls := 8, slots := #[.int (-77)], vm := .none },
  { cls := 8, slots := #[.int (-76)], vm := .none },
  { cls := 8, slots := #[.int (-75)], vm := .none },
  { cls := 8, slots := #[.int (-74)], vm := .none },
  { cls := 8, slots := #[.int (-73)], vm := .none },
  { cls := 8, slots := #[.int (-72)], vm := .none },
  { cls := 8, slots := #[.int (-71)], vm := .none },
  { cls := 8, slots := #[.int (-70)], vm := .none },
  { cls := 8, slots := #[.int (-69)], vm := .none },
  { cls := 8, slots := #[.int (-68)], vm := .none },
  { cls := 8, slots := #[.int (-67)], vm := .none },
  { cls := 8, slots := #[.int (-66)], vm := .none },
  { cls := 8, slots := #[.int (-65)], vm := .none },
  { cls := 8, slots := #[.int (-64)], vm := .none },
  { cls := 8, slots := #[.int (-63)], vm := .none },
  { cls := 8, slots := #[.int (-62)], vm := .none },
  { cls := 8, slots := #[.int (-61)], vm := .none },
  { cls := 8, slots := #[.int (-60)], vm := .none },
  { cls := 8, slots := #[.int (-59)], vm := .none },
  { cls := 8, slots := #[.int (-58)], vm := .none },
  { cls := 8, slots := #[.int (-57)], vm := .none },
  { cls := 8, slots := #[.int (-56)], vm := .none },
  { cls := 8, slots := #[.int (-55)], vm := .none },
  { cls := 8, slots := #[.int (-54)], vm := .none },
  { cls := 8, slots := #[.int (-53)], vm := .none },
  { cls := 8, slots := #[.int (-52)], vm := .none },
  { cls := 8, slots := #[.int (-51)], vm := .none },
  { cls := 8, slots := #[.int (-50)], vm := .none },
  { cls := 8, slots := #[.int (-49)], vm := .none },
  { cls := 8, slots := #[.int (-48)], vm := .none },
  { cls := 8, slots := #[.int (-47)], vm := .none },
  { cls := 8, slots := #[.int (-46)], vm := .none },
  { cls := 8, slots := #[.int (-45)], vm := .none },
  { cls := 8, slots := #[.int (-44)], vm := .none },
  { cls := 8, slots := #[.int (-43)], vm := .none },
  { cls := 8, slots := #[.int (-42)], vm := .none },
  { cls := 8, slots := #[.int (-41)], vm := .none },
  { cls := 8, slots := #[.int (-40)], vm := .none },
  { cls := 8, slots := #[.int (-39)], vm := .none },
  { cls := 8, slots := #[.int (-38)], vm := .none },
  { cls := 8, slots := #[.int (-37)], vm := .none },
  { cls := 8, slots := #[.int (-36)], vm := .none },
  { cls := 8, slots := #[.int (-35)], vm := .none },
  { cls := 8, slots := #[.int (-34)], vm := .none },
  { cls := 8, slots := #[.int (-33)], vm := .none },
  { cls := 8, slots := #[.int (-32)], vm := .none },
  { cls := 8, slots := #[.int (-31)], vm := .none },
  { cls := 8, slots := #[.int (-30)], vm := .none },
  { cls := 8, slots := #[.int (-29)], vm := .none },
  { cls := 8, slots := #[.int (-28)], vm := .none },
  { cls := 8, slots := #[.int (-27)], vm := .none },
  { cls := 8, slots := #[.int (-26)], vm := .none },
  { cls := 8, slots := #[.int (-25)], vm := .none },
  { cls := 8, slots := #[.int (-24)], vm := .none },
  { cls := 8, slots := #[.int (-23)], vm := .none },
  { cls := 8, slots := #[.int (-22)], vm := .none },
  { cls := 8, slots := #[.int (-21)], vm := .none },
  { cls := 8, slots := #[.int (-20)], vm := .none },
  { cls := 8, slots := #[.int (-19)], vm := .none },
  { cls := 8, slots := #[.int (-18)], vm := .none },
  { cls := 8, slots := #[.int (-17)], vm := .none },
  { cls := 8, slots := #[.int (-16)], vm := .none },
  { cls := 8, slots := #[.int (-15)], vm := .none },
  { cls := 8, slots := #[.int (-14)], vm := .none },
  { cls := 8, slots := #[.int (-13)], vm := .none },
  { cls := 8, slots := #[.int (-12)], vm := .none },
  { cls := 8, slots := #[.int (-11)], vm := .none },
  { cls := 8, slots := #[.int (-10)], vm := .none },
  { cls := 8, slots := #[.int (-9)], vm := .none },
  { cls := 8, slots := #[.int (-8)], vm := .none },
  { cls := 8, slots := #[.int (-7)], vm := .none },
  { cls := 8, slots := #[.int (-6)], vm := .none },
  { cls := 8, slots := #[.int (-5)], vm := .none },
  { cls := 8, slots := #[.int (-4)], vm := .none },
  { cls := 8, slots := #[.int (-3)], vm := .none },
  { cls := 8, slots := #[.int (-2)], vm := .none },
  { cls := 8, slots := #[.int (-1)], vm := .none },
  { cls := 8, slots := #[.int (0)], vm := .none },
  { cls := 8, slots := #[.int (1)], vm := .none },
  { cls := 8, slots := #[.int (2)], vm := .none },
  { cls := 8, slots := #[.int (3)], vm := .none },
  { cls := 8, slots := #[.int (4)], vm := .none },
  { cls := 8, slots := #[.int (5)], vm := .none },
  { cls := 8, slots := #[.int (6)], vm := .none },
  { cls := 8, slots := #[.int (7)], vm := .none },
  { cls := 8, slots := #[.int (8)], vm := .none },
  { cls := 8, slots := #[.int (9)], vm := .none },
  { cls := 8, slots := #[.int (10)], vm := .none },
  { cls := 8, slots := #[.int (11)], vm := .none },
  { cls := 8, slots := #[.int (12)], vm := .none },
  { cls := 8, slots := #[.int (13)], vm := .none },
  { cls := 8, slots := #[.int (14)], vm := .none },
  { cls := 8, slots := #[.int (15)], vm := .none },
  { cls := 8, slots := #[.int (16)], vm := .none },
  { cls := 8, slots := #[.int (17)], vm := .none },
  { cls := 8, slots := #[.int (18)], vm := .none },
  { cls := 8, slots := #[.int (19)], vm := .none },
  { cls := 8, slots := #[.int (20)], vm := .none },
  { cls := 8, slots := #[.int (21)], vm := .none },
  { cls := 8, slots := #[.int (22)], vm := .none },
  { cls := 8, slots := #[.int (23)], vm := .none },
  { cls := 8, slots := #[.int (24)], vm := .none },
  { cls := 8, slots := #[.int (25)], vm := .none },
  { cls := 8, slots := #[.int (26)], vm := .none },
  { cls := 8, slots := #[.int (27)], vm := .none },
  { cls := 8, slots := #[.int (28)], vm := .none },
  { cls := 8, slots := #[.int (29)], vm := .none },
  { cls := 8, slots := #[.int (30)], vm := .none },
  { cls := 8, slots := #[.int (31)], vm := .none },
  { cls := 8, slots := #[.int (32)], vm := .none },
  { cls := 8, slots := #[.int (33)], vm := .none },
  { cls := 8, slots := #[.int (34)], vm := .none },
  { cls := 8, slots := #[.int (35)], vm := .none },
  { cls := 8, slots := #[.int (36)], vm := .none },
  { cls := 8, slots := #[.int (37)], vm := .none },
  { cls := 8, slots := #[.int (38)], vm := .none },
  { cls := 8, slots := #[.int (39)], vm := .none },
  { cls := 8, slots := #[.int (40)], vm := .none },
  { cls := 8, slots := #[.int (41)], vm := .none },
  { cls := 8, slots := #[.int (42)], vm := .none },
  { cls := 8, slots := #[.int (43)], vm := .none },
  { cls := 8, slots := #[.int (44)], vm := .none },
  { cls := 8, slots := #[.int (45)], vm := .none },
  { cls := 8, slots := #[.int (46)], vm := .none },
  { cls := 8, slots := #[.int (47)], vm := .none },
  { cls := 8, slots := #[.int (48)], vm := .none },
  { cls := 8, slots := #[.int (49)], vm := .none },
  { cls := 8, slots := #[.int (50)], vm := .none },
  { cls := 8, slots := #[.int (51)], vm := .none },
  { cls := 8, slots := #[.int (52)], vm := .none },
  { cls := 8, slots := #[.int (53)], vm := .none },
  { cls := 8, slots := #[.int (54)], vm := .none },
  { cls := 8, slots := #[.int (55)], vm := .none },
  { cls := 8, slots := #[.int (56)], vm := .none },
  { cls := 8, slots := #[.int (57)], vm := .none },
  { cls := 8, slots := #[.int (58)], vm := .none },
  { cls := 8, slots := #[.int (59)], vm := .none },
  { cls := 8, slots := #[.int (60)], vm := .none },
  { cls := 8, slots := #[.int (61)], vm := .none },
  { cls := 8, slots := #[.int (62)], vm := .none },
  { cls := 8, slots := #[.int (63)], vm := .none },
  { cls := 8, slots := #[.int (64)], vm := .none },
  { cls := 8, slots := #[.int (65)], vm := .none },
  { cls := 8, slots := #[.int (66)], vm := .none },
  { cls := 8, slots := #[.int (67)], vm := .none },
  { cls := 8, slots := #[.int (68)], vm := .none },
  { cls := 8, slots := #[.int (69)], vm := .none },
  { cls := 8, slots := #[.int (70)], vm := .none },
  { cls := 8, slots := #[.int (71)], vm := .none },
  { cls := 8, slots := #[.int (72)], vm := .none },
  { cls := 8, slots := #[.int (73)], vm := .none },
  { cls := 8, slots := #[.int (74)], vm := .none },
  { cls := 8, slots := #[.int (75)], vm := .none },
  { cls := 8, slots := #[.int (76)], vm := .none },
  { cls := 8, slots := #[.int (77)], vm := .none },
  { cls := 8, slots := #[.int (78)], vm := .none },
  { cls := 8, slots := #[.int (79)], vm := .none },
  { cls := 8, slots := #[.int (80)], vm := .none },
  { cls := 8, slots := #[.int (81)], vm := .none },
  { cls := 8, slots := #[.int (82)], vm := .none },
  { cls := 8, slots := #[.int (83)], vm := .none },
  { cls := 8, slots := #[.int (84)], vm := .none },
  { cls := 8, slots := #[.int (85)], vm := .none },
  { cls := 8, slots := #[.int (86)], vm := .none },
  { cls := 8, slots := #[.int (87)], vm := .none },
  { cls := 8, slots := #[.int (88)], vm := .none },
  { cls := 8, slots := #[.int (89)], vm := .none },
  { cls := 8, slots := #[.int (90)], vm := .none },
  { cls := 8, slots := #[.int (91)], vm := .none },
  { cls := 8, slots := #[.int (92)], vm := .none },
  { cls := 8, slots := #[.int (93)], vm := .none },
  { cls := 8, slots := #[.int (94)], vm := .none },
  { cls := 8, slots := #[.int (95)], vm := .none },
  { cls := 8, slots := #[.int (96)], vm := .none },
  { cls := 8, slots := #[.int (97)], vm := .none },
  { cls := 8, slots := #[.int (98)], vm := .none },
  { cls := 8, slots := #[.int (99)], vm := .none },
  { cls := 8, slots := #[.int (100)], vm := .none },
  { cls := 8, slots := #[.int (101)], vm := .none },
  { cls := 8, slots := #[.int (102)], vm := .none },
  { cls := 8, slots := #[.int (103)], vm := .none },
  { cls := 8, slots := #[.int (104)], vm := .none },
  { cls := 8, slots := #[.int (105)], vm := .none },
  { cls := 8, slots := #[.int (106)], vm := .none },
  { cls := 8, slots := #[.int (107)], vm := .none },
  { cls := 8, slots := #[.int (108)], vm := .none },
  { cls := 8, slots := #[.int (109)], vm := .none },
  { cls := 8, slots := #[.int (110)], vm := .none },
  { cls := 8, slots := #[.int (111)], vm := .none },
  { cls := 8, slots := #[.int (112)], vm := .none },
  { cls := 8, slots := #[.int (113)], vm := .none },
  { cls := 8, slots := #[.int (114)], vm := .none },
  { cls := 8, slots := #[.int (115)], vm := .none },
  { cls := 8, slots := #[.int (116)], vm := .none },
  { cls := 8, slots := #[.int (117)], vm := .none },
  { cls := 8, slots := #[.int (118)], vm := .none },
  { cls := 8, slots := #[.int (119)], vm := .none },
  { cls := 8, slots := #[.int (120)], vm := .none },
  { cls := 8, slots := #[.int (121)], vm := .none },
  { cls := 8, slots := #[.int (122)], vm := .none },
  { cls := 8, slots := #[.int (123)], vm := .none },
  { cls := 8, slots := #[.int (124)], vm := .none },
  { cls := 8, slots := #[.int (125)], vm := .none },
  { cls := 8, slots := #[.int (126)], vm := .none },
  { cls := 8, slots := #[.int (127)], vm := .none },
  { cls := 10, slots := #[.long (-128)], vm := .none },
  { cls := 10, slots := #[.long (-127)], vm := .none },
  { cls := 10, slots := #[.long (-126)], vm := .none },
  { cls := 10, slots := #[.long (-125)], vm := .none },
  { cls := 10, slots := #[.long (-124)], vm := .none },
  { cls := 10, slots := #[.long (-123)], vm := .none },
  { cls := 10, slots := #[.long (-122)], vm := .none },
  { cls := 10, slots := #[.long (-121)], vm := .none },
  { cls := 10, slots := #[.long (-120)], vm := .none },
  { cls := 10, slots := #[.long (-119)], vm := .none },
  { cls := 10, slots := #[.long (-118)], vm := .none },
  { cls := 10, slots := #[.long (-117)], vm := .none },
  { cls := 10, slots := #[.long (-116)], vm := .none },
  { cls := 10, slots := #[.long (-115)], vm := .none },
  { cls := 10, slots := #[.long (-114)], vm := .none },
  { cls := 10, slots := #[.long (-113)], vm := .none },
  { cls := 10, slots := #[.long (-112)], vm := .none },
  { cls := 10, slots := #[.long (-111)], vm := .none },
  { cls := 10, slots := #[.long (-110)], vm := .none },
  { cls := 10, slots := #[.long (-109)], vm := .none },
  { cls := 10, slots := #[.long (-108)], vm := .none },
  { cls := 10, slots := #[.long (-107)], vm := .none },
  { cls := 10, slots := #[.long (-106)], vm := .none },
  { cls := 10, slots := #[.long (-105)], vm := .none },
  { cls := 10, slots := #[.long (-104)], vm := .none },
  { cls := 10, slots := #[.long (-103)], vm := .none },
  { cls := 10, slots := #[.long (-102)], vm := .none },
  { cls := 10, slots := #[.long (-101)], vm := .none },
  { cls := 10, slots := #[.long (-100)], vm := .none },
  { cls := 10, slots := #[.long (-99)], vm := .none },
  { cls := 10, slots := #[.long (-98)], vm := .none },
  { cls := 10, slots := #[.long (-97)], vm := .none },
  { cls := 10, slots := #[.long (-96)], vm := .none },
  { cls := 10, slots := #[.long (-95)], vm := .none },
  { cls := 10, slots := #[.long (-94)], vm := .none },
  { cls := 10, slots := #[.long (-93)], vm := .none },
  { cls := 10, slots := #[.long (-92)], vm := .none },
  { cls := 10, slots := #[.long (-91)], vm := .none },
  { cls := 10, slots := #[.long (-90)], vm := .none },
  { cls := 10, slots := #[.long (-89)], vm := .none },
  { cls := 10, slots := #[.long (-88)], vm := .none },
  { cls := 10, slots := #[.long (-87)], vm := .none },
  { cls := 10, slots := #[.long (-86)], vm := .none },
  { cls := 10, slots := #[.long (-85)], vm := .none },
  { cls := 10, slots := #[.long (-84)], vm := .none },
  { cls := 10, slots := #[.long (-83)], vm := .none },
  { cls := 10, slots := #[.long (-82)], vm := .none },
  { cls := 10, slots := #[.long (-81)], vm := .none },
  { cls := 10, slots := #[.long (-80)], vm := .none },
  { cls := 10, slots := #[.long (-79)], vm := .none },
  { cls := 10, slots := #[.long (-78)], vm := .none },
  { cls := 10, slots := #[.long (-77)], vm := .none },
  { cls := 10, slots := #[.long (-76)], vm := .none },
  { cls := 10, slots := #[.long (-75)], vm := .none },
  { cls := 10, slots := #[.long (-74)], vm := .none },
  { cls := 10, slots := #[.long (-73)], vm := .none },
  { cls := 10, slots := #[.long (-72)], vm := .none },
  { cls := 10, slots := #[.long (-71)], vm := .none },
  { cls := 10, slots := #[.long (-70)], vm := .none },
  { cls := 10, slots := #[.long (-69)], vm := .none },
  { cls := 10, slots := #[.long (-68)], vm := .none },
  { cls := 10, slots := #[.long (-67)], vm := .none },
  { cls := 10, slots := #[.long (-66)], vm := .none },
  { cls := 10, slots := #[.long (-65)], vm := .none },
  { cls := 10, slots := #[.long (-64)], vm := .none },
  { cls := 10, slots := #[.long (-63)], vm := .none },
  { cls := 10, slots := #[.long (-62)], vm := .none },
  { cls := 10, slots := #[.long (-61)], vm := .none },
  { cls := 10, slots := #[.long (-60)], vm := .none },
  { cls := 10, slots := #[.long (-59)], vm := .none },
  { cls := 10, slots := #[.long (-58)], vm := .none },
  { cls := 10, slots := #[.long (-57)], vm := .none },
  { cls := 10, slots := #[.long (-56)], vm := .none },
  { cls := 10, slots := #[.long (-55)], vm := .none },
  { cls := 10, slots := #[.long (-54)], vm := .none },
  { cls := 10, slots := #[.long (-53)], vm := .none },
  { cls := 10, slots := #[.long (-52)], vm := .none },
  { cls := 10, slots := #[.long (-51)], vm := .none },
  { cls := 10, slots := #[.long (-50)], vm := .none },
  { cls := 10, slots := #[.long (-49)], vm := .none },
  { cls := 10, slots := #[.long (-48)], vm := .none },
  { cls := 10, slots := #[.long (-47)], vm := .none },
  { cls := 10, slots := #[.long (-46)], vm := .none },
  { cls := 10, slots := #[.long (-45)], vm := .none },
  { cls := 10, slots := #[.long (-44)], vm := .none },
  { cls := 10, slots := #[.long (-43)], vm := .none },
  { cls := 10, slots := #[.long (-42)], vm := .none },
  { cls := 10, slots := #[.long (-41)], vm := .none },
  { cls := 10, slots := #[.long (-40)], vm := .none },
  { cls := 10, slots := #[.long (-39)], vm := .none },
  { cls := 10, slots := #[.long (-38)], vm := .none },
  { cls := 10, slots := #[.long (-37)], vm := .none },
  { cls := 10, slots := #[.long (-36)], vm := .none },
  { cls := 10, slots := #[.long (-35)], vm := .none },
  { cls := 10, slots := #[.long (-34)], vm := .none },
  { cls := 10, slots := #[.long (-33)], vm := .none },
  { cls := 10, slots := #[.long (-32)], vm := .none },
  { cls := 10, slots := #[.long (-31)], vm := .none },
  { cls := 10, slots := #[.long (-30)], vm := .none },
  { cls := 10, slots := #[.long (-29)], vm := .none },
  { cls := 10, slots := #[.long (-28)], vm := .none },
  { cls := 10, slots := #[.long (-27)], vm := .none },
  { cls := 10, slots := #[.long (-26)], vm := .none },
  { cls := 10, slots := #[.long (-25)], vm := .none },
  { cls := 10, slots := #[.long (-24)], vm := .none },
  { cls := 10, slots := #[.long (-23)], vm := .none },
  { cls := 10, slots := #[.long (-22)], vm := .none },
  { cls := 10, slots := #[.long (-21)], vm := .none },
  { cls := 10, slots := #[.long (-20)], vm := .none },
  { cls := 10, slots := #[.long (-19)], vm := .none },
  { cls := 10, slots := #[.long (-18)], vm := .none },
  { cls := 10, slots := #[.long (-17)], vm := .none },
  { cls := 10, slots := #[.long (-16)], vm := .none },
  { cls := 10, slots := #[.long (-15)], vm := .none },
  { cls := 10, slots := #[.long (-14)], vm := .none },
  { cls := 10, slots := #[.long (-13)], vm := .none },
  { cls := 10, slots := #[.long (-12)], vm := .none },
  { cls := 10, slots := #[.long (-11)], vm := .none },
  { cls := 10, slots := #[.long (-10)], vm := .none },
  { cls := 10, slots := #[.long (-9)], vm := .none },
  { cls := 10, slots := #[.long (-8)], vm := .none },
  { cls := 10, slots := #[.long (-7)], vm := .none },
  { cls := 10, slots := #[.long (-6)], vm := .none },
  { cls := 10, slots := #[.long (-5)], vm := .none },
  { cls := 10, slots := #[.long (-4)], vm := .none },
  { cls := 10, slots := #[.long (-3)], vm := .none },
  { cls := 10, slots := #[.long (-2)], vm := .none },
  { cls := 10, slots := #[.long (-1)], vm := .none },
  { cls := 10, slots := #[.long (0)], vm := .none },
  { cls := 10, slots := #[.long (1)], vm := .none },
  { cls := 10, slots := #[.long (2)], vm := .none },
  { cls := 10, slots := #[.long (3)], vm := .none },
  { cls := 10, slots := #[.long (4)], vm := .none },
  { cls := 10, slots := #[.long (5)], vm := .none },
  { cls := 10, slots := #[.long (6)], vm := .none },
  { cls := 10, slots := #[.long (7)], vm := .none },
  { cls := 10, slots := #[.long (8)], vm := .none },
  { cls := 10, slots := #[.long (9)], vm := .none },
  { cls := 10, slots := #[.long (10)], vm := .none },
  { cls := 10, slots := #[.long (11)], vm := .none },
  { cls := 10, slots := #[.long (12)], vm := .none },
  { cls := 10, slots := #[.long (13)], vm := .none },
  { cls := 10, slots := #[.long (14)], vm := .none },
  { cls := 10, slots := #[.long (15)], vm := .none },
  { cls := 10, slots := #[.long (16)], vm := .none },
  { cls := 10, slots := #[.long (17)], vm := .none },
  { cls := 10, slots := #[.long (18)], vm := .none },
  { cls := 10, slots := #[.long (19)], vm := .none },
  { cls := 10, slots := #[.long (20)], vm := .none },
  { cls := 10, slots := #[.long (21)], vm := .none },
  { cls := 10, slots := #[.long (22)], vm := .none },
  { cls := 10, slots := #[.long (23)], vm := .none },
  { cls := 10, slots := #[.long (24)], vm := .none },
  { cls := 10, slots := #[.long (25)], vm := .none },
  { cls := 10, slots := #[.long (26)], vm := .none },
  { cls := 10, slots := #[.long (27)], vm := .none },
  { cls := 10, slots := #[.long (28)], vm := .none },
  { cls := 10, slots := #[.long (29)], vm := .none },
  { cls := 10, slots := #[.long (30)], vm := .none },
  { cls := 10, slots := #[.long (31)], vm := .none },
  { cls := 10, slots := #[.long (32)], vm := .none },
  { cls := 10, slots := #[.long (33)], vm := .none },
  { cls := 10, slots := #[.long (34)], vm := .none },
  { cls := 10, slots := #[.long (35)], vm := .none },
  { cls := 10, slots := #[.long (36)], vm := .none },
  { cls := 10, slots := #[.long (37)], vm := .none },
  { cls := 10, slots := #[.long (38)], vm := .none },
  { cls := 10, slots := #[.long (39)], vm := .none },
  { cls := 10, slots := #[.long (40)], vm := .none },
  { cls := 10, slots := #[.long (41)], vm := .none },
  { cls := 10, slots := #[.long (42)], vm := .none },
  { cls := 10, slots := #[.long (43)], vm := .none },
  { cls := 10, slots := #[.long (44)], vm := .none },
  { cls := 10, slots := #[.long (45)], vm := .none },
  { cls := 10, slots := #[.long (46)], vm := .none },
  { cls := 10, slots := #[.long (47)], vm := .none },
  { cls := 10, slots := #[.long (48)], vm := .none },
  { cls := 10, slots := #[.long (49)], vm := .none },
  { cls := 10, slots := #[.long (50)], vm := .none },
  { cls := 10, slots := #[.long (51)], vm := .none },
  { cls := 10, slots := #[.long (52)], vm := .none },
  { cls := 10, slots := #[.long (53)], vm := .none },
  { cls := 10, slots := #[.long (54)], vm := .none },
  { cls := 10, slots := #[.long (55)], vm := .none },
  { cls := 10, slots := #[.long (56)], vm := .none },
  { cls := 10, slots := #[.long (57)], vm := .none },
  { cls := 10, slots := #[.long (58)], vm := .none },
  { cls := 10, slots := #[.long (59)], vm := .none },
  { cls := 10, slots := #[.long (60)], vm := .none },
  { cls := 10, slots := #[.long (61)], vm := .none },
  { cls := 10, slots := #[.long (62)], vm := .none },
  { cls := 10, slots := #[.long (63)], vm := .none },
  { cls := 10, slots := #[.long (64)], vm := .none },
  { cls := 10, slots := #[.long (65)], vm := .none },
  { cls := 10, slots := #[.long (66)], vm := .none },
  { cls := 10, slots := #[.long (67)], vm := .none },
  { cls := 10, slots := #[.long (68)], vm := .none },
  { cls := 10, slots := #[.long (69)], vm := .none },
  { cls := 10, slots := #[.long (70)], vm := .none },
  { cls := 10, slots := #[.long (71)], vm := .none },
  { cls := 10, slots := #[.long (72)], vm := .none },
  { cls := 10, slots := #[.long (73)], vm := .none },
  { cls := 10, slots := #[.long (74)], vm := .none },
  { cls := 10, slots := #[.long (75)], vm := .none },
  { cls := 10, slots := #[.long (76)], vm := .none },
  { cls := 10, slots := #[.long (77)], vm := .none },
  { cls := 10, slots := #[.long (78)], vm := .none },
  { cls := 10, slots := #[.long (79)], vm := .none },
  { cls := 10, slots := #[.long (80)], vm := .none },
  { cls := 10, slots := #[.long (81)], vm := .none },
  { cls := 10, slots := #[.long (82)], vm := .none },
  { cls := 10, slots := #[.long (83)], vm := .none },
  { cls := 10, slots := #[.long (84)], vm := .none },
  { cls := 10, slots := #[.long (85)], vm := .none },
  { cls := 10, slots := #[.long (86)], vm := .none },
  { cls := 10, slots := #[.long (87)], vm := .none },
  { cls := 10, slots := #[.long (88)], vm := .none },
  { cls := 10, slots := #[.long (89)], vm := .none },
  { cls := 10, slots := #[.long (90)], vm := .none },
  { cls := 10, slots := #[.long (91)], vm := .none },
  { cls := 10, slots := #[.long (92)], vm := .none },
  { cls := 10, slots := #[.long (93)], vm := .none },
  { cls := 10, slots := #[.long (94)], vm := .none },
  { cls := 10, slots := #[.long (95)], vm := .none },
  { cls := 10, slots := #[.long (96)], vm := .none },
  { cls := 10, slots := #[.long (97)], vm := .none },
  { cls := 10, slots := #[.long (98)], vm := .none },
  { cls := 10, slots := #[.long (99)], vm := .none },
  { cls := 10, slots := #[.long (100)], vm := .none },
  { cls := 10, slots := #[.long (101)], vm := .none },
  { cls := 10, slots := #[.long (102)], vm := .none },
  { cls := 10, slots := #[.long (103)], vm := .none },
  { cls := 10, slots := #[.long (104)], vm := .none },
  { cls := 10, slots := #[.long (105)], vm := .none },
  { cls := 10, slots := #[.long (106)], vm := .none },
  { cls := 10, slots := #[.long (107)], vm := .none },
  { cls := 10, slots := #[.long (108)], vm := .none },
  { cls := 10, slots := #[.long (109)], vm := .none },
  { cls := 10, slots := #[.long (110)], vm := .none },
  { cls := 10, slots := #[.long (111)], vm := .none },
  { cls := 10, slots := #[.long (112)], vm := .none },
  { cls := 10, slots := #[.long (113)], vm := .none },
  { cls := 10, slots := #[.long (114)], vm := .none },
  { cls := 10, slots := #[.long (115)], vm := .none },
  { cls := 10, slots := #[.long (116)], vm := .none },
  { cls := 10, slots := #[.long (117)], vm := .none },
  { cls := 10, slots := #[.long (118)], vm := .none },
  { cls := 10, slots := #[.long (119)], vm := .none },
  { cls := 10, slots := #[.long (120)], vm := .none },
  { cls := 10, slots := #[.long (121)], vm := .none },
  { cls := 10, slots := #[.long (122)], vm := .none },
  { cls := 10, slots := #[.long (123)], vm := .none },
  { cls := 10, slots := #[.long (124)], vm := .none },
  { cls := 10, slots := #[.long (125)], vm := .none },
  { cls := 10, slots := #[.long (126)], vm := .none },
  { cls := 10, slots := #[.long (127)], vm := .none }]
def classes : Array Class := #[k0, k1, k2, k3, k4, k5, k6, k7, k8, k9, k10, k11, k12, k13, k14, k15, k16, k17, k18]
def interned : List (Array UInt16 × Addr) := []
def slotsUsed : Nat := 1032
def theMethod : MethodId := ⟨1, 1⟩
def args0 : Array Value := #[.long 5, .int 7, .long 5, .int 8, .int 3]
def aboutOver (below : List Frame) : State where
  vm := { classes := classes, interned := interned.toArray }
  heap := heap
  slotsUsed := slotsUsed
  threads := #[{ frames := .invoking theMethod args0 :: below }]
def below0 : List Frame := [.native { method := ⟨0, 0⟩, args := #[] }]
def about1 : State := aboutOver below0
def p0 : Program := .bare "" "" ""
def e0 : Env := launch0.env 0 0 0
theorem w_frames : about1.frames = Frame.invoking theMethod args0 :: below0 := rfl
set_option maxRecDepth 65536 in
theorem w_args : argsFit about1.vm theMethod args0 = true := by decide +kernel
set_option maxRecDepth 65536 in
theorem w_heap : heapFits about1 = true := by decide +kernel
set_option maxRecDepth 65536 in
theorem w_runnable : about1.curStatus? = some .runnable := by decide +kernel
set_option maxRecDepth 65536 in
theorem w_alone : about1.alone = true := by decide +kernel
set_option maxRecDepth 65536 in
theorem w_named : about1.methodNamed? x = some theMethod := by decide +kernel
set_option maxRecDepth 65536 in
theorem w_hears : about1.hears theMethod below0 = true := by decide +kernel
set_option maxRecDepth 65536 in
theorem w_ripe : about1.ripe theMethod args0 below0 = true := by decide +kernel
theorem w_running : about1.status = .running := rfl
set_option maxRecDepth 65536 in
theorem w_room : about1.hasRoom e0.platform room_1 = true :=
  launch0.hasRoom_least _ room_1 (by decide +kernel) (by decide +kernel) (by decide +kernel) (by decide +kernel) (by decide +kernel) (by decide +kernel)
theorem allAtoms_all (ts : List Jvm.Cond) (a : Array Jvm.Value) (st : Jvm.State) : (allAtoms ts).before a st = ts.all (fun c => c.before a st) := by
  induction ts with
  | nil => rfl
  | cons c t ih =>
    show (Jvm.Cond.and c (allAtoms t)).before a st = _
    rw [Jvm.Cond.before_and, ih, List.all_cons]
def words1 : List Jvm.Cond := Jvm.Cond.code x code maxLocals ret :: tables_1
/-- a 'code' word, met by the world's own term for the bytes: nothing is compared byte by byte -/
theorem code_word {y : MethodName} {bytes : ByteArray} {mx : Nat} {rt : Option FieldType} {a : Array Value} {s : State} {m : MethodId} {meth : Method} {c : Code} (h1 : s.methodNamed? y = some m) (h2 : s.vm.method? m = some meth) (h3 : meth.code = some c) (h4 : c.code = bytes)
    (h5 : (c.maxLocals == mx && c.exceptionTable.isEmpty && decide (c.maxStack ≤ mostOperands) && decide (meth.sig.returnType = rt) && !meth.locks && decide (parseMethodDescriptor y.desc = some meth.sig)) = true) : (Jvm.Cond.code y bytes mx rt).before a s = true := by
  simp only [Bool.and_eq_true, beq_iff_eq, Bool.not_eq_true', decide_eq_true_eq] at h5
  obtain ⟨⟨⟨⟨⟨g1, g2⟩, g3⟩, g4⟩, g5⟩, g6⟩ := h5
  simp [Cond.before, Cond.holds, Cond.value, h1, h2, h3, h4, g1, g2, g3, g4, g5, g6]
def isCode : Jvm.Cond → Bool
  | .code _ _ _ _ => true
  | _ => false
theorem all_split {L : List Jvm.Cond} {P : Jvm.Cond → Bool} (h1 : L.all (fun c => isCode c || P c) = true) (h2 : ∀ c ∈ L.filter isCode, P c = true) : L.all P = true := by
  refine List.all_eq_true.mpr fun c hc => ?_
  have h := List.all_eq_true.mp h1 c hc
  rcases Bool.eq_false_or_eq_true (isCode c) with hi | hi
  · exact h2 c (List.mem_filter.mpr ⟨hc, hi⟩)
  · simpa [hi] using h
set_option maxRecDepth 65536 in
theorem w_c0 : (Jvm.Cond.code x code maxLocals ret).before args0 about1 = true := code_word (m := ⟨1, 1⟩) (meth := k1m1) (c := k1c1) (by decide +kernel) rfl rfl rfl (by decide +kernel)
set_option maxRecDepth 65536 in
theorem w_c1 : (Jvm.Cond.code ({ cls := "com/example/ballot/ballot/model/Vote", name := "<init>", desc := "(JI)V" } : Jvm.MethodName) prog_23_method_1_code (4 : Nat) (Option.none : Option Jvm.ClassFile.FieldType)).before args0 about1 = true := code_word (m := ⟨2, 0⟩) (meth := k2m0) (c := k2c0) (by decide +kernel) rfl rfl rfl (by decide +kernel)
set_option maxRecDepth 65536 in
theorem w_c2 : (Jvm.Cond.code ({ cls := "java/lang/Object", name := "<init>", desc := "()V" } : Jvm.MethodName) object_method_1_code (1 : Nat) (Option.none : Option Jvm.ClassFile.FieldType)).before args0 about1 = true := code_word (m := ⟨0, 0⟩) (meth := k0m0) (c := k0c0) (by decide +kernel) rfl rfl rfl (by decide +kernel)
set_option maxRecDepth 65536 in
theorem w_c3 : (Jvm.Cond.code ({ cls := "java/lang/Integer", name := "valueOf", desc := "(I)Ljava/lang/Integer;" } : Jvm.MethodName) jdk_33_method_22_code (1 : Nat) (Option.some (Jvm.ClassFile.FieldType.object "java/lang/Integer"))).before args0 about1 = true := code_word (m := ⟨8, 0⟩) (meth := k8m0) (c := k8c0) (by decide +kernel) rfl rfl rfl (by decide +kernel)
set_option maxRecDepth 65536 in
theorem w_c4 : (Jvm.Cond.code ({ cls := "com/example/ballot/ballot/model/Vote", name := "equals", desc := "(Ljava/lang/Object;)Z" } : Jvm.MethodName) prog_23_method_4_code (3 : Nat) (Option.some Jvm.ClassFile.FieldType.boolean)).before args0 about1 = true := code_word (m := ⟨2, 1⟩) (meth := k2m1) (c := k2c1) (by decide +kernel) rfl rfl rfl (by decide +kernel)
set_option maxRecDepth 65536 in
theorem w_c5 : (Jvm.Cond.code ({ cls := "java/lang/Integer", name := "<init>", desc := "(I)V" } : Jvm.MethodName) jdk_33_method_23_code (2 : Nat) (Option.none : Option Jvm.ClassFile.FieldType)).before args0 about1 = true := code_word (m := ⟨8, 1⟩) (meth := k8m1) (c := k8c1) (by decide +kernel) rfl rfl rfl (by decide +kernel)
set_option maxRecDepth 65536 in
theorem w_c6 : (Jvm.Cond.code ({ cls := "java/lang/Number", name := "<init>", desc := "()V" } : Jvm.MethodName) jdk_18_method_1_code (1 : Nat) (Option.none : Option Jvm.ClassFile.FieldType)).before args0 about1 = true := code_word (m := ⟨4, 0⟩) (meth := k4m0) (c := k4c0) (by decide +kernel) rfl rfl rfl (by decide +kernel)
set_option maxRecDepth 65536 in
theorem w_c7 : (Jvm.Cond.code ({ cls := "java/lang/Long", name := "valueOf", desc := "(J)Ljava/lang/Long;" } : Jvm.MethodName) jdk_35_method_24_code (3 : Nat) (Option.some (Jvm.ClassFile.FieldType.object "java/lang/Long"))).before args0 about1 = true := code_word (m := ⟨10, 0⟩) (meth := k10m0) (c := k10c0) (by decide +kernel) rfl rfl rfl (by decide +kernel)
set_option maxRecDepth 65536 in
theorem w_c8 : (Jvm.Cond.code ({ cls := "java/lang/Long", name := "<init>", desc := "(J)V" } : Jvm.MethodName) jdk_35_method_26_code (3 : Nat) (Option.none : Option Jvm.ClassFile.FieldType)).before args0 about1 = true := code_word (m := ⟨10, 1⟩) (meth := k10m1) (c := k10c1) (by decide +kernel) rfl rfl rfl (by decide +kernel)
def codes1 : List Jvm.Cond := [Jvm.Cond.code x code maxLocals ret, Jvm.Cond.code ({ cls := "com/example/ballot/ballot/model/Vote", name := "<init>", desc := "(JI)V" } : Jvm.MethodName) prog_23_method_1_code (4 : Nat) (Option.none : Option Jvm.ClassFile.FieldType), Jvm.Cond.code ({ cls := "java/lang/Object", name := "<init>", desc := "()V" } : Jvm.MethodName) object_method_1_code (1 : Nat) (Option.none : Option Jvm.ClassFile.FieldType), Jvm.Cond.code ({ cls := "java/lang/Integer", name := "valueOf", desc := "(I)Ljava/lang/Integer;" } : Jvm.MethodName) jdk_33_method_22_code (1 : Nat) (Option.some (Jvm.ClassFile.FieldType.object "java/lang/Integer")), Jvm.Cond.code ({ cls := "com/example/ballot/ballot/model/Vote", name := "equals", desc := "(Ljava/lang/Object;)Z" } : Jvm.MethodName) prog_23_method_4_code (3 : Nat) (Option.some Jvm.ClassFile.FieldType.boolean), Jvm.Cond.code ({ cls := "java/lang/Integer", name := "<init>", desc := "(I)V" } : Jvm.MethodName) jdk_33_method_23_code (2 : Nat) (Option.none : Option Jvm.ClassFile.FieldType), Jvm.Cond.code ({ cls := "java/lang/Number", name := "<init>", desc := "()V" } : Jvm.MethodName) jdk_18_method_1_code (1 : Nat) (Option.none : Option Jvm.ClassFile.FieldType), Jvm.Cond.code ({ cls := "java/lang/Long", name := "valueOf", desc := "(J)Ljava/lang/Long;" } : Jvm.MethodName) jdk_35_method_24_code (3 : Nat) (Option.some (Jvm.ClassFile.FieldType.object "java/lang/Long")), Jvm.Cond.code ({ cls := "java/lang/Long", name := "<init>", desc := "(J)V" } : Jvm.MethodName) jdk_35_method_26_code (3 : Nat) (Option.none : Option Jvm.ClassFile.FieldType)]
set_option maxRecDepth 65536 in
theorem codes_eq : words1.filter isCode = codes1 := rfl
theorem w_codes : ∀ c ∈ words1.filter isCode, c.before args0 about1 = true := by
  rw [codes_eq]
  intro c hc
  simp only [codes1, List.mem_cons, List.not_mem_nil, or_false] at hc
  rcases hc with rfl | rfl | rfl | rfl | rfl | rfl | rfl | rfl | rfl
  · exact w_c0
  · exact w_c1
  · exact w_c2
  · exact w_c3
  · exact w_c4
  · exact w_c5
  · exact w_c6
  · exact w_c7
  · exact w_c8
set_option maxRecDepth 65536 in
theorem w_t1 : (words1.take 24).all (fun c => isCode c || c.before args0 about1) = true := by decide +kernel
set_option maxRecDepth 65536 in
theorem w_t2 : ((words1.drop 24).take 24).all (fun c => isCode c || c.before args0 about1) = true := by decide +kernel
set_option maxRecDepth 65536 in
theorem w_t3 : ((words1.drop 24).drop 24).all (fun c => isCode c || c.before args0 about1) = true := by decide +kernel
theorem w_tables : (allAtoms (Jvm.Cond.code x code maxLocals ret :: tables_1)).before args0 about1 = true := by
  rw [allAtoms_all]
  show words1.all (fun c => c.before args0 about1) = true
  refine all_split ?_ w_codes
  rw [← List.take_append_drop 24 words1, List.all_append, w_t1, ← List.take_append_drop 24 (words1.drop 24), List.all_append, w_t2, w_t3]
  rfl
set_option maxRecDepth 65536 in
theorem w_rest : rest_1_c.before args0 about1 = true := by decide +kernel
set_option maxRecDepth 65536 in
theorem w_case : (Jvm.Cond.and given_1 narrow_1).before args0 about1 = true := by decide +kernel
theorem w_applies : (headSpec (Jvm.Cond.code x code maxLocals ret :: tables_1) room_1).applies x e0.platform about1 = true :=
  (Spec.applies_iff w_frames).mpr ⟨w_running, w_runnable, w_alone, w_named, w_hears, w_ripe, w_room, w_tables⟩
theorem atStart : AtStart classFile x code maxLocals ret World_1 tables_1 room_1 Calls_1 rest_1 Pre_1 launch0 p0 e0 about1 theMethod args0 below0 :=
  ⟨lists_1, trivial, launch0.admits_env _ _ _, launch0.least_env, fairChoices_fair.cas, fairChoices_fair.clock, w_frames, w_args, w_heap, w_applies, trivial, w_rest, w_case⟩
end start1
theorem witness_1 : WitnessClaimed_1 := ⟨start1.p0, start1.e0, start1.about1, start1.theMethod, start1.args0, start1.below0, start1.atStart⟩
end Jvm.Pilot.@@N@@
