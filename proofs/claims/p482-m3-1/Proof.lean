import JvmDerived
import JvmDerived.Pilot.@@N@@Statement
import JvmDerived.Pilot.@@N@@Code
set_option linter.unusedVariables false
set_option linter.unusedSimpArgs false
namespace Jvm.Pilot.@@N@@
open Jvm Jvm.ClassFile Sem Op Lib Jvm.Free Jvm.Stand Jvm.LawKit Jvm.RoadKit Bundle Jvm.Pilot.@@N@@.Jvm.D
theorem own_sta {s : State} {args : Array Value} {C n d K : String} (hx : (Jvm.Cond.exactly (Term.static C n d) K).value args s none s [] = some true) (wi : (Jvm.Cond.initialized C).before args s = true) (wl : (Jvm.Cond.laysStatic C n d).before args s = true) :
    ∃ w : Addr, (Term.static C n d).eval args s none [] s = some (.ref w) ∧ Sta s s.heap C n d (.ref w) ∧ Exa s s.heap w K := by
  obtain ⟨w, ew⟩ := exa_v hx
  exact ⟨w, ew, Sta.start ew (Or.inr ⟨wi, wl⟩), Exa.start ew hx⟩
theorem own_fld {s : State} {args : Array Value} {t : Term} {w : Addr} {C n d : String} {k : Int32} (ev : t.eval args s none [] s = some (.ref w)) (hx : (Jvm.Cond.eq (Term.field t C n d) (Term.int k)).value args s none s [] = some true) : Fld s s.heap w C n d (.int k) := by
  have e1 := fld_at (C := C) (n := n) (dd := d) ev
  refine Fld.start ?_
  cases hv : s.fieldOf? w C n d with
  | none => rw [hv] at e1; simp [Cond.value, e1] at hx
  | some v =>
    rw [hv] at e1
    have e2 : (Term.int k).eval args s none [] s = some (.int k) := Term.int_eval k
    cases v <;> simp [Cond.value, e1, e2] at hx ⊢
    exact hx
theorem own_fldR {s : State} {args : Array Value} {t u : Term} {w z : Addr} {C n d : String} (ev : t.eval args s none [] s = some (.ref w)) (eu : u.eval args s none [] s = some (.ref z)) (hx : (Jvm.Cond.eq (Term.field t C n d) u).value args s none s [] = some true) : Fld s s.heap w C n d (.ref z) := by
  have e1 := fld_at (C := C) (n := n) (dd := d) ev
  refine Fld.start ?_
  cases hv : s.fieldOf? w C n d with
  | none => rw [hv] at e1; simp [Cond.value, e1] at hx
  | some v =>
    rw [hv] at e1
    cases v <;> simp [Cond.value, e1, eu] at hx ⊢
    exact hx
theorem own_nsR {Z : State} {a0 : Array Value} {O K : String} {n : Nat} (w : (Jvm.Cond.noSuperclass O).before a0 Z = true) (wi : (Jvm.Cond.instantiable K n).before a0 Z = true) (hn : O ≠ K) : NS Z O K := by
  obtain ⟨c, k, h1, h2, h3, -⟩ := Cond.noSuperclass_spec w
  obtain ⟨t, kt, g1, -⟩ := Cond.instantiable_spec wi
  exact ⟨c, t, h1, g1, fun fuel => by cases fuel <;> simp [Vm.isSubclassAux, ids_ne h1 g1 hn, h2, h3]⟩
theorem own_nsN {Z : State} {a0 : Array Value} {C S K : String} {n : Nat} (w : (Jvm.Cond.superclass C S).before a0 Z = true) (wi : (Jvm.Cond.instantiable K n).before a0 Z = true) (nn : NS Z C K) (hn : C ≠ K) : ∃ c t, Z.vm.findClass C = some c ∧ Z.vm.findClass K = some t ∧ Z.vm.assignable c t = false := by
  obtain ⟨c, t, h0, g0, n3⟩ := nn
  obtain ⟨_, k, _, -, h2, -, -, h5, -⟩ := Cond.superclass_spec h0 w
  obtain ⟨t', kt, g1, g2, g3, g4, -⟩ := Cond.instantiable_spec wi
  cases g0.symm.trans g1
  have g5 : kt.isInterface = false := (Bool.or_eq_false_iff.mp g4).1
  exact ⟨c, t, h0, g0, by show Z.vm.assignableAux (255 + 1) c t = false; simp [Vm.assignableAux, ids_ne h0 g0 hn, h2, g2, h5, g3, g5, Vm.isSubclass, n3]⟩
theorem own_elem {s : State} {args : Array Value} {t u : Term} {a z : Addr} {cl : Cell} {j : Int32} (ev : t.eval args s none [] s = some (.ref a)) (eu : u.eval args s none [] s = some (.ref z)) (ha : s.arrayAt? a = some cl) (hn : ¬ j < 0) (hx : (Jvm.Cond.eq (Term.elem t (Term.int j)) u).value args s none s [] = some true) : cl.slots[j.toNatClampNeg]? = some (.ref z) := by
  have e1 := elem_f ev (Term.int_eval j) ha hn
  cases hv : cl.slots[j.toNatClampNeg]? with
  | none => rw [hv] at e1; simp [Cond.value, e1] at hx
  | some v =>
    rw [hv] at e1
    cases v <;> simp [Cond.value, e1, eu] at hx ⊢
    exact hx
theorem own_fldN {s : State} {args : Array Value} {t : Term} {w : Addr} {C n d : String} (ev : t.eval args s none [] s = some (.ref w)) (hx : (Jvm.Cond.eq (Term.field t C n d) Term.null).value args s none s [] = some true) : Fld s s.heap w C n d .null := by
  have e1 := fld_at (C := C) (n := n) (dd := d) ev
  have e2 := null_v hx
  rw [e1] at e2
  exact Fld.start e2
theorem refCat {v : Value} (h : v.isRef = true) : v.category = 1 := by rcases ref_cases h with rfl | ⟨a, rfl⟩ <;> rfl
theorem refNar {v : Value} {C : String} (h : v.isRef = true) : narrow (.object C) v = v := by rcases ref_cases h with rfl | ⟨a, rfl⟩ <;> rfl
theorem refFit {v : Value} {C : String} (h : v.isRef = true) : fits (.object C) v = true := by rcases ref_cases h with rfl | ⟨a, rfl⟩ <;> rfl
theorem own_len {s : State} {args : Array Value} {t : Term} {a : Addr} {cl : Cell} {z : Int32} (ht : t.eval args s none [] s = some (.ref a)) (ha : s.arrayAt? a = some cl) (h : (Term.length t).eval args s none [] s = some (.int z)) : cl.slots.size < 2 ^ 31 ∧ cl.slots.size.toInt32 = z := by
  simp only [Term.eval, ht, ha, Option.bind_eq_bind, Option.bind_some] at h
  split at h
  · rename_i q; exact ⟨q, by simpa using h⟩
  · cases h
theorem own_idx {x : Int32} (h1 : ¬ (x < (-128 : Int32))) (h2 : ¬ ((127 : Int32) < x)) : ¬ (x + (128 : Int32)) < 0 ∧ (x + (128 : Int32)) < (256 : Int32) := by
  have a1 := c_iadd x 128
  have a2 := rng32 (x + 128)
  simp only [Int32.lt_iff_toInt_lt, show (-128 : Int32).toInt = -128 from by decide, show (127 : Int32).toInt = 127 from by decide, show (128 : Int32).toInt = 128 from by decide, show (256 : Int32).toInt = 256 from by decide, show (0 : Int32).toInt = 0 from by decide] at *
  omega
theorem d5_0 : decode jdk_37_method_2_code 0 = .ok (.aload_n 0, 1) := by decide +kernel
theorem d5_1 : decode jdk_37_method_2_code 1 = .ok (.getfield 7, 3) := by decide +kernel
theorem d5_4 : decode jdk_37_method_2_code 4 = .ok (.ireturn, 1) := by decide +kernel
theorem pn_java_lang_Enum : plainName "java/lang/Enum" = true := by first | (simp [plainName, overriddenIn]; done) | decide +kernel
theorem ef_ord (m : MethodId) (a : Addr) (z : Int32) : entryFrame m #[(.ref a)] 1 = mkF m 0 #[.val (.ref a)] [] := by first | (simp [entryFrame, mkF, argsToLocals, Value.category]; done) | rfl
def Q_ord (Z : State) (w0 : Addr) (w1 : Addr) (w2 : Addr) (w3 : Addr) (w4 : Addr) (wV : Addr) (kV : ClassId) (wE : Addr) (a : Addr) (z : Int32) (h0 : Heap) (n0 : Nat) (vv_ : Option Value) (hh_ : Heap) (LL_ : List Loc) : Prop := vv_ = some (.int z) ∧ (Fr n0 LL_) ∧ (hh_ = h0)
set_option maxRecDepth 65536 in
set_option maxHeartbeats 40000000 in
theorem ord (l : Launch) (Z : State) (a0 : Array Value) (hw : ∀ d ∈ tables_1, d.before a0 Z = true) (ws : List Jvm.Cond) (w0 : Addr) (w1 : Addr) (w2 : Addr) (w3 : Addr) (w4 : Addr) (wV : Addr) (kV : ClassId) (wE : Addr) (a : Addr) (z : Int32) (h0 : Heap) (n0 : Nat) (O0 : Old Z n0 h0) (S_w0 : Sta Z Z.heap "com/example/demarcate/demarcate/Isolation" "DEFAULT" "Lcom/example/demarcate/demarcate/Isolation;" (.ref w0)) (S_w1 : Sta Z Z.heap "com/example/demarcate/demarcate/Isolation" "READ_UNCOMMITTED" "Lcom/example/demarcate/demarcate/Isolation;" (.ref w1)) (S_w2 : Sta Z Z.heap "com/example/demarcate/demarcate/Isolation" "READ_COMMITTED" "Lcom/example/demarcate/demarcate/Isolation;" (.ref w2)) (S_w3 : Sta Z Z.heap "com/example/demarcate/demarcate/Isolation" "REPEATABLE_READ" "Lcom/example/demarcate/demarcate/Isolation;" (.ref w3)) (S_w4 : Sta Z Z.heap "com/example/demarcate/demarcate/Isolation" "SERIALIZABLE" "Lcom/example/demarcate/demarcate/Isolation;" (.ref w4)) (E_w0 : Exa Z Z.heap w0 "com/example/demarcate/demarcate/Isolation") (E_w1 : Exa Z Z.heap w1 "com/example/demarcate/demarcate/Isolation") (E_w2 : Exa Z Z.heap w2 "com/example/demarcate/demarcate/Isolation") (E_w3 : Exa Z Z.heap w3 "com/example/demarcate/demarcate/Isolation") (E_w4 : Exa Z Z.heap w4 "com/example/demarcate/demarcate/Isolation") (F_w1 : Fld Z Z.heap w1 "java/lang/Enum" "ordinal" "I" (.int (1 : Int32))) (F_w2 : Fld Z Z.heap w2 "java/lang/Enum" "ordinal" "I" (.int (2 : Int32))) (F_w3 : Fld Z Z.heap w3 "java/lang/Enum" "ordinal" "I" (.int (3 : Int32))) (F_w4 : Fld Z Z.heap w4 "java/lang/Enum" "ordinal" "I" (.int (4 : Int32))) (S_wV : Sta Z Z.heap "com/example/demarcate/demarcate/Isolation" "$VALUES" "[Lcom/example/demarcate/demarcate/Isolation;" (.ref wV)) (E_wV : Exa Z Z.heap wV "[Lcom/example/demarcate/demarcate/Isolation;") (A_wV : Arv Z Z.heap wV kV (.object "com/example/demarcate/demarcate/Isolation") (5 : Int32) [(.ref w0), (.ref w1), (.ref w2), (.ref w3), (.ref w4)] .null) (S_wE : Sta Z Z.heap "java/util/Optional" "EMPTY" "Ljava/util/Optional;" (.ref wE)) (E_wE : Exa Z Z.heap wE "java/util/Optional") (F_wE : Fld Z Z.heap wE "java/util/Optional" "value" "Ljava/lang/Object;" .null) (ne_w1_w0 : w1 ≠ w0) (ne_w2_w0 : w2 ≠ w0) (ne_w3_w0 : w3 ≠ w0) (ne_w4_w0 : w4 ≠ w0) (Fa : Fld Z h0 a "java/lang/Enum" "ordinal" "I" (.int z)) :
    MetFree l (⟨"java/lang/Enum", "ordinal", "()I"⟩ : MethodName) (head1 (Jvm.Cond.code (⟨"java/lang/Enum", "ordinal", "()I"⟩ : MethodName) jdk_37_method_2_code 1 (some .int) :: ws) ({ frames := 0, cells := 0, slots := 0, locals := 0 } : Room)) (fun aa_ U_ => aa_ = #[(.ref a)] ∧ Z.Warmed39 U_.vm ∧ U_.heap = h0) (fun _ _ _ _ _ => True) (fun _ U_ oo_ V_ => ∃ vv_ LL_, oo_ = .returned vv_ ∧ Q_ord Z w0 w1 w2 w3 w4 wV kV wE a z h0 n0 vv_ V_.heap LL_ ∧ FrameEnd U_ oo_ V_ LL_ ({ frames := 0, cells := 0, slots := 0, locals := 0 } : Room).cells ({ frames := 0, cells := 0, slots := 0, locals := 0 } : Room).slots) := by
  refine MetFree.of_bodySF (plainFor_of_name pn_java_lang_Enum) hisR ?_
  intro p e s m args below meth c s₁ Bd hml0 hP hK
  obtain ⟨rfl, hZ, hh⟩ := hP
  have hx := Bd.exec
  have hby := Bd.bytes
  have hml : c.maxLocals = 1 := hml0
  have hown : s.vm.findClass "java/lang/Enum" = some m.cls := findClass_of_methodNamed Bd.named
  have hnm := (name_of_methodNamed Bd.named Bd.method).1
  have X0 : Stand p l e ({ frames := 0, cells := 0, slots := 0, locals := 0 } : Room) s m #[(.ref a)] below meth c s₁ [] 0 0 := Stand.of_body Bd
  have e0 : s₁.heap = h0 := by rw [← hh, Bd.state]; rfl
  have N0 := Fr.nil n0
  have Z0 : n0 ≤ h0.size := O0.1 ▸ O0.2.1
  have hk0 := Nat.zero_le h0.size
  have K0 : Keep h0 h0 [] := Keep.refl _ _
  have R0 : ∀ t, Steps p.tables e below (s₁.setTop (mkF m 0 #[.val (.ref a)] [])) t → Steps p.tables e below (s₁.setTop (entryFrame m #[(.ref a)] 1)) t := fun t k => castTop (ef_ord m a z) k
  obtain ⟨T1, X1, e1, st1⟩ := getF X0 hx hZ hown (host := "") (Or.inl (hw _ (List.mem_of_getElem? (i := 41) rfl))) Via.refl e0 Fa (g := (mkF m 1 #[.val (.ref a)] [(.ref a)])) rfl rfl (hb hby d5_1)
  have R2 : ∀ t, Steps p.tables e below (T1.setTop (mkF m 4 #[.val (.ref a)] [(.int z)])) t → Steps p.tables e below (s₁.setTop (entryFrame m #[(.ref a)] 1)) t := by
    intro t k
    refine R0 t ?_
    show Steps p.tables e below (s₁.setTop (mkF m 0 #[.val (.ref a)] [])) t
    refine XS.aloadN X0.here hx rfl (hb hby d5_0) rfl rfl ?_
    show Steps p.tables e below (s₁.setTop (mkF m 1 #[.val (.ref a)] [(.ref a)])) t
    refine st1 _ ?_
    exact k
  obtain ⟨fs, hr, hrun, hended, hW, hsame⟩ := X1.leave (v := some (.int z)) (fun h => by rw [Bd.returns] at h; cases h)
  refine ⟨_, _, R2 _ ?_, hrun, hended, _, _, rfl, ?_, ⟨_, rfl⟩, hW, hsame.mono (by decide) (by decide)⟩
  · show Steps p.tables e below (T1.setTop (mkF m 4 #[.val (.ref a)] [(.int z)])) _
    exact retOut X1 hx Bd.returns rfl (Or.inl ⟨rfl, Or.inl rfl, _, rfl⟩) (hb hby d5_4) hr
  · show Q_ord Z w0 w1 w2 w3 w4 wV kV wE a z h0 n0 _ T1.heap _
    rw [e1]
    exact ⟨rfl, N0, rfl⟩
theorem d4_0 : decode prog_11_method_4_code 0 = .ok (.aload_n 0, 1) := by decide +kernel
theorem pd_0 : parseMethodDescriptor "()I" = some ⟨[], some .int⟩ := by decide +kernel
theorem d4_1 : decode prog_11_method_4_code 1 = .ok (.invokevirtual 38, 3) := by decide +kernel
theorem d4_4 : decode prog_11_method_4_code 4 = .ok (.tableswitch 36 0 4 #[63, 46, 50, 54, 58], 36) := by decide +kernel
theorem d4_50 : decode prog_11_method_4_code 50 = .ok (.iconst 1, 1) := by decide +kernel
theorem d4_51 : decode prog_11_method_4_code 51 = .ok (.goto 26, 3) := by decide +kernel
theorem d4_77 : decode prog_11_method_4_code 77 = .ok (.ireturn, 1) := by decide +kernel
theorem pn_com_example_demarcate_demarcate_Isolation : plainName "com/example/demarcate/demarcate/Isolation" = true := by first | (simp [plainName, overriddenIn]; done) | decide +kernel
theorem ef_jl1 (m : MethodId) (a : Addr) : entryFrame m #[(.ref a)] 1 = mkF m 0 #[.val (.ref a)] [] := by first | (simp [entryFrame, mkF, argsToLocals, Value.category]; done) | rfl
def Q_jl1 (Z : State) (w0 : Addr) (w1 : Addr) (w2 : Addr) (w3 : Addr) (w4 : Addr) (wV : Addr) (kV : ClassId) (wE : Addr) (a : Addr) (h0 : Heap) (n0 : Nat) (vv_ : Option Value) (hh_ : Heap) (LL_ : List Loc) : Prop := vv_ = some (.int (1 : Int32)) ∧ (Fr n0 LL_) ∧ (hh_ = h0)
set_option maxRecDepth 65536 in
set_option maxHeartbeats 40000000 in
theorem jl1 (l : Launch) (Z : State) (a0 : Array Value) (hw : ∀ d ∈ tables_1, d.before a0 Z = true) (ws : List Jvm.Cond) (w0 : Addr) (w1 : Addr) (w2 : Addr) (w3 : Addr) (w4 : Addr) (wV : Addr) (kV : ClassId) (wE : Addr) (a : Addr) (h0 : Heap) (n0 : Nat) (O0 : Old Z n0 h0) (S_w0 : Sta Z Z.heap "com/example/demarcate/demarcate/Isolation" "DEFAULT" "Lcom/example/demarcate/demarcate/Isolation;" (.ref w0)) (S_w1 : Sta Z Z.heap "com/example/demarcate/demarcate/Isolation" "READ_UNCOMMITTED" "Lcom/example/demarcate/demarcate/Isolation;" (.ref w1)) (S_w2 : Sta Z Z.heap "com/example/demarcate/demarcate/Isolation" "READ_COMMITTED" "Lcom/example/demarcate/demarcate/Isolation;" (.ref w2)) (S_w3 : Sta Z Z.heap "com/example/demarcate/demarcate/Isolation" "REPEATABLE_READ" "Lcom/example/demarcate/demarcate/Isolation;" (.ref w3)) (S_w4 : Sta Z Z.heap "com/example/demarcate/demarcate/Isolation" "SERIALIZABLE" "Lcom/example/demarcate/demarcate/Isolation;" (.ref w4)) (E_w0 : Exa Z Z.heap w0 "com/example/demarcate/demarcate/Isolation") (E_w1 : Exa Z Z.heap w1 "com/example/demarcate/demarcate/Isolation") (E_w2 : Exa Z Z.heap w2 "com/example/demarcate/demarcate/Isolation") (E_w3 : Exa Z Z.heap w3 "com/example/demarcate/demarcate/Isolation") (E_w4 : Exa Z Z.heap w4 "com/example/demarcate/demarcate/Isolation") (F_w1 : Fld Z Z.heap w1 "java/lang/Enum" "ordinal" "I" (.int (1 : Int32))) (F_w2 : Fld Z Z.heap w2 "java/lang/Enum" "ordinal" "I" (.int (2 : Int32))) (F_w3 : Fld Z Z.heap w3 "java/lang/Enum" "ordinal" "I" (.int (3 : Int32))) (F_w4 : Fld Z Z.heap w4 "java/lang/Enum" "ordinal" "I" (.int (4 : Int32))) (S_wV : Sta Z Z.heap "com/example/demarcate/demarcate/Isolation" "$VALUES" "[Lcom/example/demarcate/demarcate/Isolation;" (.ref wV)) (E_wV : Exa Z Z.heap wV "[Lcom/example/demarcate/demarcate/Isolation;") (A_wV : Arv Z Z.heap wV kV (.object "com/example/demarcate/demarcate/Isolation") (5 : Int32) [(.ref w0), (.ref w1), (.ref w2), (.ref w3), (.ref w4)] .null) (S_wE : Sta Z Z.heap "java/util/Optional" "EMPTY" "Ljava/util/Optional;" (.ref wE)) (E_wE : Exa Z Z.heap wE "java/util/Optional") (F_wE : Fld Z Z.heap wE "java/util/Optional" "value" "Ljava/lang/Object;" .null) (ne_w1_w0 : w1 ≠ w0) (ne_w2_w0 : w2 ≠ w0) (ne_w3_w0 : w3 ≠ w0) (ne_w4_w0 : w4 ≠ w0) (Ea : Exa Z h0 a "com/example/demarcate/demarcate/Isolation") (Fa : Fld Z h0 a "java/lang/Enum" "ordinal" "I" (.int (1 : Int32))) :
    MetFree l (⟨"com/example/demarcate/demarcate/Isolation", "jdbcLevel", "()I"⟩ : MethodName) (head1 (Jvm.Cond.code (⟨"com/example/demarcate/demarcate/Isolation", "jdbcLevel", "()I"⟩ : MethodName) prog_11_method_4_code 1 (some .int) :: ws) ({ frames := 1, cells := 0, slots := 0, locals := 12 } : Room)) (fun aa_ U_ => aa_ = #[(.ref a)] ∧ Z.Warmed39 U_.vm ∧ U_.heap = h0) (fun _ _ _ _ _ => True) (fun _ U_ oo_ V_ => ∃ vv_ LL_, oo_ = .returned vv_ ∧ Q_jl1 Z w0 w1 w2 w3 w4 wV kV wE a h0 n0 vv_ V_.heap LL_ ∧ FrameEnd U_ oo_ V_ LL_ ({ frames := 1, cells := 0, slots := 0, locals := 12 } : Room).cells ({ frames := 1, cells := 0, slots := 0, locals := 12 } : Room).slots) := by
  refine MetFree.of_bodySF (plainFor_of_name pn_com_example_demarcate_demarcate_Isolation) hisR ?_
  intro p e s m args below meth c s₁ Bd hml0 hP hK
  obtain ⟨rfl, hZ, hh⟩ := hP
  have hx := Bd.exec
  have hby := Bd.bytes
  have hml : c.maxLocals = 1 := hml0
  have hown : s.vm.findClass "com/example/demarcate/demarcate/Isolation" = some m.cls := findClass_of_methodNamed Bd.named
  have hnm := (name_of_methodNamed Bd.named Bd.method).1
  have X0 : Stand p l e ({ frames := 1, cells := 0, slots := 0, locals := 12 } : Room) s m #[(.ref a)] below meth c s₁ [] 0 0 := Stand.of_body Bd
  have e0 : s₁.heap = h0 := by rw [← hh, Bd.state]; rfl
  have N0 := Fr.nil n0
  have Z0 : n0 ≤ h0.size := O0.1 ▸ O0.2.1
  have hk0 := Nat.zero_le h0.size
  have K0 : Keep h0 h0 [] := Keep.refl _ _
  have R0 : ∀ t, Steps p.tables e below (s₁.setTop (mkF m 0 #[.val (.ref a)] [])) t → Steps p.tables e below (s₁.setTop (entryFrame m #[(.ref a)] 1)) t := fun t k => castTop (ef_jl1 m a) k
  obtain ⟨cq1, kq1, q1a, q1b, q1c⟩ := isOf hZ e0 Ea
  obtain ⟨_, _, ⟨T1, L1, k1, n1⟩, -, X1, ⟨Lc1, hQ1, l1, y1, z1⟩, st1⟩ := X0.virtualBackUp hx (owner := "java/lang/Enum") (x := (⟨"com/example/demarcate/demarcate/Isolation", "ordinal", "()I"⟩ : MethodName)) (y := (⟨"java/lang/Enum", "ordinal", "()I"⟩ : MethodName)) hown (mvT hZ (hw _ (List.mem_of_getElem? (i := 34) rfl))) (mvT hZ (hw _ (List.mem_of_getElem? (i := 35) rfl))) (mvT hZ (hw _ (List.mem_of_getElem? (i := 36) rfl))) (by decide) (mvT hZ (hw _ (List.mem_of_getElem? (i := 38) rfl))) (mvT hZ (hw _ (List.mem_of_getElem? (i := 37) rfl))) (backOf (W := 0) (ord l Z a0 hw [] w0 w1 w2 w3 w4 wV kV wE a (1 : Int32) h0 n0 O0 S_w0 S_w1 S_w2 S_w3 S_w4 E_w0 E_w1 E_w2 E_w3 E_w4 F_w1 F_w2 F_w3 F_w4 S_wV E_wV A_wV S_wE E_wE F_wE ne_w1_w0 ne_w2_w0 ne_w3_w0 ne_w4_w0   Fa) hZ (hw _ (List.mem_of_getElem? (i := 40) rfl)) (hw _ (List.mem_of_getElem? (i := 39) rfl)) (by decide) (by decide)) q1a q1c (g := (mkF m 1 #[.val (.ref a)] [(.ref a)])) rfl (by rw [hml]; rfl) (Steps.refl _) (argsL := []) (rest := []) (lenOf pd_0 rfl) rfl (by show 2 * 0 + _ ≤ _; exact Nat.le_of_eq rfl) (hb hby d4_1) (fun _ _ => ⟨rfl, e0, (by decide : 0 + 0 ≤ _), (by decide : 0 + 0 ≤ _)⟩)
  dsimp only [Pt.U, Pt.locs, Pt.cells, Pt.slots] at X1 l1 y1 z1 st1 hQ1
  subst l1 y1 z1
  obtain ⟨rfl, N1q, e1⟩ := hQ1
  have N1 := Fr.app N0 N1q
  have R2 : ∀ t, Steps p.tables e below (T1.setTop (mkF m 77 #[.val (.ref a)] [(.int (1 : Int32))])) t → Steps p.tables e below (s₁.setTop (entryFrame m #[(.ref a)] 1)) t := by
    intro t k
    refine R0 t ?_
    show Steps p.tables e below (s₁.setTop (mkF m 0 #[.val (.ref a)] [])) t
    refine XS.aloadN X0.here hx rfl (hb hby d4_0) rfl rfl ?_
    show Steps p.tables e below (s₁.setTop (mkF m 1 #[.val (.ref a)] [(.ref a)])) t
    refine st1.trans ?_
    show Steps p.tables e below (T1.setTop (mkF m 4 #[.val (.ref a)] [(.int (1 : Int32))])) t
    refine XS.tswIn X1.here hx rfl (pc0 := 4) (pc' := 50) rfl (hb hby d4_4) rfl (by decide) (o := 46) rfl (by decide) (by decide) ?_
    show Steps p.tables e below (T1.setTop (mkF m 50 #[.val (.ref a)] [])) t
    refine XS.iconst X1.here hx rfl (hb hby d4_50) ?_
    show Steps p.tables e below (T1.setTop (mkF m 51 #[.val (.ref a)] [(.int (1 : Int32))])) t
    refine XS.goto X1.here hx rfl (pc0 := 51) (pc' := 77) rfl (hb hby d4_51) (by decide) (by decide) ?_
    exact k
  obtain ⟨fs, hr, hrun, hended, hW, hsame⟩ := X1.leave (v := some (.int (1 : Int32))) (fun h => by rw [Bd.returns] at h; cases h)
  refine ⟨_, _, R2 _ ?_, hrun, hended, _, _, rfl, ?_, ⟨_, rfl⟩, hW, hsame.mono (by decide) (by decide)⟩
  · show Steps p.tables e below (T1.setTop (mkF m 77 #[.val (.ref a)] [(.int (1 : Int32))])) _
    exact retOut X1 hx Bd.returns rfl (Or.inl ⟨rfl, Or.inl rfl, _, rfl⟩) (hb hby d4_77) hr
  · show Q_jl1 Z w0 w1 w2 w3 w4 wV kV wE a h0 n0 _ T1.heap _
    rw [e1]
    exact ⟨rfl, N1, rfl⟩
theorem d4_54 : decode prog_11_method_4_code 54 = .ok (.iconst 2, 1) := by decide +kernel
theorem d4_55 : decode prog_11_method_4_code 55 = .ok (.goto 22, 3) := by decide +kernel
theorem ef_jl2 (m : MethodId) (a : Addr) : entryFrame m #[(.ref a)] 1 = mkF m 0 #[.val (.ref a)] [] := by first | (simp [entryFrame, mkF, argsToLocals, Value.category]; done) | rfl
def Q_jl2 (Z : State) (w0 : Addr) (w1 : Addr) (w2 : Addr) (w3 : Addr) (w4 : Addr) (wV : Addr) (kV : ClassId) (wE : Addr) (a : Addr) (h0 : Heap) (n0 : Nat) (vv_ : Option Value) (hh_ : Heap) (LL_ : List Loc) : Prop := vv_ = some (.int (2 : Int32)) ∧ (Fr n0 LL_) ∧ (hh_ = h0)
set_option maxRecDepth 65536 in
set_option maxHeartbeats 40000000 in
theorem jl2 (l : Launch) (Z : State) (a0 : Array Value) (hw : ∀ d ∈ tables_1, d.before a0 Z = true) (ws : List Jvm.Cond) (w0 : Addr) (w1 : Addr) (w2 : Addr) (w3 : Addr) (w4 : Addr) (wV : Addr) (kV : ClassId) (wE : Addr) (a : Addr) (h0 : Heap) (n0 : Nat) (O0 : Old Z n0 h0) (S_w0 : Sta Z Z.heap "com/example/demarcate/demarcate/Isolation" "DEFAULT" "Lcom/example/demarcate/demarcate/Isolation;" (.ref w0)) (S_w1 : Sta Z Z.heap "com/example/demarcate/demarcate/Isolation" "READ_UNCOMMITTED" "Lcom/example/demarcate/demarcate/Isolation;" (.ref w1)) (S_w2 : Sta Z Z.heap "com/example/demarcate/demarcate/Isolation" "READ_COMMITTED" "Lcom/example/demarcate/demarcate/Isolation;" (.ref w2)) (S_w3 : Sta Z Z.heap "com/example/demarcate/demarcate/Isolation" "REPEATABLE_READ" "Lcom/example/demarcate/demarcate/Isolation;" (.ref w3)) (S_w4 : Sta Z Z.heap "com/example/demarcate/demarcate/Isolation" "SERIALIZABLE" "Lcom/example/demarcate/demarcate/Isolation;" (.ref w4)) (E_w0 : Exa Z Z.heap w0 "com/example/demarcate/demarcate/Isolation") (E_w1 : Exa Z Z.heap w1 "com/example/demarcate/demarcate/Isolation") (E_w2 : Exa Z Z.heap w2 "com/example/demarcate/demarcate/Isolation") (E_w3 : Exa Z Z.heap w3 "com/example/demarcate/demarcate/Isolation") (E_w4 : Exa Z Z.heap w4 "com/example/demarcate/demarcate/Isolation") (F_w1 : Fld Z Z.heap w1 "java/lang/Enum" "ordinal" "I" (.int (1 : Int32))) (F_w2 : Fld Z Z.heap w2 "java/lang/Enum" "ordinal" "I" (.int (2 : Int32))) (F_w3 : Fld Z Z.heap w3 "java/lang/Enum" "ordinal" "I" (.int (3 : Int32))) (F_w4 : Fld Z Z.heap w4 "java/lang/Enum" "ordinal" "I" (.int (4 : Int32))) (S_wV : Sta Z Z.heap "com/example/demarcate/demarcate/Isolation" "$VALUES" "[Lcom/example/demarcate/demarcate/Isolation;" (.ref wV)) (E_wV : Exa Z Z.heap wV "[Lcom/example/demarcate/demarcate/Isolation;") (A_wV : Arv Z Z.heap wV kV (.object "com/example/demarcate/demarcate/Isolation") (5 : Int32) [(.ref w0), (.ref w1), (.ref w2), (.ref w3), (.ref w4)] .null) (S_wE : Sta Z Z.heap "java/util/Optional" "EMPTY" "Ljava/util/Optional;" (.ref wE)) (E_wE : Exa Z Z.heap wE "java/util/Optional") (F_wE : Fld Z Z.heap wE "java/util/Optional" "value" "Ljava/lang/Object;" .null) (ne_w1_w0 : w1 ≠ w0) (ne_w2_w0 : w2 ≠ w0) (ne_w3_w0 : w3 ≠ w0) (ne_w4_w0 : w4 ≠ w0) (Ea : Exa Z h0 a "com/example/demarcate/demarcate/Isolation") (Fa : Fld Z h0 a "java/lang/Enum" "ordinal" "I" (.int (2 : Int32))) :
    MetFree l (⟨"com/example/demarcate/demarcate/Isolation", "jdbcLevel", "()I"⟩ : MethodName) (head1 (Jvm.Cond.code (⟨"com/example/demarcate/demarcate/Isolation", "jdbcLevel", "()I"⟩ : MethodName) prog_11_method_4_code 1 (some .int) :: ws) ({ frames := 1, cells := 0, slots := 0, locals := 12 } : Room)) (fun aa_ U_ => aa_ = #[(.ref a)] ∧ Z.Warmed39 U_.vm ∧ U_.heap = h0) (fun _ _ _ _ _ => True) (fun _ U_ oo_ V_ => ∃ vv_ LL_, oo_ = .returned vv_ ∧ Q_jl2 Z w0 w1 w2 w3 w4 wV kV wE a h0 n0 vv_ V_.heap LL_ ∧ FrameEnd U_ oo_ V_ LL_ ({ frames := 1, cells := 0, slots := 0, locals := 12 } : Room).cells ({ frames := 1, cells := 0, slots := 0, locals := 12 } : Room).slots) := by
  refine MetFree.of_bodySF (plainFor_of_name pn_com_example_demarcate_demarcate_Isolation) hisR ?_
  intro p e s m args below meth c s₁ Bd hml0 hP hK
  obtain ⟨rfl, hZ, hh⟩ := hP
  have hx := Bd.exec
  have hby := Bd.bytes
  have hml : c.maxLocals = 1 := hml0
  have hown : s.vm.findClass "com/example/demarcate/demarcate/Isolation" = some m.cls := findClass_of_methodNamed Bd.named
  have hnm := (name_of_methodNamed Bd.named Bd.method).1
  have X0 : Stand p l e ({ frames := 1, cells := 0, slots := 0, locals := 12 } : Room) s m #[(.ref a)] below meth c s₁ [] 0 0 := Stand.of_body Bd
  have e0 : s₁.heap = h0 := by rw [← hh, Bd.state]; rfl
  have N0 := Fr.nil n0
  have Z0 : n0 ≤ h0.size := O0.1 ▸ O0.2.1
  have hk0 := Nat.zero_le h0.size
  have K0 : Keep h0 h0 [] := Keep.refl _ _
  have R0 : ∀ t, Steps p.tables e below (s₁.setTop (mkF m 0 #[.val (.ref a)] [])) t → Steps p.tables e below (s₁.setTop (entryFrame m #[(.ref a)] 1)) t := fun t k => castTop (ef_jl2 m a) k
  obtain ⟨cq1, kq1, q1a, q1b, q1c⟩ := isOf hZ e0 Ea
  obtain ⟨_, _, ⟨T1, L1, k1, n1⟩, -, X1, ⟨Lc1, hQ1, l1, y1, z1⟩, st1⟩ := X0.virtualBackUp hx (owner := "java/lang/Enum") (x := (⟨"com/example/demarcate/demarcate/Isolation", "ordinal", "()I"⟩ : MethodName)) (y := (⟨"java/lang/Enum", "ordinal", "()I"⟩ : MethodName)) hown (mvT hZ (hw _ (List.mem_of_getElem? (i := 34) rfl))) (mvT hZ (hw _ (List.mem_of_getElem? (i := 35) rfl))) (mvT hZ (hw _ (List.mem_of_getElem? (i := 36) rfl))) (by decide) (mvT hZ (hw _ (List.mem_of_getElem? (i := 38) rfl))) (mvT hZ (hw _ (List.mem_of_getElem? (i := 37) rfl))) (backOf (W := 0) (ord l Z a0 hw [] w0 w1 w2 w3 w4 wV kV wE a (2 : Int32) h0 n0 O0 S_w0 S_w1 S_w2 S_w3 S_w4 E_w0 E_w1 E_w2 E_w3 E_w4 F_w1 F_w2 F_w3 F_w4 S_wV E_wV A_wV S_wE E_wE F_wE ne_w1_w0 ne_w2_w0 ne_w3_w0 ne_w4_w0   Fa) hZ (hw _ (List.mem_of_getElem? (i := 40) rfl)) (hw _ (List.mem_of_getElem? (i := 39) rfl)) (by decide) (by decide)) q1a q1c (g := (mkF m 1 #[.val (.ref a)] [(.ref a)])) rfl (by rw [hml]; rfl) (Steps.refl _) (argsL := []) (rest := []) (lenOf pd_0 rfl) rfl (by show 2 * 0 + _ ≤ _; exact Nat.le_of_eq rfl) (hb hby d4_1) (fun _ _ => ⟨rfl, e0, (by decide : 0 + 0 ≤ _), (by decide : 0 + 0 ≤ _)⟩)
  dsimp only [Pt.U, Pt.locs, Pt.cells, Pt.slots] at X1 l1 y1 z1 st1 hQ1
  subst l1 y1 z1
  obtain ⟨rfl, N1q, e1⟩ := hQ1
  have N1 := Fr.app N0 N1q
  have R2 : ∀ t, Steps p.tables e below (T1.setTop (mkF m 77 #[.val (.ref a)] [(.int (2 : Int32))])) t → Steps p.tables e below (s₁.setTop (entryFrame m #[(.ref a)] 1)) t := by
    intro t k
    refine R0 t ?_
    show Steps p.tables e below (s₁.setTop (mkF m 0 #[.val (.ref a)] [])) t
    refine XS.aloadN X0.here hx rfl (hb hby d4_0) rfl rfl ?_
    show Steps p.tables e below (s₁.setTop (mkF m 1 #[.val (.ref a)] [(.ref a)])) t
    refine st1.trans ?_
    show Steps p.tables e below (T1.setTop (mkF m 4 #[.val (.ref a)] [(.int (2 : Int32))])) t
    refine XS.tswIn X1.here hx rfl (pc0 := 4) (pc' := 54) rfl (hb hby d4_4) rfl (by decide) (o := 50) rfl (by decide) (by decide) ?_
    show Steps p.tables e below (T1.setTop (mkF m 54 #[.val (.ref a)] [])) t
    refine XS.iconst X1.here hx rfl (hb hby d4_54) ?_
    show Steps p.tables e below (T1.setTop (mkF m 55 #[.val (.ref a)] [(.int (2 : Int32))])) t
    refine XS.goto X1.here hx rfl (pc0 := 55) (pc' := 77) rfl (hb hby d4_55) (by decide) (by decide) ?_
    exact k
  obtain ⟨fs, hr, hrun, hended, hW, hsame⟩ := X1.leave (v := some (.int (2 : Int32))) (fun h => by rw [Bd.returns] at h; cases h)
  refine ⟨_, _, R2 _ ?_, hrun, hended, _, _, rfl, ?_, ⟨_, rfl⟩, hW, hsame.mono (by decide) (by decide)⟩
  · show Steps p.tables e below (T1.setTop (mkF m 77 #[.val (.ref a)] [(.int (2 : Int32))])) _
    exact retOut X1 hx Bd.returns rfl (Or.inl ⟨rfl, Or.inl rfl, _, rfl⟩) (hb hby d4_77) hr
  · show Q_jl2 Z w0 w1 w2 w3 w4 wV kV wE a h0 n0 _ T1.heap _
    rw [e1]
    exact ⟨rfl, N1, rfl⟩
theorem d4_58 : decode prog_11_method_4_code 58 = .ok (.iconst 4, 1) := by decide +kernel
theorem d4_59 : decode prog_11_method_4_code 59 = .ok (.goto 18, 3) := by decide +kernel
theorem ef_jl3 (m : MethodId) (a : Addr) : entryFrame m #[(.ref a)] 1 = mkF m 0 #[.val (.ref a)] [] := by first | (simp [entryFrame, mkF, argsToLocals, Value.category]; done) | rfl
def Q_jl3 (Z : State) (w0 : Addr) (w1 : Addr) (w2 : Addr) (w3 : Addr) (w4 : Addr) (wV : Addr) (kV : ClassId) (wE : Addr) (a : Addr) (h0 : Heap) (n0 : Nat) (vv_ : Option Value) (hh_ : Heap) (LL_ : List Loc) : Prop := vv_ = some (.int (4 : Int32)) ∧ (Fr n0 LL_) ∧ (hh_ = h0)
set_option maxRecDepth 65536 in
set_option maxHeartbeats 40000000 in
theorem jl3 (l : Launch) (Z : State) (a0 : Array Value) (hw : ∀ d ∈ tables_1, d.before a0 Z = true) (ws : List Jvm.Cond) (w0 : Addr) (w1 : Addr) (w2 : Addr) (w3 : Addr) (w4 : Addr) (wV : Addr) (kV : ClassId) (wE : Addr) (a : Addr) (h0 : Heap) (n0 : Nat) (O0 : Old Z n0 h0) (S_w0 : Sta Z Z.heap "com/example/demarcate/demarcate/Isolation" "DEFAULT" "Lcom/example/demarcate/demarcate/Isolation;" (.ref w0)) (S_w1 : Sta Z Z.heap "com/example/demarcate/demarcate/Isolation" "READ_UNCOMMITTED" "Lcom/example/demarcate/demarcate/Isolation;" (.ref w1)) (S_w2 : Sta Z Z.heap "com/example/demarcate/demarcate/Isolation" "READ_COMMITTED" "Lcom/example/demarcate/demarcate/Isolation;" (.ref w2)) (S_w3 : Sta Z Z.heap "com/example/demarcate/demarcate/Isolation" "REPEATABLE_READ" "Lcom/example/demarcate/demarcate/Isolation;" (.ref w3)) (S_w4 : Sta Z Z.heap "com/example/demarcate/demarcate/Isolation" "SERIALIZABLE" "Lcom/example/demarcate/demarcate/Isolation;" (.ref w4)) (E_w0 : Exa Z Z.heap w0 "com/example/demarcate/demarcate/Isolation") (E_w1 : Exa Z Z.heap w1 "com/example/demarcate/demarcate/Isolation") (E_w2 : Exa Z Z.heap w2 "com/example/demarcate/demarcate/Isolation") (E_w3 : Exa Z Z.heap w3 "com/example/demarcate/demarcate/Isolation") (E_w4 : Exa Z Z.heap w4 "com/example/demarcate/demarcate/Isolation") (F_w1 : Fld Z Z.heap w1 "java/lang/Enum" "ordinal" "I" (.int (1 : Int32))) (F_w2 : Fld Z Z.heap w2 "java/lang/Enum" "ordinal" "I" (.int (2 : Int32))) (F_w3 : Fld Z Z.heap w3 "java/lang/Enum" "ordinal" "I" (.int (3 : Int32))) (F_w4 : Fld Z Z.heap w4 "java/lang/Enum" "ordinal" "I" (.int (4 : Int32))) (S_wV : Sta Z Z.heap "com/example/demarcate/demarcate/Isolation" "$VALUES" "[Lcom/example/demarcate/demarcate/Isolation;" (.ref wV)) (E_wV : Exa Z Z.heap wV "[Lcom/example/demarcate/demarcate/Isolation;") (A_wV : Arv Z Z.heap wV kV (.object "com/example/demarcate/demarcate/Isolation") (5 : Int32) [(.ref w0), (.ref w1), (.ref w2), (.ref w3), (.ref w4)] .null) (S_wE : Sta Z Z.heap "java/util/Optional" "EMPTY" "Ljava/util/Optional;" (.ref wE)) (E_wE : Exa Z Z.heap wE "java/util/Optional") (F_wE : Fld Z Z.heap wE "java/util/Optional" "value" "Ljava/lang/Object;" .null) (ne_w1_w0 : w1 ≠ w0) (ne_w2_w0 : w2 ≠ w0) (ne_w3_w0 : w3 ≠ w0) (ne_w4_w0 : w4 ≠ w0) (Ea : Exa Z h0 a "com/example/demarcate/demarcate/Isolation") (Fa : Fld Z h0 a "java/lang/Enum" "ordinal" "I" (.int (3 : Int32))) :
    MetFree l (⟨"com/example/demarcate/demarcate/Isolation", "jdbcLevel", "()I"⟩ : MethodName) (head1 (Jvm.Cond.code (⟨"com/example/demarcate/demarcate/Isolation", "jdbcLevel", "()I"⟩ : MethodName) prog_11_method_4_code 1 (some .int) :: ws) ({ frames := 1, cells := 0, slots := 0, locals := 12 } : Room)) (fun aa_ U_ => aa_ = #[(.ref a)] ∧ Z.Warmed39 U_.vm ∧ U_.heap = h0) (fun _ _ _ _ _ => True) (fun _ U_ oo_ V_ => ∃ vv_ LL_, oo_ = .returned vv_ ∧ Q_jl3 Z w0 w1 w2 w3 w4 wV kV wE a h0 n0 vv_ V_.heap LL_ ∧ FrameEnd U_ oo_ V_ LL_ ({ frames := 1, cells := 0, slots := 0, locals := 12 } : Room).cells ({ frames := 1, cells := 0, slots := 0, locals := 12 } : Room).slots) := by
  refine MetFree.of_bodySF (plainFor_of_name pn_com_example_demarcate_demarcate_Isolation) hisR ?_
  intro p e s m args below meth c s₁ Bd hml0 hP hK
  obtain ⟨rfl, hZ, hh⟩ := hP
  have hx := Bd.exec
  have hby := Bd.bytes
  have hml : c.maxLocals = 1 := hml0
  have hown : s.vm.findClass "com/example/demarcate/demarcate/Isolation" = some m.cls := findClass_of_methodNamed Bd.named
  have hnm := (name_of_methodNamed Bd.named Bd.method).1
  have X0 : Stand p l e ({ frames := 1, cells := 0, slots := 0, locals := 12 } : Room) s m #[(.ref a)] below meth c s₁ [] 0 0 := Stand.of_body Bd
  have e0 : s₁.heap = h0 := by rw [← hh, Bd.state]; rfl
  have N0 := Fr.nil n0
  have Z0 : n0 ≤ h0.size := O0.1 ▸ O0.2.1
  have hk0 := Nat.zero_le h0.size
  have K0 : Keep h0 h0 [] := Keep.refl _ _
  have R0 : ∀ t, Steps p.tables e below (s₁.setTop (mkF m 0 #[.val (.ref a)] [])) t → Steps p.tables e below (s₁.setTop (entryFrame m #[(.ref a)] 1)) t := fun t k => castTop (ef_jl3 m a) k
  obtain ⟨cq1, kq1, q1a, q1b, q1c⟩ := isOf hZ e0 Ea
  obtain ⟨_, _, ⟨T1, L1, k1, n1⟩, -, X1, ⟨Lc1, hQ1, l1, y1, z1⟩, st1⟩ := X0.virtualBackUp hx (owner := "java/lang/Enum") (x := (⟨"com/example/demarcate/demarcate/Isolation", "ordinal", "()I"⟩ : MethodName)) (y := (⟨"java/lang/Enum", "ordinal", "()I"⟩ : MethodName)) hown (mvT hZ (hw _ (List.mem_of_getElem? (i := 34) rfl))) (mvT hZ (hw _ (List.mem_of_getElem? (i := 35) rfl))) (mvT hZ (hw _ (List.mem_of_getElem? (i := 36) rfl))) (by decide) (mvT hZ (hw _ (List.mem_of_getElem? (i := 38) rfl))) (mvT hZ (hw _ (List.mem_of_getElem? (i := 37) rfl))) (backOf (W := 0) (ord l Z a0 hw [] w0 w1 w2 w3 w4 wV kV wE a (3 : Int32) h0 n0 O0 S_w0 S_w1 S_w2 S_w3 S_w4 E_w0 E_w1 E_w2 E_w3 E_w4 F_w1 F_w2 F_w3 F_w4 S_wV E_wV A_wV S_wE E_wE F_wE ne_w1_w0 ne_w2_w0 ne_w3_w0 ne_w4_w0   Fa) hZ (hw _ (List.mem_of_getElem? (i := 40) rfl)) (hw _ (List.mem_of_getElem? (i := 39) rfl)) (by decide) (by decide)) q1a q1c (g := (mkF m 1 #[.val (.ref a)] [(.ref a)])) rfl (by rw [hml]; rfl) (Steps.refl _) (argsL := []) (rest := []) (lenOf pd_0 rfl) rfl (by show 2 * 0 + _ ≤ _; exact Nat.le_of_eq rfl) (hb hby d4_1) (fun _ _ => ⟨rfl, e0, (by decide : 0 + 0 ≤ _), (by decide : 0 + 0 ≤ _)⟩)
  dsimp only [Pt.U, Pt.locs, Pt.cells, Pt.slots] at X1 l1 y1 z1 st1 hQ1
  subst l1 y1 z1
  obtain ⟨rfl, N1q, e1⟩ := hQ1
  have N1 := Fr.app N0 N1q
  have R2 : ∀ t, Steps p.tables e below (T1.setTop (mkF m 77 #[.val (.ref a)] [(.int (4 : Int32))])) t → Steps p.tables e below (s₁.setTop (entryFrame m #[(.ref a)] 1)) t := by
    intro t k
    refine R0 t ?_
    show Steps p.tables e below (s₁.setTop (mkF m 0 #[.val (.ref a)] [])) t
    refine XS.aloadN X0.here hx rfl (hb hby d4_0) rfl rfl ?_
    show Steps p.tables e below (s₁.setTop (mkF m 1 #[.val (.ref a)] [(.ref a)])) t
    refine st1.trans ?_
    show Steps p.tables e below (T1.setTop (mkF m 4 #[.val (.ref a)] [(.int (3 : Int32))])) t
    refine XS.tswIn X1.here hx rfl (pc0 := 4) (pc' := 58) rfl (hb hby d4_4) rfl (by decide) (o := 54) rfl (by decide) (by decide) ?_
    show Steps p.tables e below (T1.setTop (mkF m 58 #[.val (.ref a)] [])) t
    refine XS.iconst X1.here hx rfl (hb hby d4_58) ?_
    show Steps p.tables e below (T1.setTop (mkF m 59 #[.val (.ref a)] [(.int (4 : Int32))])) t
    refine XS.goto X1.here hx rfl (pc0 := 59) (pc' := 77) rfl (hb hby d4_59) (by decide) (by decide) ?_
    exact k
  obtain ⟨fs, hr, hrun, hended, hW, hsame⟩ := X1.leave (v := some (.int (4 : Int32))) (fun h => by rw [Bd.returns] at h; cases h)
  refine ⟨_, _, R2 _ ?_, hrun, hended, _, _, rfl, ?_, ⟨_, rfl⟩, hW, hsame.mono (by decide) (by decide)⟩
  · show Steps p.tables e below (T1.setTop (mkF m 77 #[.val (.ref a)] [(.int (4 : Int32))])) _
    exact retOut X1 hx Bd.returns rfl (Or.inl ⟨rfl, Or.inl rfl, _, rfl⟩) (hb hby d4_77) hr
  · show Q_jl3 Z w0 w1 w2 w3 w4 wV kV wE a h0 n0 _ T1.heap _
    rw [e1]
    exact ⟨rfl, N1, rfl⟩
theorem d4_62 : decode prog_11_method_4_code 62 = .ok (.bipush 8, 2) := by decide +kernel
theorem d4_64 : decode prog_11_method_4_code 64 = .ok (.goto 13, 3) := by decide +kernel
theorem ef_jl4 (m : MethodId) (a : Addr) : entryFrame m #[(.ref a)] 1 = mkF m 0 #[.val (.ref a)] [] := by first | (simp [entryFrame, mkF, argsToLocals, Value.category]; done) | rfl
def Q_jl4 (Z : State) (w0 : Addr) (w1 : Addr) (w2 : Addr) (w3 : Addr) (w4 : Addr) (wV : Addr) (kV : ClassId) (wE : Addr) (a : Addr) (h0 : Heap) (n0 : Nat) (vv_ : Option Value) (hh_ : Heap) (LL_ : List Loc) : Prop := vv_ = some (.int (8 : Int32)) ∧ (Fr n0 LL_) ∧ (hh_ = h0)
set_option maxRecDepth 65536 in
set_option maxHeartbeats 40000000 in
theorem jl4 (l : Launch) (Z : State) (a0 : Array Value) (hw : ∀ d ∈ tables_1, d.before a0 Z = true) (ws : List Jvm.Cond) (w0 : Addr) (w1 : Addr) (w2 : Addr) (w3 : Addr) (w4 : Addr) (wV : Addr) (kV : ClassId) (wE : Addr) (a : Addr) (h0 : Heap) (n0 : Nat) (O0 : Old Z n0 h0) (S_w0 : Sta Z Z.heap "com/example/demarcate/demarcate/Isolation" "DEFAULT" "Lcom/example/demarcate/demarcate/Isolation;" (.ref w0)) (S_w1 : Sta Z Z.heap "com/example/demarcate/demarcate/Isolation" "READ_UNCOMMITTED" "Lcom/example/demarcate/demarcate/Isolation;" (.ref w1)) (S_w2 : Sta Z Z.heap "com/example/demarcate/demarcate/Isolation" "READ_COMMITTED" "Lcom/example/demarcate/demarcate/Isolation;" (.ref w2)) (S_w3 : Sta Z Z.heap "com/example/demarcate/demarcate/Isolation" "REPEATABLE_READ" "Lcom/example/demarcate/demarcate/Isolation;" (.ref w3)) (S_w4 : Sta Z Z.heap "com/example/demarcate/demarcate/Isolation" "SERIALIZABLE" "Lcom/example/demarcate/demarcate/Isolation;" (.ref w4)) (E_w0 : Exa Z Z.heap w0 "com/example/demarcate/demarcate/Isolation") (E_w1 : Exa Z Z.heap w1 "com/example/demarcate/demarcate/Isolation") (E_w2 : Exa Z Z.heap w2 "com/example/demarcate/demarcate/Isolation") (E_w3 : Exa Z Z.heap w3 "com/example/demarcate/demarcate/Isolation") (E_w4 : Exa Z Z.heap w4 "com/example/demarcate/demarcate/Isolation") (F_w1 : Fld Z Z.heap w1 "java/lang/Enum" "ordinal" "I" (.int (1 : Int32))) (F_w2 : Fld Z Z.heap w2 "java/lang/Enum" "ordinal" "I" (.int (2 : Int32))) (F_w3 : Fld Z Z.heap w3 "java/lang/Enum" "ordinal" "I" (.int (3 : Int32))) (F_w4 : Fld Z Z.heap w4 "java/lang/Enum" "ordinal" "I" (.int (4 : Int32))) (S_wV : Sta Z Z.heap "com/example/demarcate/demarcate/Isolation" "$VALUES" "[Lcom/example/demarcate/demarcate/Isolation;" (.ref wV)) (E_wV : Exa Z Z.heap wV "[Lcom/example/demarcate/demarcate/Isolation;") (A_wV : Arv Z Z.heap wV kV (.object "com/example/demarcate/demarcate/Isolation") (5 : Int32) [(.ref w0), (.ref w1), (.ref w2), (.ref w3), (.ref w4)] .null) (S_wE : Sta Z Z.heap "java/util/Optional" "EMPTY" "Ljava/util/Optional;" (.ref wE)) (E_wE : Exa Z Z.heap wE "java/util/Optional") (F_wE : Fld Z Z.heap wE "java/util/Optional" "value" "Ljava/lang/Object;" .null) (ne_w1_w0 : w1 ≠ w0) (ne_w2_w0 : w2 ≠ w0) (ne_w3_w0 : w3 ≠ w0) (ne_w4_w0 : w4 ≠ w0) (Ea : Exa Z h0 a "com/example/demarcate/demarcate/Isolation") (Fa : Fld Z h0 a "java/lang/Enum" "ordinal" "I" (.int (4 : Int32))) :
    MetFree l (⟨"com/example/demarcate/demarcate/Isolation", "jdbcLevel", "()I"⟩ : MethodName) (head1 (Jvm.Cond.code (⟨"com/example/demarcate/demarcate/Isolation", "jdbcLevel", "()I"⟩ : MethodName) prog_11_method_4_code 1 (some .int) :: ws) ({ frames := 1, cells := 0, slots := 0, locals := 12 } : Room)) (fun aa_ U_ => aa_ = #[(.ref a)] ∧ Z.Warmed39 U_.vm ∧ U_.heap = h0) (fun _ _ _ _ _ => True) (fun _ U_ oo_ V_ => ∃ vv_ LL_, oo_ = .returned vv_ ∧ Q_jl4 Z w0 w1 w2 w3 w4 wV kV wE a h0 n0 vv_ V_.heap LL_ ∧ FrameEnd U_ oo_ V_ LL_ ({ frames := 1, cells := 0, slots := 0, locals := 12 } : Room).cells ({ frames := 1, cells := 0, slots := 0, locals := 12 } : Room).slots) := by
  refine MetFree.of_bodySF (plainFor_of_name pn_com_example_demarcate_demarcate_Isolation) hisR ?_
  intro p e s m args below meth c s₁ Bd hml0 hP hK
  obtain ⟨rfl, hZ, hh⟩ := hP
  have hx := Bd.exec
  have hby := Bd.bytes
  have hml : c.maxLocals = 1 := hml0
  have hown : s.vm.findClass "com/example/demarcate/demarcate/Isolation" = some m.cls := findClass_of_methodNamed Bd.named
  have hnm := (name_of_methodNamed Bd.named Bd.method).1
  have X0 : Stand p l e ({ frames := 1, cells := 0, slots := 0, locals := 12 } : Room) s m #[(.ref a)] below meth c s₁ [] 0 0 := Stand.of_body Bd
  have e0 : s₁.heap = h0 := by rw [← hh, Bd.state]; rfl
  have N0 := Fr.nil n0
  have Z0 : n0 ≤ h0.size := O0.1 ▸ O0.2.1
  have hk0 := Nat.zero_le h0.size
  have K0 : Keep h0 h0 [] := Keep.refl _ _
  have R0 : ∀ t, Steps p.tables e below (s₁.setTop (mkF m 0 #[.val (.ref a)] [])) t → Steps p.tables e below (s₁.setTop (entryFrame m #[(.ref a)] 1)) t := fun t k => castTop (ef_jl4 m a) k
  obtain ⟨cq1, kq1, q1a, q1b, q1c⟩ := isOf hZ e0 Ea
  obtain ⟨_, _, ⟨T1, L1, k1, n1⟩, -, X1, ⟨Lc1, hQ1, l1, y1, z1⟩, st1⟩ := X0.virtualBackUp hx (owner := "java/lang/Enum") (x := (⟨"com/example/demarcate/demarcate/Isolation", "ordinal", "()I"⟩ : MethodName)) (y := (⟨"java/lang/Enum", "ordinal", "()I"⟩ : MethodName)) hown (mvT hZ (hw _ (List.mem_of_getElem? (i := 34) rfl))) (mvT hZ (hw _ (List.mem_of_getElem? (i := 35) rfl))) (mvT hZ (hw _ (List.mem_of_getElem? (i := 36) rfl))) (by decide) (mvT hZ (hw _ (List.mem_of_getElem? (i := 38) rfl))) (mvT hZ (hw _ (List.mem_of_getElem? (i := 37) rfl))) (backOf (W := 0) (ord l Z a0 hw [] w0 w1 w2 w3 w4 wV kV wE a (4 : Int32) h0 n0 O0 S_w0 S_w1 S_w2 S_w3 S_w4 E_w0 E_w1 E_w2 E_w3 E_w4 F_w1 F_w2 F_w3 F_w4 S_wV E_wV A_wV S_wE E_wE F_wE ne_w1_w0 ne_w2_w0 ne_w3_w0 ne_w4_w0   Fa) hZ (hw _ (List.mem_of_getElem? (i := 40) rfl)) (hw _ (List.mem_of_getElem? (i := 39) rfl)) (by decide) (by decide)) q1a q1c (g := (mkF m 1 #[.val (.ref a)] [(.ref a)])) rfl (by rw [hml]; rfl) (Steps.refl _) (argsL := []) (rest := []) (lenOf pd_0 rfl) rfl (by show 2 * 0 + _ ≤ _; exact Nat.le_of_eq rfl) (hb hby d4_1) (fun _ _ => ⟨rfl, e0, (by decide : 0 + 0 ≤ _), (by decide : 0 + 0 ≤ _)⟩)
  dsimp only [Pt.U, Pt.locs, Pt.cells, Pt.slots] at X1 l1 y1 z1 st1 hQ1
  subst l1 y1 z1
  obtain ⟨rfl, N1q, e1⟩ := hQ1
  have N1 := Fr.app N0 N1q
  have R2 : ∀ t, Steps p.tables e below (T1.setTop (mkF m 77 #[.val (.ref a)] [(.int (8 : Int32))])) t → Steps p.tables e below (s₁.setTop (entryFrame m #[(.ref a)] 1)) t := by
    intro t k
    refine R0 t ?_
    show Steps p.tables e below (s₁.setTop (mkF m 0 #[.val (.ref a)] [])) t
    refine XS.aloadN X0.here hx rfl (hb hby d4_0) rfl rfl ?_
    show Steps p.tables e below (s₁.setTop (mkF m 1 #[.val (.ref a)] [(.ref a)])) t
    refine st1.trans ?_
    show Steps p.tables e below (T1.setTop (mkF m 4 #[.val (.ref a)] [(.int (4 : Int32))])) t
    refine XS.tswIn X1.here hx rfl (pc0 := 4) (pc' := 62) rfl (hb hby d4_4) rfl (by decide) (o := 58) rfl (by decide) (by decide) ?_
    show Steps p.tables e below (T1.setTop (mkF m 62 #[.val (.ref a)] [])) t
    refine XS.bipush X1.here hx rfl (hb hby d4_62) ?_
    show Steps p.tables e below (T1.setTop (mkF m 64 #[.val (.ref a)] [(.int (8 : Int32))])) t
    refine XS.goto X1.here hx rfl (pc0 := 64) (pc' := 77) rfl (hb hby d4_64) (by decide) (by decide) ?_
    exact k
  obtain ⟨fs, hr, hrun, hended, hW, hsame⟩ := X1.leave (v := some (.int (8 : Int32))) (fun h => by rw [Bd.returns] at h; cases h)
  refine ⟨_, _, R2 _ ?_, hrun, hended, _, _, rfl, ?_, ⟨_, rfl⟩, hW, hsame.mono (by decide) (by decide)⟩
  · show Steps p.tables e below (T1.setTop (mkF m 77 #[.val (.ref a)] [(.int (8 : Int32))])) _
    exact retOut X1 hx Bd.returns rfl (Or.inl ⟨rfl, Or.inl rfl, _, rfl⟩) (hb hby d4_77) hr
  · show Q_jl4 Z w0 w1 w2 w3 w4 wV kV wE a h0 n0 _ T1.heap _
    rw [e1]
    exact ⟨rfl, N1, rfl⟩
theorem d3_0 : decode prog_11_method_1_code 0 = .ok (.getstatic 19, 3) := by decide +kernel
theorem d3_3 : decode prog_11_method_1_code 3 = .ok (.invokevirtual 23, 3) := by decide +kernel
theorem d3_6 : decode prog_11_method_1_code 6 = .ok (.checkcast 24, 3) := by decide +kernel
theorem d3_9 : decode prog_11_method_1_code 9 = .ok (.areturn, 1) := by decide +kernel
theorem ef_values (m : MethodId)  : entryFrame m #[] 0 = mkF m 0 #[] [] := by first | (simp [entryFrame, mkF, argsToLocals, Value.category]; done) | rfl
def Q_values (Z : State) (w0 : Addr) (w1 : Addr) (w2 : Addr) (w3 : Addr) (w4 : Addr) (wV : Addr) (kV : ClassId) (wE : Addr)  (h0 : Heap) (n0 : Nat) (vv_ : Option Value) (hh_ : Heap) (LL_ : List Loc) : Prop := ∃ (b : Addr), vv_ = some (.ref b) ∧ (Fr n0 LL_) ∧ (Keep h0 hh_ []) ∧ (h0.size ≤ b) ∧ (Exa Z hh_ b "[Lcom/example/demarcate/demarcate/Isolation;") ∧ (Arv Z hh_ b kV (.object "com/example/demarcate/demarcate/Isolation") (5 : Int32) [(.ref w0), (.ref w1), (.ref w2), (.ref w3), (.ref w4)] .null)
set_option maxRecDepth 65536 in
set_option maxHeartbeats 40000000 in
theorem values (l : Launch) (Z : State) (a0 : Array Value) (hw : ∀ d ∈ tables_1, d.before a0 Z = true) (ws : List Jvm.Cond) (w0 : Addr) (w1 : Addr) (w2 : Addr) (w3 : Addr) (w4 : Addr) (wV : Addr) (kV : ClassId) (wE : Addr)  (h0 : Heap) (n0 : Nat) (O0 : Old Z n0 h0) (S_w0 : Sta Z Z.heap "com/example/demarcate/demarcate/Isolation" "DEFAULT" "Lcom/example/demarcate/demarcate/Isolation;" (.ref w0)) (S_w1 : Sta Z Z.heap "com/example/demarcate/demarcate/Isolation" "READ_UNCOMMITTED" "Lcom/example/demarcate/demarcate/Isolation;" (.ref w1)) (S_w2 : Sta Z Z.heap "com/example/demarcate/demarcate/Isolation" "READ_COMMITTED" "Lcom/example/demarcate/demarcate/Isolation;" (.ref w2)) (S_w3 : Sta Z Z.heap "com/example/demarcate/demarcate/Isolation" "REPEATABLE_READ" "Lcom/example/demarcate/demarcate/Isolation;" (.ref w3)) (S_w4 : Sta Z Z.heap "com/example/demarcate/demarcate/Isolation" "SERIALIZABLE" "Lcom/example/demarcate/demarcate/Isolation;" (.ref w4)) (E_w0 : Exa Z Z.heap w0 "com/example/demarcate/demarcate/Isolation") (E_w1 : Exa Z Z.heap w1 "com/example/demarcate/demarcate/Isolation") (E_w2 : Exa Z Z.heap w2 "com/example/demarcate/demarcate/Isolation") (E_w3 : Exa Z Z.heap w3 "com/example/demarcate/demarcate/Isolation") (E_w4 : Exa Z Z.heap w4 "com/example/demarcate/demarcate/Isolation") (F_w1 : Fld Z Z.heap w1 "java/lang/Enum" "ordinal" "I" (.int (1 : Int32))) (F_w2 : Fld Z Z.heap w2 "java/lang/Enum" "ordinal" "I" (.int (2 : Int32))) (F_w3 : Fld Z Z.heap w3 "java/lang/Enum" "ordinal" "I" (.int (3 : Int32))) (F_w4 : Fld Z Z.heap w4 "java/lang/Enum" "ordinal" "I" (.int (4 : Int32))) (S_wV : Sta Z Z.heap "com/example/demarcate/demarcate/Isolation" "$VALUES" "[Lcom/example/demarcate/demarcate/Isolation;" (.ref wV)) (E_wV : Exa Z Z.heap wV "[Lcom/example/demarcate/demarcate/Isolation;") (A_wV : Arv Z Z.heap wV kV (.object "com/example/demarcate/demarcate/Isolation") (5 : Int32) [(.ref w0), (.ref w1), (.ref w2), (.ref w3), (.ref w4)] .null) (S_wE : Sta Z Z.heap "java/util/Optional" "EMPTY" "Ljava/util/Optional;" (.ref wE)) (E_wE : Exa Z Z.heap wE "java/util/Optional") (F_wE : Fld Z Z.heap wE "java/util/Optional" "value" "Ljava/lang/Object;" .null) (ne_w1_w0 : w1 ≠ w0) (ne_w2_w0 : w2 ≠ w0) (ne_w3_w0 : w3 ≠ w0) (ne_w4_w0 : w4 ≠ w0) :
    MetFree l (⟨"com/example/demarcate/demarcate/Isolation", "values", "()[Lcom/example/demarcate/demarcate/Isolation;"⟩ : MethodName) (head1 (Jvm.Cond.code (⟨"com/example/demarcate/demarcate/Isolation", "values", "()[Lcom/example/demarcate/demarcate/Isolation;"⟩ : MethodName) prog_11_method_1_code 0 (some (.array (.object "com/example/demarcate/demarcate/Isolation"))) :: ws) ({ frames := 1, cells := 1, slots := 5, locals := 14 } : Room)) (fun aa_ U_ => aa_ = #[] ∧ Z.Warmed39 U_.vm ∧ U_.heap = h0) (fun _ _ _ _ _ => True) (fun _ U_ oo_ V_ => ∃ vv_ LL_, oo_ = .returned vv_ ∧ Q_values Z w0 w1 w2 w3 w4 wV kV wE  h0 n0 vv_ V_.heap LL_ ∧ FrameEnd U_ oo_ V_ LL_ ({ frames := 1, cells := 1, slots := 5, locals := 14 } : Room).cells ({ frames := 1, cells := 1, slots := 5, locals := 14 } : Room).slots) := by
  refine MetFree.of_bodySF (plainFor_of_name pn_com_example_demarcate_demarcate_Isolation) hisR ?_
  intro p e s m args below meth c s₁ Bd hml0 hP hK
  obtain ⟨rfl, hZ, hh⟩ := hP
  have hx := Bd.exec
  have hby := Bd.bytes
  have hml : c.maxLocals = 0 := hml0
  have hown : s.vm.findClass "com/example/demarcate/demarcate/Isolation" = some m.cls := findClass_of_methodNamed Bd.named
  have hnm := (name_of_methodNamed Bd.named Bd.method).1
  have X0 : Stand p l e ({ frames := 1, cells := 1, slots := 5, locals := 14 } : Room) s m #[] below meth c s₁ [] 0 0 := Stand.of_body Bd
  have e0 : s₁.heap = h0 := by rw [← hh, Bd.state]; rfl
  have N0 := Fr.nil n0
  have Z0 : n0 ≤ h0.size := O0.1 ▸ O0.2.1
  have hk0 := Nat.zero_le h0.size
  have K0 : Keep h0 h0 [] := Keep.refl _ _
  have R0 : ∀ t, Steps p.tables e below (s₁.setTop (mkF m 0 #[] [])) t → Steps p.tables e below (s₁.setTop (entryFrame m #[] 0)) t := fun t k => castTop (ef_values m ) k
  obtain ⟨T1, X1, e1, st1⟩ := getS2 X0 hx hZ hown (host := "") (Or.inl (hw _ (List.mem_of_getElem? (i := 11) rfl))) Via.refl e0 (S_wV.ext O0.2) (g := (mkF m 0 #[] [])) rfl (hb hby d3_0)
  obtain ⟨T2, h2, X2, e2, E2, Ah2, A2, st2⟩ := cloneH X1 hx hZ hown (hw _ (List.mem_of_getElem? (i := 13) rfl)) (hw _ (List.mem_of_getElem? (i := 14) rfl)) (hw _ (List.mem_of_getElem? (i := 18) rfl)) (hw _ (List.mem_of_getElem? (i := 16) rfl)) (hw _ (List.mem_of_getElem? (i := 17) rfl)) (hw _ (List.mem_of_getElem? (i := 19) rfl)) e1 (A_wV.ext O0.2).arh (E_wV.ext O0.2) (g := (mkF m 3 #[] [(.ref wV)])) rfl (by rw [hml]; rfl) rfl (hb hby d3_3) (by decide) (W := 0) (cap := 5) (by show 2 * 0 + _ ≤ _; exact Nat.le_of_eq rfl) (by decide) (by decide) (by decide) (by decide)
  obtain ⟨b2, gg2⟩ : ∃ z, z = h0.size := ⟨_, rfl⟩
  rw [← gg2] at Ah2 A2 st2
  have g_b2 : n0 ≤ b2 := Nat.le_trans Z0 (Nat.le_of_eq gg2.symm)
  have sz_b2 : h0.size ≤ b2 := Nat.le_trans K0.1 (Nat.le_of_eq gg2.symm)
  have Z2 : n0 ≤ h2.size := Nat.le_trans Z0 E2.1
  have K2 : Keep h0 h2 [] := K0.ext E2
  have O2 : Old Z n0 h2 := O0.ext E2
  have V2 : Arv Z h2 b2 kV (.object "com/example/demarcate/demarcate/Isolation") (5 : Int32) [(.ref w0), (.ref w1), (.ref w2), (.ref w3), (.ref w4)] .null := by
    obtain ⟨cq, Aq, rq⟩ := Ah2
    exact ⟨cq, Aq, rq⟩
  obtain ⟨T3, X3, e3, st3⟩ := castY X2 hx hZ hown (hw _ (List.mem_of_getElem? (i := 26) rfl)) e2 (Ins.self A2) (g := (mkF m 6 #[] [(.ref b2)])) rfl rfl (hb hby d3_6)
  have R4 : ∀ t, Steps p.tables e below (T3.setTop (mkF m 9 #[] [(.ref b2)])) t → Steps p.tables e below (s₁.setTop (entryFrame m #[] 0)) t := by
    intro t k
    refine R0 t ?_
    show Steps p.tables e below (s₁.setTop (mkF m 0 #[] [])) t
    refine st1 _ ?_
    show Steps p.tables e below (T1.setTop (mkF m 3 #[] [(.ref wV)])) t
    refine st2 _ ?_
    show Steps p.tables e below (T2.setTop (mkF m 6 #[] [(.ref b2)])) t
    refine st3 _ ?_
    exact k
  obtain ⟨fs, hr, hrun, hended, hW, hsame⟩ := X3.leave (v := some (.ref b2)) (fun h => by rw [Bd.returns] at h; cases h)
  refine ⟨_, _, R4 _ ?_, hrun, hended, _, _, rfl, ?_, ⟨_, rfl⟩, hW, hsame.mono (by decide) (by decide)⟩
  · show Steps p.tables e below (T3.setTop (mkF m 9 #[] [(.ref b2)])) _
    exact retOut X3 hx Bd.returns rfl (Or.inr (Or.inr (Or.inr (Or.inr ⟨rfl, rfl, rfl⟩)))) (hb hby d3_9) hr
  · show Q_values Z w0 w1 w2 w3 w4 wV kV wE  h0 n0 _ T3.heap _
    rw [e3]
    exact ⟨b2, rfl, N0, K2, sz_b2, A2, V2⟩
theorem d8_0 : decode jdk_32_method_2_code 0 = .ok (.aload_n 0, 1) := by decide +kernel
theorem d8_1 : decode jdk_32_method_2_code 1 = .ok (.invokespecial 7, 3) := by decide +kernel
theorem d8_4 : decode jdk_32_method_2_code 4 = .ok (.aload_n 0, 1) := by decide +kernel
theorem d8_5 : decode jdk_32_method_2_code 5 = .ok (.aload_n 1, 1) := by decide +kernel
theorem d8_6 : decode jdk_32_method_2_code 6 = .ok (.putfield 13, 3) := by decide +kernel
theorem d8_9 : decode jdk_32_method_2_code 9 = .ok (.return_, 1) := by decide +kernel
theorem pn_java_util_Optional : plainName "java/util/Optional" = true := by first | (simp [plainName, overriddenIn]; done) | decide +kernel
theorem ef_oinit (m : MethodId) (a : Addr) (z : Addr) (u1 : Value) : entryFrame m #[(.ref a), (.ref z)] 2 = mkF m 0 #[.val (.ref a), .val (.ref z)] [] := by first | (simp [entryFrame, mkF, argsToLocals, Value.category]; done) | rfl
def Q_oinit (Z : State) (w0 : Addr) (w1 : Addr) (w2 : Addr) (w3 : Addr) (w4 : Addr) (wV : Addr) (kV : ClassId) (wE : Addr) (a : Addr) (z : Addr) (u1 : Value) (h0 : Heap) (n0 : Nat) (vv_ : Option Value) (hh_ : Heap) (LL_ : List Loc) : Prop := vv_ = none ∧ (Fr n0 LL_) ∧ (Keep h0 hh_ [a]) ∧ (Exa Z hh_ a "java/util/Optional") ∧ (Fld Z hh_ a "java/util/Optional" "value" "Ljava/lang/Object;" (.ref z))
set_option maxRecDepth 65536 in
set_option maxHeartbeats 40000000 in
theorem oinit (l : Launch) (Z : State) (a0 : Array Value) (hw : ∀ d ∈ tables_1, d.before a0 Z = true) (ws : List Jvm.Cond) (w0 : Addr) (w1 : Addr) (w2 : Addr) (w3 : Addr) (w4 : Addr) (wV : Addr) (kV : ClassId) (wE : Addr) (a : Addr) (z : Addr) (u1 : Value) (h0 : Heap) (n0 : Nat) (O0 : Old Z n0 h0) (S_w0 : Sta Z Z.heap "com/example/demarcate/demarcate/Isolation" "DEFAULT" "Lcom/example/demarcate/demarcate/Isolation;" (.ref w0)) (S_w1 : Sta Z Z.heap "com/example/demarcate/demarcate/Isolation" "READ_UNCOMMITTED" "Lcom/example/demarcate/demarcate/Isolation;" (.ref w1)) (S_w2 : Sta Z Z.heap "com/example/demarcate/demarcate/Isolation" "READ_COMMITTED" "Lcom/example/demarcate/demarcate/Isolation;" (.ref w2)) (S_w3 : Sta Z Z.heap "com/example/demarcate/demarcate/Isolation" "REPEATABLE_READ" "Lcom/example/demarcate/demarcate/Isolation;" (.ref w3)) (S_w4 : Sta Z Z.heap "com/example/demarcate/demarcate/Isolation" "SERIALIZABLE" "Lcom/example/demarcate/demarcate/Isolation;" (.ref w4)) (E_w0 : Exa Z Z.heap w0 "com/example/demarcate/demarcate/Isolation") (E_w1 : Exa Z Z.heap w1 "com/example/demarcate/demarcate/Isolation") (E_w2 : Exa Z Z.heap w2 "com/example/demarcate/demarcate/Isolation") (E_w3 : Exa Z Z.heap w3 "com/example/demarcate/demarcate/Isolation") (E_w4 : Exa Z Z.heap w4 "com/example/demarcate/demarcate/Isolation") (F_w1 : Fld Z Z.heap w1 "java/lang/Enum" "ordinal" "I" (.int (1 : Int32))) (F_w2 : Fld Z Z.heap w2 "java/lang/Enum" "ordinal" "I" (.int (2 : Int32))) (F_w3 : Fld Z Z.heap w3 "java/lang/Enum" "ordinal" "I" (.int (3 : Int32))) (F_w4 : Fld Z Z.heap w4 "java/lang/Enum" "ordinal" "I" (.int (4 : Int32))) (S_wV : Sta Z Z.heap "com/example/demarcate/demarcate/Isolation" "$VALUES" "[Lcom/example/demarcate/demarcate/Isolation;" (.ref wV)) (E_wV : Exa Z Z.heap wV "[Lcom/example/demarcate/demarcate/Isolation;") (A_wV : Arv Z Z.heap wV kV (.object "com/example/demarcate/demarcate/Isolation") (5 : Int32) [(.ref w0), (.ref w1), (.ref w2), (.ref w3), (.ref w4)] .null) (S_wE : Sta Z Z.heap "java/util/Optional" "EMPTY" "Ljava/util/Optional;" (.ref wE)) (E_wE : Exa Z Z.heap wE "java/util/Optional") (F_wE : Fld Z Z.heap wE "java/util/Optional" "value" "Ljava/lang/Object;" .null) (ne_w1_w0 : w1 ≠ w0) (ne_w2_w0 : w2 ≠ w0) (ne_w3_w0 : w3 ≠ w0) (ne_w4_w0 : w4 ≠ w0) (g_a : n0 ≤ a) (Ea : Exa Z h0 a "java/util/Optional") (Fa : Fld Z h0 a "java/util/Optional" "value" "Ljava/lang/Object;" u1) :
    MetFree l (⟨"java/util/Optional", "<init>", "(Ljava/lang/Object;)V"⟩ : MethodName) (head1 (Jvm.Cond.code (⟨"java/util/Optional", "<init>", "(Ljava/lang/Object;)V"⟩ : MethodName) jdk_32_method_2_code 2 none :: ws) ({ frames := 1, cells := 0, slots := 0, locals := 12 } : Room)) (fun aa_ U_ => aa_ = #[(.ref a), (.ref z)] ∧ Z.Warmed39 U_.vm ∧ U_.heap = h0) (fun _ _ _ _ _ => True) (fun _ U_ oo_ V_ => ∃ vv_ LL_, oo_ = .returned vv_ ∧ Q_oinit Z w0 w1 w2 w3 w4 wV kV wE a z u1 h0 n0 vv_ V_.heap LL_ ∧ FrameEnd U_ oo_ V_ LL_ ({ frames := 1, cells := 0, slots := 0, locals := 12 } : Room).cells ({ frames := 1, cells := 0, slots := 0, locals := 12 } : Room).slots) := by
  refine MetFree.of_bodySF (plainFor_of_name pn_java_util_Optional) hisR ?_
  intro p e s m args below meth c s₁ Bd hml0 hP hK
  obtain ⟨rfl, hZ, hh⟩ := hP
  have hx := Bd.exec
  have hby := Bd.bytes
  have hml : c.maxLocals = 2 := hml0
  have hown : s.vm.findClass "java/util/Optional" = some m.cls := findClass_of_methodNamed Bd.named
  have hnm := (name_of_methodNamed Bd.named Bd.method).1
  have X0 : Stand p l e ({ frames := 1, cells := 0, slots := 0, locals := 12 } : Room) s m #[(.ref a), (.ref z)] below meth c s₁ [] 0 0 := Stand.of_body Bd
  have e0 : s₁.heap = h0 := by rw [← hh, Bd.state]; rfl
  have N0 := Fr.nil n0
  have Z0 : n0 ≤ h0.size := O0.1 ▸ O0.2.1
  have hk0 := Nat.zero_le h0.size
  have K0 : Keep h0 h0 [a] := Keep.refl _ _
  have R0 : ∀ t, Steps p.tables e below (s₁.setTop (mkF m 0 #[.val (.ref a), .val (.ref z)] [])) t → Steps p.tables e below (s₁.setTop (entryFrame m #[(.ref a), (.ref z)] 2)) t := fun t k => castTop (ef_oinit m a z u1) k
  obtain ⟨T1, X1, e1, st1⟩ := initO X0 hx hZ hown (hw _ (List.mem_of_getElem? (i := 62) rfl)) (hw _ (List.mem_of_getElem? (i := 63) rfl)) (hw _ (List.mem_of_getElem? (i := 64) rfl)) e0 (g := (mkF m 1 #[.val (.ref a), .val (.ref z)] [(.ref a)])) rfl (by rw [hml]; rfl) rfl (hb hby d8_1) (by decide) (W := 0) (by show 2 * 0 + _ ≤ _; exact Nat.le_of_eq rfl) (by decide)
  obtain ⟨T2, h2, X2, e2, W2, st2⟩ := putF X1 hx hZ hown (host := "") (Or.inl (hw _ (List.mem_of_getElem? (i := 53) rfl))) Via.refl e1 Fa Ea (Or.inr ⟨(hw _ (List.mem_of_getElem? (i := 54) rfl)), rfl, hnm⟩) (hw _ (List.mem_of_getElem? (i := 57) rfl)) (ty := (.object "java/lang/Object")) (by decide) rfl rfl (g := (mkF m 6 #[.val (.ref a), .val (.ref z)] [(.ref z), (.ref a)])) rfl rfl (hb hby d8_6)
  have Z2 : n0 ≤ h2.size := Nat.le_trans Z0 (Keep.of_wr W2).1
  have K2 : Keep h0 h2 [a] := K0.wr W2 (Or.inl (List.mem_of_getElem? (i := 0) rfl))
  have O2 : Old Z n0 h2 := O0.wr W2 g_a
  have N2 := Fr.snoc X2 N0 g_a
  have fw2 : Fld Z h2 a "java/util/Optional" "value" "Ljava/lang/Object;" (.ref z) := Fa.same W2
  have R3 : ∀ t, Steps p.tables e below (T2.setTop (mkF m 9 #[.val (.ref a), .val (.ref z)] [])) t → Steps p.tables e below (s₁.setTop (entryFrame m #[(.ref a), (.ref z)] 2)) t := by
    intro t k
    refine R0 t ?_
    show Steps p.tables e below (s₁.setTop (mkF m 0 #[.val (.ref a), .val (.ref z)] [])) t
    refine XS.aloadN X0.here hx rfl (hb hby d8_0) rfl rfl ?_
    show Steps p.tables e below (s₁.setTop (mkF m 1 #[.val (.ref a), .val (.ref z)] [(.ref a)])) t
    refine st1 _ ?_
    show Steps p.tables e below (T1.setTop (mkF m 4 #[.val (.ref a), .val (.ref z)] [])) t
    refine XS.aloadN X1.here hx rfl (hb hby d8_4) rfl rfl ?_
    show Steps p.tables e below (T1.setTop (mkF m 5 #[.val (.ref a), .val (.ref z)] [(.ref a)])) t
    refine XS.aloadN X1.here hx rfl (hb hby d8_5) rfl rfl ?_
    show Steps p.tables e below (T1.setTop (mkF m 6 #[.val (.ref a), .val (.ref z)] [(.ref z), (.ref a)])) t
    refine st2 _ ?_
    exact k
  have f4 : Exa Z h2 a "java/util/Optional" := (Ea.wr W2)
  obtain ⟨fs, hr, hrun, hended, hW, hsame⟩ := X2.leave (v := none) (fun _ => rfl)
  refine ⟨_, _, R3 _ ?_, hrun, hended, _, _, rfl, ?_, ⟨_, rfl⟩, hW, hsame.mono (by decide) (by decide)⟩
  · show Steps p.tables e below (T2.setTop (mkF m 9 #[.val (.ref a), .val (.ref z)] [])) _
    exact X2.returnOut hx Bd.returns (hb hby d8_9) hr
  · show Q_oinit Z w0 w1 w2 w3 w4 wV kV wE a z u1 h0 n0 _ T2.heap _
    rw [e2]
    exact ⟨rfl, N2, K2, f4, fw2⟩
theorem d6_0 : decode jdk_32_method_4_code 0 = .ok (.aload_n 0, 1) := by decide +kernel
theorem d6_1 : decode jdk_32_method_4_code 1 = .ok (.ifnonnull 9, 3) := by decide +kernel
theorem d6_4 : decode jdk_32_method_4_code 4 = .ok (.getstatic 1, 3) := by decide +kernel
theorem d6_7 : decode jdk_32_method_4_code 7 = .ok (.goto 11, 3) := by decide +kernel
theorem d6_18 : decode jdk_32_method_4_code 18 = .ok (.areturn, 1) := by decide +kernel
theorem ef_onN (m : MethodId)  : entryFrame m #[.null] 1 = mkF m 0 #[.val .null] [] := by first | (simp [entryFrame, mkF, argsToLocals, Value.category]; done) | rfl
def Q_onN (Z : State) (w0 : Addr) (w1 : Addr) (w2 : Addr) (w3 : Addr) (w4 : Addr) (wV : Addr) (kV : ClassId) (wE : Addr)  (h0 : Heap) (n0 : Nat) (vv_ : Option Value) (hh_ : Heap) (LL_ : List Loc) : Prop := vv_ = some (.ref wE) ∧ (Fr n0 LL_) ∧ (hh_ = h0)
set_option maxRecDepth 65536 in
set_option maxHeartbeats 40000000 in
theorem onN (l : Launch) (Z : State) (a0 : Array Value) (hw : ∀ d ∈ tables_1, d.before a0 Z = true) (ws : List Jvm.Cond) (w0 : Addr) (w1 : Addr) (w2 : Addr) (w3 : Addr) (w4 : Addr) (wV : Addr) (kV : ClassId) (wE : Addr)  (h0 : Heap) (n0 : Nat) (O0 : Old Z n0 h0) (S_w0 : Sta Z Z.heap "com/example/demarcate/demarcate/Isolation" "DEFAULT" "Lcom/example/demarcate/demarcate/Isolation;" (.ref w0)) (S_w1 : Sta Z Z.heap "com/example/demarcate/demarcate/Isolation" "READ_UNCOMMITTED" "Lcom/example/demarcate/demarcate/Isolation;" (.ref w1)) (S_w2 : Sta Z Z.heap "com/example/demarcate/demarcate/Isolation" "READ_COMMITTED" "Lcom/example/demarcate/demarcate/Isolation;" (.ref w2)) (S_w3 : Sta Z Z.heap "com/example/demarcate/demarcate/Isolation" "REPEATABLE_READ" "Lcom/example/demarcate/demarcate/Isolation;" (.ref w3)) (S_w4 : Sta Z Z.heap "com/example/demarcate/demarcate/Isolation" "SERIALIZABLE" "Lcom/example/demarcate/demarcate/Isolation;" (.ref w4)) (E_w0 : Exa Z Z.heap w0 "com/example/demarcate/demarcate/Isolation") (E_w1 : Exa Z Z.heap w1 "com/example/demarcate/demarcate/Isolation") (E_w2 : Exa Z Z.heap w2 "com/example/demarcate/demarcate/Isolation") (E_w3 : Exa Z Z.heap w3 "com/example/demarcate/demarcate/Isolation") (E_w4 : Exa Z Z.heap w4 "com/example/demarcate/demarcate/Isolation") (F_w1 : Fld Z Z.heap w1 "java/lang/Enum" "ordinal" "I" (.int (1 : Int32))) (F_w2 : Fld Z Z.heap w2 "java/lang/Enum" "ordinal" "I" (.int (2 : Int32))) (F_w3 : Fld Z Z.heap w3 "java/lang/Enum" "ordinal" "I" (.int (3 : Int32))) (F_w4 : Fld Z Z.heap w4 "java/lang/Enum" "ordinal" "I" (.int (4 : Int32))) (S_wV : Sta Z Z.heap "com/example/demarcate/demarcate/Isolation" "$VALUES" "[Lcom/example/demarcate/demarcate/Isolation;" (.ref wV)) (E_wV : Exa Z Z.heap wV "[Lcom/example/demarcate/demarcate/Isolation;") (A_wV : Arv Z Z.heap wV kV (.object "com/example/demarcate/demarcate/Isolation") (5 : Int32) [(.ref w0), (.ref w1), (.ref w2), (.ref w3), (.ref w4)] .null) (S_wE : Sta Z Z.heap "java/util/Optional" "EMPTY" "Ljava/util/Optional;" (.ref wE)) (E_wE : Exa Z Z.heap wE "java/util/Optional") (F_wE : Fld Z Z.heap wE "java/util/Optional" "value" "Ljava/lang/Object;" .null) (ne_w1_w0 : w1 ≠ w0) (ne_w2_w0 : w2 ≠ w0) (ne_w3_w0 : w3 ≠ w0) (ne_w4_w0 : w4 ≠ w0) :
    MetFree l (⟨"java/util/Optional", "ofNullable", "(Ljava/lang/Object;)Ljava/util/Optional;"⟩ : MethodName) (head1 (Jvm.Cond.code (⟨"java/util/Optional", "ofNullable", "(Ljava/lang/Object;)Ljava/util/Optional;"⟩ : MethodName) jdk_32_method_4_code 1 (some (.object "java/util/Optional")) :: ws) ({ frames := 0, cells := 0, slots := 0, locals := 0 } : Room)) (fun aa_ U_ => aa_ = #[.null] ∧ Z.Warmed39 U_.vm ∧ U_.heap = h0) (fun _ _ _ _ _ => True) (fun _ U_ oo_ V_ => ∃ vv_ LL_, oo_ = .returned vv_ ∧ Q_onN Z w0 w1 w2 w3 w4 wV kV wE  h0 n0 vv_ V_.heap LL_ ∧ FrameEnd U_ oo_ V_ LL_ ({ frames := 0, cells := 0, slots := 0, locals := 0 } : Room).cells ({ frames := 0, cells := 0, slots := 0, locals := 0 } : Room).slots) := by
  refine MetFree.of_bodySF (plainFor_of_name pn_java_util_Optional) hisR ?_
  intro p e s m args below meth c s₁ Bd hml0 hP hK
  obtain ⟨rfl, hZ, hh⟩ := hP
  have hx := Bd.exec
  have hby := Bd.bytes
  have hml : c.maxLocals = 1 := hml0
  have hown : s.vm.findClass "java/util/Optional" = some m.cls := findClass_of_methodNamed Bd.named
  have hnm := (name_of_methodNamed Bd.named Bd.method).1
  have X0 : Stand p l e ({ frames := 0, cells := 0, slots := 0, locals := 0 } : Room) s m #[.null] below meth c s₁ [] 0 0 := Stand.of_body Bd
  have e0 : s₁.heap = h0 := by rw [← hh, Bd.state]; rfl
  have N0 := Fr.nil n0
  have Z0 : n0 ≤ h0.size := O0.1 ▸ O0.2.1
  have hk0 := Nat.zero_le h0.size
  have K0 : Keep h0 h0 [] := Keep.refl _ _
  have R0 : ∀ t, Steps p.tables e below (s₁.setTop (mkF m 0 #[.val .null] [])) t → Steps p.tables e below (s₁.setTop (entryFrame m #[.null] 1)) t := fun t k => castTop (ef_onN m ) k
  obtain ⟨T1, X1, e1, st1⟩ := getS2 X0 hx hZ hown (host := "") (Or.inl (hw _ (List.mem_of_getElem? (i := 47) rfl))) Via.refl e0 (S_wE.ext O0.2) (g := (mkF m 4 #[.val .null] [])) rfl (hb hby d6_4)
  have R2 : ∀ t, Steps p.tables e below (T1.setTop (mkF m 18 #[.val .null] [(.ref wE)])) t → Steps p.tables e below (s₁.setTop (entryFrame m #[.null] 1)) t := by
    intro t k
    refine R0 t ?_
    show Steps p.tables e below (s₁.setTop (mkF m 0 #[.val .null] [])) t
    refine XS.aloadN X0.here hx rfl (hb hby d6_0) rfl rfl ?_
    show Steps p.tables e below (s₁.setTop (mkF m 1 #[.val .null] [.null])) t
    refine XS.ifnonnullNo X0.here hx rfl (hb hby d6_1) rfl ?_
    show Steps p.tables e below (s₁.setTop (mkF m 4 #[.val .null] [])) t
    refine st1 _ ?_
    show Steps p.tables e below (T1.setTop (mkF m 7 #[.val .null] [(.ref wE)])) t
    refine XS.goto X1.here hx rfl (pc0 := 7) (pc' := 18) rfl (hb hby d6_7) (by decide) (by decide) ?_
    exact k
  obtain ⟨fs, hr, hrun, hended, hW, hsame⟩ := X1.leave (v := some (.ref wE)) (fun h => by rw [Bd.returns] at h; cases h)
  refine ⟨_, _, R2 _ ?_, hrun, hended, _, _, rfl, ?_, ⟨_, rfl⟩, hW, hsame.mono (by decide) (by decide)⟩
  · show Steps p.tables e below (T1.setTop (mkF m 18 #[.val .null] [(.ref wE)])) _
    exact retOut X1 hx Bd.returns rfl (Or.inr (Or.inr (Or.inr (Or.inr ⟨rfl, rfl, rfl⟩)))) (hb hby d6_18) hr
  · show Q_onN Z w0 w1 w2 w3 w4 wV kV wE  h0 n0 _ T1.heap _
    rw [e1]
    exact ⟨rfl, N0, rfl⟩
theorem d6_10 : decode jdk_32_method_4_code 10 = .ok (.new 2, 3) := by decide +kernel
theorem d6_13 : decode jdk_32_method_4_code 13 = .ok (.dup, 1) := by decide +kernel
theorem d6_14 : decode jdk_32_method_4_code 14 = .ok (.aload_n 0, 1) := by decide +kernel
theorem pd_1 : parseMethodDescriptor "(Ljava/lang/Object;)V" = some ⟨[(.object "java/lang/Object")], none⟩ := by decide +kernel
theorem d6_15 : decode jdk_32_method_4_code 15 = .ok (.invokespecial 23, 3) := by decide +kernel
theorem ef_onS (m : MethodId) (z : Addr) : entryFrame m #[(.ref z)] 1 = mkF m 0 #[.val (.ref z)] [] := by first | (simp [entryFrame, mkF, argsToLocals, Value.category]; done) | rfl
def Q_onS (Z : State) (w0 : Addr) (w1 : Addr) (w2 : Addr) (w3 : Addr) (w4 : Addr) (wV : Addr) (kV : ClassId) (wE : Addr) (z : Addr) (h0 : Heap) (n0 : Nat) (vv_ : Option Value) (hh_ : Heap) (LL_ : List Loc) : Prop := ∃ (b : Addr), vv_ = some (.ref b) ∧ (Fr n0 LL_) ∧ (Keep h0 hh_ []) ∧ (h0.size ≤ b) ∧ (Exa Z hh_ b "java/util/Optional") ∧ (Fld Z hh_ b "java/util/Optional" "value" "Ljava/lang/Object;" (.ref z))
set_option maxRecDepth 65536 in
set_option maxHeartbeats 40000000 in
theorem onS (l : Launch) (Z : State) (a0 : Array Value) (hw : ∀ d ∈ tables_1, d.before a0 Z = true) (ws : List Jvm.Cond) (w0 : Addr) (w1 : Addr) (w2 : Addr) (w3 : Addr) (w4 : Addr) (wV : Addr) (kV : ClassId) (wE : Addr) (z : Addr) (h0 : Heap) (n0 : Nat) (O0 : Old Z n0 h0) (S_w0 : Sta Z Z.heap "com/example/demarcate/demarcate/Isolation" "DEFAULT" "Lcom/example/demarcate/demarcate/Isolation;" (.ref w0)) (S_w1 : Sta Z Z.heap "com/example/demarcate/demarcate/Isolation" "READ_UNCOMMITTED" "Lcom/example/demarcate/demarcate/Isolation;" (.ref w1)) (S_w2 : Sta Z Z.heap "com/example/demarcate/demarcate/Isolation" "READ_COMMITTED" "Lcom/example/demarcate/demarcate/Isolation;" (.ref w2)) (S_w3 : Sta Z Z.heap "com/example/demarcate/demarcate/Isolation" "REPEATABLE_READ" "Lcom/example/demarcate/demarcate/Isolation;" (.ref w3)) (S_w4 : Sta Z Z.heap "com/example/demarcate/demarcate/Isolation" "SERIALIZABLE" "Lcom/example/demarcate/demarcate/Isolation;" (.ref w4)) (E_w0 : Exa Z Z.heap w0 "com/example/demarcate/demarcate/Isolation") (E_w1 : Exa Z Z.heap w1 "com/example/demarcate/demarcate/Isolation") (E_w2 : Exa Z Z.heap w2 "com/example/demarcate/demarcate/Isolation") (E_w3 : Exa Z Z.heap w3 "com/example/demarcate/demarcate/Isolation") (E_w4 : Exa Z Z.heap w4 "com/example/demarcate/demarcate/Isolation") (F_w1 : Fld Z Z.heap w1 "java/lang/Enum" "ordinal" "I" (.int (1 : Int32))) (F_w2 : Fld Z Z.heap w2 "java/lang/Enum" "ordinal" "I" (.int (2 : Int32))) (F_w3 : Fld Z Z.heap w3 "java/lang/Enum" "ordinal" "I" (.int (3 : Int32))) (F_w4 : Fld Z Z.heap w4 "java/lang/Enum" "ordinal" "I" (.int (4 : Int32))) (S_wV : Sta Z Z.heap "com/example/demarcate/demarcate/Isolation" "$VALUES" "[Lcom/example/demarcate/demarcate/Isolation;" (.ref wV)) (E_wV : Exa Z Z.heap wV "[Lcom/example/demarcate/demarcate/Isolation;") (A_wV : Arv Z Z.heap wV kV (.object "com/example/demarcate/demarcate/Isolation") (5 : Int32) [(.ref w0), (.ref w1), (.ref w2), (.ref w3), (.ref w4)] .null) (S_wE : Sta Z Z.heap "java/util/Optional" "EMPTY" "Ljava/util/Optional;" (.ref wE)) (E_wE : Exa Z Z.heap wE "java/util/Optional") (F_wE : Fld Z Z.heap wE "java/util/Optional" "value" "Ljava/lang/Object;" .null) (ne_w1_w0 : w1 ≠ w0) (ne_w2_w0 : w2 ≠ w0) (ne_w3_w0 : w3 ≠ w0) (ne_w4_w0 : w4 ≠ w0) :
    MetFree l (⟨"java/util/Optional", "ofNullable", "(Ljava/lang/Object;)Ljava/util/Optional;"⟩ : MethodName) (head1 (Jvm.Cond.code (⟨"java/util/Optional", "ofNullable", "(Ljava/lang/Object;)Ljava/util/Optional;"⟩ : MethodName) jdk_32_method_4_code 1 (some (.object "java/util/Optional")) :: ws) ({ frames := 2, cells := 1, slots := 1, locals := 26 } : Room)) (fun aa_ U_ => aa_ = #[(.ref z)] ∧ Z.Warmed39 U_.vm ∧ U_.heap = h0) (fun _ _ _ _ _ => True) (fun _ U_ oo_ V_ => ∃ vv_ LL_, oo_ = .returned vv_ ∧ Q_onS Z w0 w1 w2 w3 w4 wV kV wE z h0 n0 vv_ V_.heap LL_ ∧ FrameEnd U_ oo_ V_ LL_ ({ frames := 2, cells := 1, slots := 1, locals := 26 } : Room).cells ({ frames := 2, cells := 1, slots := 1, locals := 26 } : Room).slots) := by
  refine MetFree.of_bodySF (plainFor_of_name pn_java_util_Optional) hisR ?_
  intro p e s m args below meth c s₁ Bd hml0 hP hK
  obtain ⟨rfl, hZ, hh⟩ := hP
  have hx := Bd.exec
  have hby := Bd.bytes
  have hml : c.maxLocals = 1 := hml0
  have hown : s.vm.findClass "java/util/Optional" = some m.cls := findClass_of_methodNamed Bd.named
  have hnm := (name_of_methodNamed Bd.named Bd.method).1
  have X0 : Stand p l e ({ frames := 2, cells := 1, slots := 1, locals := 26 } : Room) s m #[(.ref z)] below meth c s₁ [] 0 0 := Stand.of_body Bd
  have e0 : s₁.heap = h0 := by rw [← hh, Bd.state]; rfl
  have N0 := Fr.nil n0
  have Z0 : n0 ≤ h0.size := O0.1 ▸ O0.2.1
  have hk0 := Nat.zero_le h0.size
  have K0 : Keep h0 h0 [] := Keep.refl _ _
  have R0 : ∀ t, Steps p.tables e below (s₁.setTop (mkF m 0 #[.val (.ref z)] [])) t → Steps p.tables e below (s₁.setTop (entryFrame m #[(.ref z)] 1)) t := fun t k => castTop (ef_onS m z) k
  obtain ⟨T1, h1, X1, e1, E1, A1, D1, -, st1⟩ := newO X0 hx hZ hown (hw _ (List.mem_of_getElem? (i := 56) rfl)) (hw _ (List.mem_of_getElem? (i := 57) rfl)) (hw _ (List.mem_of_getElem? (i := 45) rfl)) e0 (g := (mkF m 10 #[.val (.ref z)] [])) rfl (hb hby d6_10) (by decide) (by decide)
  obtain ⟨b1, gg1⟩ : ∃ z, z = h0.size := ⟨_, rfl⟩
  rw [← gg1] at A1 D1 st1
  have g_b1 : n0 ≤ b1 := Nat.le_trans Z0 (Nat.le_of_eq gg1.symm)
  have sz_b1 : h0.size ≤ b1 := Nat.le_trans K0.1 (Nat.le_of_eq gg1.symm)
  have Z1 : n0 ≤ h1.size := Nat.le_trans Z0 E1.1
  have K1 : Keep h0 h1 [] := K0.ext E1
  have O1 : Old Z n0 h1 := O0.ext E1
  have F1_value : Fld Z h1 b1 "java/util/Optional" "value" "Ljava/lang/Object;" .null := D1 (Or.inr (hw _ (List.mem_of_getElem? (i := 54) rfl))) (ty := (.object "java/lang/Object")) (by decide)
  obtain ⟨_, _, ⟨T2, L2, k2, n2⟩, -, X2, ⟨Lc2, hQ2, l2, y2, z2⟩, st2⟩ := X1.specialBack hx (y := (⟨"java/util/Optional", "<init>", "(Ljava/lang/Object;)V"⟩ : MethodName)) rfl hown (mvT hZ (hw _ (List.mem_of_getElem? (i := 58) rfl))) (mvT hZ (hw _ (List.mem_of_getElem? (i := 59) rfl))) (mvT hZ (hw _ (List.mem_of_getElem? (i := 61) rfl))) (by decide) (backOf (W := 1) (oinit l Z a0 hw [] w0 w1 w2 w3 w4 wV kV wE b1 z .null h1 n0 O1 S_w0 S_w1 S_w2 S_w3 S_w4 E_w0 E_w1 E_w2 E_w3 E_w4 F_w1 F_w2 F_w3 F_w4 S_wV E_wV A_wV S_wE E_wE F_wE ne_w1_w0 ne_w2_w0 ne_w3_w0 ne_w4_w0 g_b1  A1 F1_value) hZ (hw _ (List.mem_of_getElem? (i := 61) rfl)) (hw _ (List.mem_of_getElem? (i := 45) rfl)) (by decide) (by decide)) (g := (mkF m 15 #[.val (.ref z)] [(.ref z), (.ref b1), (.ref b1)])) rfl (by rw [hml]; rfl) (Steps.refl _) (a := b1) (argsL := [(.ref z)]) (rest := [(.ref b1)]) (lenOf pd_1 rfl) rfl (by show 2 * 0 + _ ≤ _; exact Nat.le_of_eq rfl) (hb hby d6_15) (fun _ _ => ⟨rfl, e1, (by decide : 1 + 0 ≤ _), (by decide : 1 + 0 ≤ _)⟩)
  dsimp only [Pt.U, Pt.locs, Pt.cells, Pt.slots] at X2 l2 y2 z2 st2 hQ2
  subst l2 y2 z2
  obtain ⟨rfl, N2q, K2q, y2_0, y2_1⟩ := hQ2
  have N2 := Fr.app N0 N2q
  have Z2 : n0 ≤ T2.heap.size := Nat.le_trans Z1 K2q.1
  have K2 : Keep h0 T2.heap [] := K1.trans K2q (allS (Or.inr sz_b1) all0)
  have O2 : Old Z n0 T2.heap := O1.keep K2q (allS g_b1 all0)
  have R3 : ∀ t, Steps p.tables e below (T2.setTop (mkF m 18 #[.val (.ref z)] [(.ref b1)])) t → Steps p.tables e below (s₁.setTop (entryFrame m #[(.ref z)] 1)) t := by
    intro t k
    refine R0 t ?_
    show Steps p.tables e below (s₁.setTop (mkF m 0 #[.val (.ref z)] [])) t
    refine XS.aloadN X0.here hx rfl (hb hby d6_0) rfl rfl ?_
    show Steps p.tables e below (s₁.setTop (mkF m 1 #[.val (.ref z)] [(.ref z)])) t
    refine XS.ifnonnullYes X0.here hx rfl (pc0 := 1) (pc' := 10) rfl (hb hby d6_1) rfl (by decide) (by decide) ?_
    show Steps p.tables e below (s₁.setTop (mkF m 10 #[.val (.ref z)] [])) t
    refine st1 _ ?_
    show Steps p.tables e below (T1.setTop (mkF m 13 #[.val (.ref z)] [(.ref b1)])) t
    refine XS.dup X1.here hx rfl (hb hby d6_13) rfl rfl ?_
    show Steps p.tables e below (T1.setTop (mkF m 14 #[.val (.ref z)] [(.ref b1), (.ref b1)])) t
    refine XS.aloadN X1.here hx rfl (hb hby d6_14) rfl rfl ?_
    show Steps p.tables e below (T1.setTop (mkF m 15 #[.val (.ref z)] [(.ref z), (.ref b1), (.ref b1)])) t
    refine st2.trans ?_
    exact k
  obtain ⟨fs, hr, hrun, hended, hW, hsame⟩ := X2.leave (v := some (.ref b1)) (fun h => by rw [Bd.returns] at h; cases h)
  refine ⟨_, _, R3 _ ?_, hrun, hended, _, _, rfl, ?_, ⟨_, rfl⟩, hW, hsame.mono (by decide) (by decide)⟩
  · show Steps p.tables e below (T2.setTop (mkF m 18 #[.val (.ref z)] [(.ref b1)])) _
    exact retOut X2 hx Bd.returns rfl (Or.inr (Or.inr (Or.inr (Or.inr ⟨rfl, rfl, rfl⟩)))) (hb hby d6_18) hr
  · show Q_onS Z w0 w1 w2 w3 w4 wV kV wE z h0 n0 _ T2.heap _
    exact ⟨b1, rfl, N2, K2, sz_b1, y2_0, y2_1⟩
theorem d7_0 : decode jdk_32_method_6_code 0 = .ok (.aload_n 0, 1) := by decide +kernel
theorem d7_1 : decode jdk_32_method_6_code 1 = .ok (.getfield 13, 3) := by decide +kernel
theorem d7_4 : decode jdk_32_method_6_code 4 = .ok (.ifnull 7, 3) := by decide +kernel
theorem d7_11 : decode jdk_32_method_6_code 11 = .ok (.iconst 0, 1) := by decide +kernel
theorem d7_12 : decode jdk_32_method_6_code 12 = .ok (.ireturn, 1) := by decide +kernel
theorem ef_ipN (m : MethodId) (a : Addr) : entryFrame m #[(.ref a)] 1 = mkF m 0 #[.val (.ref a)] [] := by first | (simp [entryFrame, mkF, argsToLocals, Value.category]; done) | rfl
def Q_ipN (Z : State) (w0 : Addr) (w1 : Addr) (w2 : Addr) (w3 : Addr) (w4 : Addr) (wV : Addr) (kV : ClassId) (wE : Addr) (a : Addr) (h0 : Heap) (n0 : Nat) (vv_ : Option Value) (hh_ : Heap) (LL_ : List Loc) : Prop := vv_ = some (.int (0 : Int32)) ∧ (Fr n0 LL_) ∧ (hh_ = h0)
set_option maxRecDepth 65536 in
set_option maxHeartbeats 40000000 in
theorem ipN (l : Launch) (Z : State) (a0 : Array Value) (hw : ∀ d ∈ tables_1, d.before a0 Z = true) (ws : List Jvm.Cond) (w0 : Addr) (w1 : Addr) (w2 : Addr) (w3 : Addr) (w4 : Addr) (wV : Addr) (kV : ClassId) (wE : Addr) (a : Addr) (h0 : Heap) (n0 : Nat) (O0 : Old Z n0 h0) (S_w0 : Sta Z Z.heap "com/example/demarcate/demarcate/Isolation" "DEFAULT" "Lcom/example/demarcate/demarcate/Isolation;" (.ref w0)) (S_w1 : Sta Z Z.heap "com/example/demarcate/demarcate/Isolation" "READ_UNCOMMITTED" "Lcom/example/demarcate/demarcate/Isolation;" (.ref w1)) (S_w2 : Sta Z Z.heap "com/example/demarcate/demarcate/Isolation" "READ_COMMITTED" "Lcom/example/demarcate/demarcate/Isolation;" (.ref w2)) (S_w3 : Sta Z Z.heap "com/example/demarcate/demarcate/Isolation" "REPEATABLE_READ" "Lcom/example/demarcate/demarcate/Isolation;" (.ref w3)) (S_w4 : Sta Z Z.heap "com/example/demarcate/demarcate/Isolation" "SERIALIZABLE" "Lcom/example/demarcate/demarcate/Isolation;" (.ref w4)) (E_w0 : Exa Z Z.heap w0 "com/example/demarcate/demarcate/Isolation") (E_w1 : Exa Z Z.heap w1 "com/example/demarcate/demarcate/Isolation") (E_w2 : Exa Z Z.heap w2 "com/example/demarcate/demarcate/Isolation") (E_w3 : Exa Z Z.heap w3 "com/example/demarcate/demarcate/Isolation") (E_w4 : Exa Z Z.heap w4 "com/example/demarcate/demarcate/Isolation") (F_w1 : Fld Z Z.heap w1 "java/lang/Enum" "ordinal" "I" (.int (1 : Int32))) (F_w2 : Fld Z Z.heap w2 "java/lang/Enum" "ordinal" "I" (.int (2 : Int32))) (F_w3 : Fld Z Z.heap w3 "java/lang/Enum" "ordinal" "I" (.int (3 : Int32))) (F_w4 : Fld Z Z.heap w4 "java/lang/Enum" "ordinal" "I" (.int (4 : Int32))) (S_wV : Sta Z Z.heap "com/example/demarcate/demarcate/Isolation" "$VALUES" "[Lcom/example/demarcate/demarcate/Isolation;" (.ref wV)) (E_wV : Exa Z Z.heap wV "[Lcom/example/demarcate/demarcate/Isolation;") (A_wV : Arv Z Z.heap wV kV (.object "com/example/demarcate/demarcate/Isolation") (5 : Int32) [(.ref w0), (.ref w1), (.ref w2), (.ref w3), (.ref w4)] .null) (S_wE : Sta Z Z.heap "java/util/Optional" "EMPTY" "Ljava/util/Optional;" (.ref wE)) (E_wE : Exa Z Z.heap wE "java/util/Optional") (F_wE : Fld Z Z.heap wE "java/util/Optional" "value" "Ljava/lang/Object;" .null) (ne_w1_w0 : w1 ≠ w0) (ne_w2_w0 : w2 ≠ w0) (ne_w3_w0 : w3 ≠ w0) (ne_w4_w0 : w4 ≠ w0) (Fa : Fld Z h0 a "java/util/Optional" "value" "Ljava/lang/Object;" .null) :
    MetFree l (⟨"java/util/Optional", "isPresent", "()Z"⟩ : MethodName) (head1 (Jvm.Cond.code (⟨"java/util/Optional", "isPresent", "()Z"⟩ : MethodName) jdk_32_method_6_code 1 (some .boolean) :: ws) ({ frames := 0, cells := 0, slots := 0, locals := 0 } : Room)) (fun aa_ U_ => aa_ = #[(.ref a)] ∧ Z.Warmed39 U_.vm ∧ U_.heap = h0) (fun _ _ _ _ _ => True) (fun _ U_ oo_ V_ => ∃ vv_ LL_, oo_ = .returned vv_ ∧ Q_ipN Z w0 w1 w2 w3 w4 wV kV wE a h0 n0 vv_ V_.heap LL_ ∧ FrameEnd U_ oo_ V_ LL_ ({ frames := 0, cells := 0, slots := 0, locals := 0 } : Room).cells ({ frames := 0, cells := 0, slots := 0, locals := 0 } : Room).slots) := by
  refine MetFree.of_bodySF (plainFor_of_name pn_java_util_Optional) hisR ?_
  intro p e s m args below meth c s₁ Bd hml0 hP hK
  obtain ⟨rfl, hZ, hh⟩ := hP
  have hx := Bd.exec
  have hby := Bd.bytes
  have hml : c.maxLocals = 1 := hml0
  have hown : s.vm.findClass "java/util/Optional" = some m.cls := findClass_of_methodNamed Bd.named
  have hnm := (name_of_methodNamed Bd.named Bd.method).1
  have X0 : Stand p l e ({ frames := 0, cells := 0, slots := 0, locals := 0 } : Room) s m #[(.ref a)] below meth c s₁ [] 0 0 := Stand.of_body Bd
  have e0 : s₁.heap = h0 := by rw [← hh, Bd.state]; rfl
  have N0 := Fr.nil n0
  have Z0 : n0 ≤ h0.size := O0.1 ▸ O0.2.1
  have hk0 := Nat.zero_le h0.size
  have K0 : Keep h0 h0 [] := Keep.refl _ _
  have R0 : ∀ t, Steps p.tables e below (s₁.setTop (mkF m 0 #[.val (.ref a)] [])) t → Steps p.tables e below (s₁.setTop (entryFrame m #[(.ref a)] 1)) t := fun t k => castTop (ef_ipN m a) k
  obtain ⟨T1, X1, e1, st1⟩ := getF X0 hx hZ hown (host := "") (Or.inl (hw _ (List.mem_of_getElem? (i := 53) rfl))) Via.refl e0 Fa (g := (mkF m 1 #[.val (.ref a)] [(.ref a)])) rfl rfl (hb hby d7_1)
  have R2 : ∀ t, Steps p.tables e below (T1.setTop (mkF m 12 #[.val (.ref a)] [(.int (0 : Int32))])) t → Steps p.tables e below (s₁.setTop (entryFrame m #[(.ref a)] 1)) t := by
    intro t k
    refine R0 t ?_
    show Steps p.tables e below (s₁.setTop (mkF m 0 #[.val (.ref a)] [])) t
    refine XS.aloadN X0.here hx rfl (hb hby d7_0) rfl rfl ?_
    show Steps p.tables e below (s₁.setTop (mkF m 1 #[.val (.ref a)] [(.ref a)])) t
    refine st1 _ ?_
    show Steps p.tables e below (T1.setTop (mkF m 4 #[.val (.ref a)] [.null])) t
    refine XS.ifnullYes X1.here hx rfl (pc0 := 4) (pc' := 11) rfl (hb hby d7_4) rfl (by decide) (by decide) ?_
    show Steps p.tables e below (T1.setTop (mkF m 11 #[.val (.ref a)] [])) t
    refine XS.iconst X1.here hx rfl (hb hby d7_11) ?_
    exact k
  obtain ⟨fs, hr, hrun, hended, hW, hsame⟩ := X1.leave (v := some (.int (0 : Int32))) (fun h => by rw [Bd.returns] at h; cases h)
  refine ⟨_, _, R2 _ ?_, hrun, hended, _, _, rfl, ?_, ⟨_, rfl⟩, hW, hsame.mono (by decide) (by decide)⟩
  · show Steps p.tables e below (T1.setTop (mkF m 12 #[.val (.ref a)] [(.int (0 : Int32))])) _
    exact retN X1 hx (t := .boolean) Bd.returns (by simp) (hb hby d7_12) hr
  · show Q_ipN Z w0 w1 w2 w3 w4 wV kV wE a h0 n0 _ T1.heap _
    rw [e1]
    exact ⟨rfl, N0, rfl⟩
theorem d7_7 : decode jdk_32_method_6_code 7 = .ok (.iconst 1, 1) := by decide +kernel
theorem d7_8 : decode jdk_32_method_6_code 8 = .ok (.goto 4, 3) := by decide +kernel
theorem ef_ipS (m : MethodId) (a : Addr) (z : Addr) : entryFrame m #[(.ref a)] 1 = mkF m 0 #[.val (.ref a)] [] := by first | (simp [entryFrame, mkF, argsToLocals, Value.category]; done) | rfl
def Q_ipS (Z : State) (w0 : Addr) (w1 : Addr) (w2 : Addr) (w3 : Addr) (w4 : Addr) (wV : Addr) (kV : ClassId) (wE : Addr) (a : Addr) (z : Addr) (h0 : Heap) (n0 : Nat) (vv_ : Option Value) (hh_ : Heap) (LL_ : List Loc) : Prop := vv_ = some (.int (1 : Int32)) ∧ (Fr n0 LL_) ∧ (hh_ = h0)
set_option maxRecDepth 65536 in
set_option maxHeartbeats 40000000 in
theorem ipS (l : Launch) (Z : State) (a0 : Array Value) (hw : ∀ d ∈ tables_1, d.before a0 Z = true) (ws : List Jvm.Cond) (w0 : Addr) (w1 : Addr) (w2 : Addr) (w3 : Addr) (w4 : Addr) (wV : Addr) (kV : ClassId) (wE : Addr) (a : Addr) (z : Addr) (h0 : Heap) (n0 : Nat) (O0 : Old Z n0 h0) (S_w0 : Sta Z Z.heap "com/example/demarcate/demarcate/Isolation" "DEFAULT" "Lcom/example/demarcate/demarcate/Isolation;" (.ref w0)) (S_w1 : Sta Z Z.heap "com/example/demarcate/demarcate/Isolation" "READ_UNCOMMITTED" "Lcom/example/demarcate/demarcate/Isolation;" (.ref w1)) (S_w2 : Sta Z Z.heap "com/example/demarcate/demarcate/Isolation" "READ_COMMITTED" "Lcom/example/demarcate/demarcate/Isolation;" (.ref w2)) (S_w3 : Sta Z Z.heap "com/example/demarcate/demarcate/Isolation" "REPEATABLE_READ" "Lcom/example/demarcate/demarcate/Isolation;" (.ref w3)) (S_w4 : Sta Z Z.heap "com/example/demarcate/demarcate/Isolation" "SERIALIZABLE" "Lcom/example/demarcate/demarcate/Isolation;" (.ref w4)) (E_w0 : Exa Z Z.heap w0 "com/example/demarcate/demarcate/Isolation") (E_w1 : Exa Z Z.heap w1 "com/example/demarcate/demarcate/Isolation") (E_w2 : Exa Z Z.heap w2 "com/example/demarcate/demarcate/Isolation") (E_w3 : Exa Z Z.heap w3 "com/example/demarcate/demarcate/Isolation") (E_w4 : Exa Z Z.heap w4 "com/example/demarcate/demarcate/Isolation") (F_w1 : Fld Z Z.heap w1 "java/lang/Enum" "ordinal" "I" (.int (1 : Int32))) (F_w2 : Fld Z Z.heap w2 "java/lang/Enum" "ordinal" "I" (.int (2 : Int32))) (F_w3 : Fld Z Z.heap w3 "java/lang/Enum" "ordinal" "I" (.int (3 : Int32))) (F_w4 : Fld Z Z.heap w4 "java/lang/Enum" "ordinal" "I" (.int (4 : Int32))) (S_wV : Sta Z Z.heap "com/example/demarcate/demarcate/Isolation" "$VALUES" "[Lcom/example/demarcate/demarcate/Isolation;" (.ref wV)) (E_wV : Exa Z Z.heap wV "[Lcom/example/demarcate/demarcate/Isolation;") (A_wV : Arv Z Z.heap wV kV (.object "com/example/demarcate/demarcate/Isolation") (5 : Int32) [(.ref w0), (.ref w1), (.ref w2), (.ref w3), (.ref w4)] .null) (S_wE : Sta Z Z.heap "java/util/Optional" "EMPTY" "Ljava/util/Optional;" (.ref wE)) (E_wE : Exa Z Z.heap wE "java/util/Optional") (F_wE : Fld Z Z.heap wE "java/util/Optional" "value" "Ljava/lang/Object;" .null) (ne_w1_w0 : w1 ≠ w0) (ne_w2_w0 : w2 ≠ w0) (ne_w3_w0 : w3 ≠ w0) (ne_w4_w0 : w4 ≠ w0) (Fa : Fld Z h0 a "java/util/Optional" "value" "Ljava/lang/Object;" (.ref z)) :
    MetFree l (⟨"java/util/Optional", "isPresent", "()Z"⟩ : MethodName) (head1 (Jvm.Cond.code (⟨"java/util/Optional", "isPresent", "()Z"⟩ : MethodName) jdk_32_method_6_code 1 (some .boolean) :: ws) ({ frames := 0, cells := 0, slots := 0, locals := 0 } : Room)) (fun aa_ U_ => aa_ = #[(.ref a)] ∧ Z.Warmed39 U_.vm ∧ U_.heap = h0) (fun _ _ _ _ _ => True) (fun _ U_ oo_ V_ => ∃ vv_ LL_, oo_ = .returned vv_ ∧ Q_ipS Z w0 w1 w2 w3 w4 wV kV wE a z h0 n0 vv_ V_.heap LL_ ∧ FrameEnd U_ oo_ V_ LL_ ({ frames := 0, cells := 0, slots := 0, locals := 0 } : Room).cells ({ frames := 0, cells := 0, slots := 0, locals := 0 } : Room).slots) := by
  refine MetFree.of_bodySF (plainFor_of_name pn_java_util_Optional) hisR ?_
  intro p e s m args below meth c s₁ Bd hml0 hP hK
  obtain ⟨rfl, hZ, hh⟩ := hP
  have hx := Bd.exec
  have hby := Bd.bytes
  have hml : c.maxLocals = 1 := hml0
  have hown : s.vm.findClass "java/util/Optional" = some m.cls := findClass_of_methodNamed Bd.named
  have hnm := (name_of_methodNamed Bd.named Bd.method).1
  have X0 : Stand p l e ({ frames := 0, cells := 0, slots := 0, locals := 0 } : Room) s m #[(.ref a)] below meth c s₁ [] 0 0 := Stand.of_body Bd
  have e0 : s₁.heap = h0 := by rw [← hh, Bd.state]; rfl
  have N0 := Fr.nil n0
  have Z0 : n0 ≤ h0.size := O0.1 ▸ O0.2.1
  have hk0 := Nat.zero_le h0.size
  have K0 : Keep h0 h0 [] := Keep.refl _ _
  have R0 : ∀ t, Steps p.tables e below (s₁.setTop (mkF m 0 #[.val (.ref a)] [])) t → Steps p.tables e below (s₁.setTop (entryFrame m #[(.ref a)] 1)) t := fun t k => castTop (ef_ipS m a z) k
  obtain ⟨T1, X1, e1, st1⟩ := getF X0 hx hZ hown (host := "") (Or.inl (hw _ (List.mem_of_getElem? (i := 53) rfl))) Via.refl e0 Fa (g := (mkF m 1 #[.val (.ref a)] [(.ref a)])) rfl rfl (hb hby d7_1)
  have R2 : ∀ t, Steps p.tables e below (T1.setTop (mkF m 12 #[.val (.ref a)] [(.int (1 : Int32))])) t → Steps p.tables e below (s₁.setTop (entryFrame m #[(.ref a)] 1)) t := by
    intro t k
    refine R0 t ?_
    show Steps p.tables e below (s₁.setTop (mkF m 0 #[.val (.ref a)] [])) t
    refine XS.aloadN X0.here hx rfl (hb hby d7_0) rfl rfl ?_
    show Steps p.tables e below (s₁.setTop (mkF m 1 #[.val (.ref a)] [(.ref a)])) t
    refine st1 _ ?_
    show Steps p.tables e below (T1.setTop (mkF m 4 #[.val (.ref a)] [(.ref z)])) t
    refine XS.ifnullNo X1.here hx rfl (hb hby d7_4) rfl ?_
    show Steps p.tables e below (T1.setTop (mkF m 7 #[.val (.ref a)] [])) t
    refine XS.iconst X1.here hx rfl (hb hby d7_7) ?_
    show Steps p.tables e below (T1.setTop (mkF m 8 #[.val (.ref a)] [(.int (1 : Int32))])) t
    refine XS.goto X1.here hx rfl (pc0 := 8) (pc' := 12) rfl (hb hby d7_8) (by decide) (by decide) ?_
    exact k
  obtain ⟨fs, hr, hrun, hended, hW, hsame⟩ := X1.leave (v := some (.int (1 : Int32))) (fun h => by rw [Bd.returns] at h; cases h)
  refine ⟨_, _, R2 _ ?_, hrun, hended, _, _, rfl, ?_, ⟨_, rfl⟩, hW, hsame.mono (by decide) (by decide)⟩
  · show Steps p.tables e below (T1.setTop (mkF m 12 #[.val (.ref a)] [(.int (1 : Int32))])) _
    exact retN X1 hx (t := .boolean) Bd.returns (by simp) (hb hby d7_12) hr
  · show Q_ipS Z w0 w1 w2 w3 w4 wV kV wE a z h0 n0 _ T1.heap _
    rw [e1]
    exact ⟨rfl, N0, rfl⟩
theorem d10_0 : decode jdk_32_method_5_code 0 = .ok (.aload_n 0, 1) := by decide +kernel
theorem d10_1 : decode jdk_32_method_5_code 1 = .ok (.getfield 13, 3) := by decide +kernel
theorem d10_4 : decode jdk_32_method_5_code 4 = .ok (.ifnonnull 13, 3) := by decide +kernel
theorem d10_17 : decode jdk_32_method_5_code 17 = .ok (.aload_n 0, 1) := by decide +kernel
theorem d10_18 : decode jdk_32_method_5_code 18 = .ok (.getfield 13, 3) := by decide +kernel
theorem d10_21 : decode jdk_32_method_5_code 21 = .ok (.areturn, 1) := by decide +kernel
theorem ef_oget (m : MethodId) (a : Addr) (z : Addr) : entryFrame m #[(.ref a)] 1 = mkF m 0 #[.val (.ref a)] [] := by first | (simp [entryFrame, mkF, argsToLocals, Value.category]; done) | rfl
def Q_oget (Z : State) (w0 : Addr) (w1 : Addr) (w2 : Addr) (w3 : Addr) (w4 : Addr) (wV : Addr) (kV : ClassId) (wE : Addr) (a : Addr) (z : Addr) (h0 : Heap) (n0 : Nat) (vv_ : Option Value) (hh_ : Heap) (LL_ : List Loc) : Prop := vv_ = some (.ref z) ∧ (Fr n0 LL_) ∧ (hh_ = h0)
set_option maxRecDepth 65536 in
set_option maxHeartbeats 40000000 in
theorem oget (l : Launch) (Z : State) (a0 : Array Value) (hw : ∀ d ∈ tables_1, d.before a0 Z = true) (ws : List Jvm.Cond) (w0 : Addr) (w1 : Addr) (w2 : Addr) (w3 : Addr) (w4 : Addr) (wV : Addr) (kV : ClassId) (wE : Addr) (a : Addr) (z : Addr) (h0 : Heap) (n0 : Nat) (O0 : Old Z n0 h0) (S_w0 : Sta Z Z.heap "com/example/demarcate/demarcate/Isolation" "DEFAULT" "Lcom/example/demarcate/demarcate/Isolation;" (.ref w0)) (S_w1 : Sta Z Z.heap "com/example/demarcate/demarcate/Isolation" "READ_UNCOMMITTED" "Lcom/example/demarcate/demarcate/Isolation;" (.ref w1)) (S_w2 : Sta Z Z.heap "com/example/demarcate/demarcate/Isolation" "READ_COMMITTED" "Lcom/example/demarcate/demarcate/Isolation;" (.ref w2)) (S_w3 : Sta Z Z.heap "com/example/demarcate/demarcate/Isolation" "REPEATABLE_READ" "Lcom/example/demarcate/demarcate/Isolation;" (.ref w3)) (S_w4 : Sta Z Z.heap "com/example/demarcate/demarcate/Isolation" "SERIALIZABLE" "Lcom/example/demarcate/demarcate/Isolation;" (.ref w4)) (E_w0 : Exa Z Z.heap w0 "com/example/demarcate/demarcate/Isolation") (E_w1 : Exa Z Z.heap w1 "com/example/demarcate/demarcate/Isolation") (E_w2 : Exa Z Z.heap w2 "com/example/demarcate/demarcate/Isolation") (E_w3 : Exa Z Z.heap w3 "com/example/demarcate/demarcate/Isolation") (E_w4 : Exa Z Z.heap w4 "com/example/demarcate/demarcate/Isolation") (F_w1 : Fld Z Z.heap w1 "java/lang/Enum" "ordinal" "I" (.int (1 : Int32))) (F_w2 : Fld Z Z.heap w2 "java/lang/Enum" "ordinal" "I" (.int (2 : Int32))) (F_w3 : Fld Z Z.heap w3 "java/lang/Enum" "ordinal" "I" (.int (3 : Int32))) (F_w4 : Fld Z Z.heap w4 "java/lang/Enum" "ordinal" "I" (.int (4 : Int32))) (S_wV : Sta Z Z.heap "com/example/demarcate/demarcate/Isolation" "$VALUES" "[Lcom/example/demarcate/demarcate/Isolation;" (.ref wV)) (E_wV : Exa Z Z.heap wV "[Lcom/example/demarcate/demarcate/Isolation;") (A_wV : Arv Z Z.heap wV kV (.object "com/example/demarcate/demarcate/Isolation") (5 : Int32) [(.ref w0), (.ref w1), (.ref w2), (.ref w3), (.ref w4)] .null) (S_wE : Sta Z Z.heap "java/util/Optional" "EMPTY" "Ljava/util/Optional;" (.ref wE)) (E_wE : Exa Z Z.heap wE "java/util/Optional") (F_wE : Fld Z Z.heap wE "java/util/Optional" "value" "Ljava/lang/Object;" .null) (ne_w1_w0 : w1 ≠ w0) (ne_w2_w0 : w2 ≠ w0) (ne_w3_w0 : w3 ≠ w0) (ne_w4_w0 : w4 ≠ w0) (Fa : Fld Z h0 a "java/util/Optional" "value" "Ljava/lang/Object;" (.ref z)) :
    MetFree l (⟨"java/util/Optional", "get", "()Ljava/lang/Object;"⟩ : MethodName) (head1 (Jvm.Cond.code (⟨"java/util/Optional", "get", "()Ljava/lang/Object;"⟩ : MethodName) jdk_32_method_5_code 1 (some (.object "java/lang/Object")) :: ws) ({ frames := 0, cells := 0, slots := 0, locals := 0 } : Room)) (fun aa_ U_ => aa_ = #[(.ref a)] ∧ Z.Warmed39 U_.vm ∧ U_.heap = h0) (fun _ _ _ _ _ => True) (fun _ U_ oo_ V_ => ∃ vv_ LL_, oo_ = .returned vv_ ∧ Q_oget Z w0 w1 w2 w3 w4 wV kV wE a z h0 n0 vv_ V_.heap LL_ ∧ FrameEnd U_ oo_ V_ LL_ ({ frames := 0, cells := 0, slots := 0, locals := 0 } : Room).cells ({ frames := 0, cells := 0, slots := 0, locals := 0 } : Room).slots) := by
  refine MetFree.of_bodySF (plainFor_of_name pn_java_util_Optional) hisR ?_
  intro p e s m args below meth c s₁ Bd hml0 hP hK
  obtain ⟨rfl, hZ, hh⟩ := hP
  have hx := Bd.exec
  have hby := Bd.bytes
  have hml : c.maxLocals = 1 := hml0
  have hown : s.vm.findClass "java/util/Optional" = some m.cls := findClass_of_methodNamed Bd.named
  have hnm := (name_of_methodNamed Bd.named Bd.method).1
  have X0 : Stand p l e ({ frames := 0, cells := 0, slots := 0, locals := 0 } : Room) s m #[(.ref a)] below meth c s₁ [] 0 0 := Stand.of_body Bd
  have e0 : s₁.heap = h0 := by rw [← hh, Bd.state]; rfl
  have N0 := Fr.nil n0
  have Z0 : n0 ≤ h0.size := O0.1 ▸ O0.2.1
  have hk0 := Nat.zero_le h0.size
  have K0 : Keep h0 h0 [] := Keep.refl _ _
  have R0 : ∀ t, Steps p.tables e below (s₁.setTop (mkF m 0 #[.val (.ref a)] [])) t → Steps p.tables e below (s₁.setTop (entryFrame m #[(.ref a)] 1)) t := fun t k => castTop (ef_oget m a z) k
  obtain ⟨T1, X1, e1, st1⟩ := getF X0 hx hZ hown (host := "") (Or.inl (hw _ (List.mem_of_getElem? (i := 53) rfl))) Via.refl e0 Fa (g := (mkF m 1 #[.val (.ref a)] [(.ref a)])) rfl rfl (hb hby d10_1)
  obtain ⟨T2, X2, e2, st2⟩ := getF X1 hx hZ hown (host := "") (Or.inl (hw _ (List.mem_of_getElem? (i := 53) rfl))) Via.refl e1 Fa (g := (mkF m 18 #[.val (.ref a)] [(.ref a)])) rfl rfl (hb hby d10_18)
  have R3 : ∀ t, Steps p.tables e below (T2.setTop (mkF m 21 #[.val (.ref a)] [(.ref z)])) t → Steps p.tables e below (s₁.setTop (entryFrame m #[(.ref a)] 1)) t := by
    intro t k
    refine R0 t ?_
    show Steps p.tables e below (s₁.setTop (mkF m 0 #[.val (.ref a)] [])) t
    refine XS.aloadN X0.here hx rfl (hb hby d10_0) rfl rfl ?_
    show Steps p.tables e below (s₁.setTop (mkF m 1 #[.val (.ref a)] [(.ref a)])) t
    refine st1 _ ?_
    show Steps p.tables e below (T1.setTop (mkF m 4 #[.val (.ref a)] [(.ref z)])) t
    refine XS.ifnonnullYes X1.here hx rfl (pc0 := 4) (pc' := 17) rfl (hb hby d10_4) rfl (by decide) (by decide) ?_
    show Steps p.tables e below (T1.setTop (mkF m 17 #[.val (.ref a)] [])) t
    refine XS.aloadN X1.here hx rfl (hb hby d10_17) rfl rfl ?_
    show Steps p.tables e below (T1.setTop (mkF m 18 #[.val (.ref a)] [(.ref a)])) t
    refine st2 _ ?_
    exact k
  obtain ⟨fs, hr, hrun, hended, hW, hsame⟩ := X2.leave (v := some (.ref z)) (fun h => by rw [Bd.returns] at h; cases h)
  refine ⟨_, _, R3 _ ?_, hrun, hended, _, _, rfl, ?_, ⟨_, rfl⟩, hW, hsame.mono (by decide) (by decide)⟩
  · show Steps p.tables e below (T2.setTop (mkF m 21 #[.val (.ref a)] [(.ref z)])) _
    exact retOut X2 hx Bd.returns rfl (Or.inr (Or.inr (Or.inr (Or.inr ⟨rfl, rfl, rfl⟩)))) (hb hby d10_21) hr
  · show Q_oget Z w0 w1 w2 w3 w4 wV kV wE a z h0 n0 _ T2.heap _
    rw [e2]
    exact ⟨rfl, N0, rfl⟩
theorem d1_0 : decode method_2_code 0 = .ok (.iload_n 0, 1) := by decide +kernel
theorem d1_1 : decode method_2_code 1 = .ok (.iconst 1, 1) := by decide +kernel
theorem d1_2 : decode method_2_code 2 = .ok (.if_icmp .ne 7, 3) := by decide +kernel
theorem d1_5 : decode method_2_code 5 = .ok (.getstatic 7, 3) := by decide +kernel
theorem d1_8 : decode method_2_code 8 = .ok (.areturn, 1) := by decide +kernel
theorem pn_com_example_demarcate_demarcate_IsolationOfJdbcLevelPinLaw : plainName "com/example/demarcate/demarcate/IsolationOfJdbcLevelPinLaw" = true := by first | (simp [plainName, overriddenIn]; done) | decide +kernel
theorem ef_exp0 (m : MethodId) (lev : Int32) : entryFrame m #[(.int lev)] 1 = mkF m 0 #[.val (.int lev)] [] := by first | (simp [entryFrame, mkF, argsToLocals, Value.category]; done) | rfl
def Q_exp0 (Z : State) (w0 : Addr) (w1 : Addr) (w2 : Addr) (w3 : Addr) (w4 : Addr) (wV : Addr) (kV : ClassId) (wE : Addr) (lev : Int32) (h0 : Heap) (n0 : Nat) (vv_ : Option Value) (hh_ : Heap) (LL_ : List Loc) : Prop := vv_ = some (.ref w1) ∧ (Fr n0 LL_) ∧ (hh_ = h0)
set_option maxRecDepth 65536 in
set_option maxHeartbeats 40000000 in
theorem exp0 (l : Launch) (Z : State) (a0 : Array Value) (hw : ∀ d ∈ tables_1, d.before a0 Z = true) (ws : List Jvm.Cond) (w0 : Addr) (w1 : Addr) (w2 : Addr) (w3 : Addr) (w4 : Addr) (wV : Addr) (kV : ClassId) (wE : Addr) (lev : Int32) (h0 : Heap) (n0 : Nat) (O0 : Old Z n0 h0) (S_w0 : Sta Z Z.heap "com/example/demarcate/demarcate/Isolation" "DEFAULT" "Lcom/example/demarcate/demarcate/Isolation;" (.ref w0)) (S_w1 : Sta Z Z.heap "com/example/demarcate/demarcate/Isolation" "READ_UNCOMMITTED" "Lcom/example/demarcate/demarcate/Isolation;" (.ref w1)) (S_w2 : Sta Z Z.heap "com/example/demarcate/demarcate/Isolation" "READ_COMMITTED" "Lcom/example/demarcate/demarcate/Isolation;" (.ref w2)) (S_w3 : Sta Z Z.heap "com/example/demarcate/demarcate/Isolation" "REPEATABLE_READ" "Lcom/example/demarcate/demarcate/Isolation;" (.ref w3)) (S_w4 : Sta Z Z.heap "com/example/demarcate/demarcate/Isolation" "SERIALIZABLE" "Lcom/example/demarcate/demarcate/Isolation;" (.ref w4)) (E_w0 : Exa Z Z.heap w0 "com/example/demarcate/demarcate/Isolation") (E_w1 : Exa Z Z.heap w1 "com/example/demarcate/demarcate/Isolation") (E_w2 : Exa Z Z.heap w2 "com/example/demarcate/demarcate/Isolation") (E_w3 : Exa Z Z.heap w3 "com/example/demarcate/demarcate/Isolation") (E_w4 : Exa Z Z.heap w4 "com/example/demarcate/demarcate/Isolation") (F_w1 : Fld Z Z.heap w1 "java/lang/Enum" "ordinal" "I" (.int (1 : Int32))) (F_w2 : Fld Z Z.heap w2 "java/lang/Enum" "ordinal" "I" (.int (2 : Int32))) (F_w3 : Fld Z Z.heap w3 "java/lang/Enum" "ordinal" "I" (.int (3 : Int32))) (F_w4 : Fld Z Z.heap w4 "java/lang/Enum" "ordinal" "I" (.int (4 : Int32))) (S_wV : Sta Z Z.heap "com/example/demarcate/demarcate/Isolation" "$VALUES" "[Lcom/example/demarcate/demarcate/Isolation;" (.ref wV)) (E_wV : Exa Z Z.heap wV "[Lcom/example/demarcate/demarcate/Isolation;") (A_wV : Arv Z Z.heap wV kV (.object "com/example/demarcate/demarcate/Isolation") (5 : Int32) [(.ref w0), (.ref w1), (.ref w2), (.ref w3), (.ref w4)] .null) (S_wE : Sta Z Z.heap "java/util/Optional" "EMPTY" "Ljava/util/Optional;" (.ref wE)) (E_wE : Exa Z Z.heap wE "java/util/Optional") (F_wE : Fld Z Z.heap wE "java/util/Optional" "value" "Ljava/lang/Object;" .null) (ne_w1_w0 : w1 ≠ w0) (ne_w2_w0 : w2 ≠ w0) (ne_w3_w0 : w3 ≠ w0) (ne_w4_w0 : w4 ≠ w0) (hq0 : lev = (1 : Int32)) :
    MetFree l (⟨"com/example/demarcate/demarcate/IsolationOfJdbcLevelPinLaw", "expected", "(I)Lcom/example/demarcate/demarcate/Isolation;"⟩ : MethodName) (head1 (Jvm.Cond.code (⟨"com/example/demarcate/demarcate/IsolationOfJdbcLevelPinLaw", "expected", "(I)Lcom/example/demarcate/demarcate/Isolation;"⟩ : MethodName) method_2_code 1 (some (.object "com/example/demarcate/demarcate/Isolation")) :: ws) ({ frames := 0, cells := 0, slots := 0, locals := 0 } : Room)) (fun aa_ U_ => aa_ = #[(.int lev)] ∧ Z.Warmed39 U_.vm ∧ U_.heap = h0) (fun _ _ _ _ _ => True) (fun _ U_ oo_ V_ => ∃ vv_ LL_, oo_ = .returned vv_ ∧ Q_exp0 Z w0 w1 w2 w3 w4 wV kV wE lev h0 n0 vv_ V_.heap LL_ ∧ FrameEnd U_ oo_ V_ LL_ ({ frames := 0, cells := 0, slots := 0, locals := 0 } : Room).cells ({ frames := 0, cells := 0, slots := 0, locals := 0 } : Room).slots) := by
  refine MetFree.of_bodySF (plainFor_of_name pn_com_example_demarcate_demarcate_IsolationOfJdbcLevelPinLaw) hisR ?_
  intro p e s m args below meth c s₁ Bd hml0 hP hK
  obtain ⟨rfl, hZ, hh⟩ := hP
  have hx := Bd.exec
  have hby := Bd.bytes
  have hml : c.maxLocals = 1 := hml0
  have hown : s.vm.findClass "com/example/demarcate/demarcate/IsolationOfJdbcLevelPinLaw" = some m.cls := findClass_of_methodNamed Bd.named
  have hnm := (name_of_methodNamed Bd.named Bd.method).1
  have X0 : Stand p l e ({ frames := 0, cells := 0, slots := 0, locals := 0 } : Room) s m #[(.int lev)] below meth c s₁ [] 0 0 := Stand.of_body Bd
  have e0 : s₁.heap = h0 := by rw [← hh, Bd.state]; rfl
  have N0 := Fr.nil n0
  have Z0 : n0 ≤ h0.size := O0.1 ▸ O0.2.1
  have hk0 := Nat.zero_le h0.size
  have K0 : Keep h0 h0 [] := Keep.refl _ _
  have R0 : ∀ t, Steps p.tables e below (s₁.setTop (mkF m 0 #[.val (.int lev)] [])) t → Steps p.tables e below (s₁.setTop (entryFrame m #[(.int lev)] 1)) t := fun t k => castTop (ef_exp0 m lev) k
  obtain ⟨T1, X1, e1, st1⟩ := getS2 X0 hx hZ hown (host := "") (Or.inl (hw _ (List.mem_of_getElem? (i := 70) rfl))) Via.refl e0 (S_w1.ext O0.2) (g := (mkF m 5 #[.val (.int lev)] [])) rfl (hb hby d1_5)
  have R2 : ∀ t, Steps p.tables e below (T1.setTop (mkF m 8 #[.val (.int lev)] [(.ref w1)])) t → Steps p.tables e below (s₁.setTop (entryFrame m #[(.int lev)] 1)) t := by
    intro t k
    refine R0 t ?_
    show Steps p.tables e below (s₁.setTop (mkF m 0 #[.val (.int lev)] [])) t
    refine XS.iloadN X0.here hx rfl (hb hby d1_0) rfl ?_
    show Steps p.tables e below (s₁.setTop (mkF m 1 #[.val (.int lev)] [(.int lev)])) t
    refine XS.iconst X0.here hx rfl (hb hby d1_1) ?_
    show Steps p.tables e below (s₁.setTop (mkF m 2 #[.val (.int lev)] [(.int (1 : Int32)), (.int lev)])) t
    refine XS.icmpNo X0.here hx rfl (hb hby d1_2) rfl (teq (hq0 : lev = (1 : Int32))).2 ?_
    show Steps p.tables e below (s₁.setTop (mkF m 5 #[.val (.int lev)] [])) t
    refine st1 _ ?_
    exact k
  obtain ⟨fs, hr, hrun, hended, hW, hsame⟩ := X1.leave (v := some (.ref w1)) (fun h => by rw [Bd.returns] at h; cases h)
  refine ⟨_, _, R2 _ ?_, hrun, hended, _, _, rfl, ?_, ⟨_, rfl⟩, hW, hsame.mono (by decide) (by decide)⟩
  · show Steps p.tables e below (T1.setTop (mkF m 8 #[.val (.int lev)] [(.ref w1)])) _
    exact retOut X1 hx Bd.returns rfl (Or.inr (Or.inr (Or.inr (Or.inr ⟨rfl, rfl, rfl⟩)))) (hb hby d1_8) hr
  · show Q_exp0 Z w0 w1 w2 w3 w4 wV kV wE lev h0 n0 _ T1.heap _
    rw [e1]
    exact ⟨rfl, N0, rfl⟩
theorem d2_0 : decode prog_11_method_5_code 0 = .ok (.aconst_null, 1) := by decide +kernel
theorem d2_1 : decode prog_11_method_5_code 1 = .ok (.astore_n 1, 1) := by decide +kernel
theorem pd_2 : parseMethodDescriptor "()[Lcom/example/demarcate/demarcate/Isolation;" = some ⟨[], some (.array (.object "com/example/demarcate/demarcate/Isolation"))⟩ := by decide +kernel
theorem d2_2 : decode prog_11_method_5_code 2 = .ok (.invokestatic 56, 3) := by decide +kernel
theorem d2_5 : decode prog_11_method_5_code 5 = .ok (.astore_n 2, 1) := by decide +kernel
theorem d2_6 : decode prog_11_method_5_code 6 = .ok (.aload_n 2, 1) := by decide +kernel
theorem d2_7 : decode prog_11_method_5_code 7 = .ok (.arraylength, 1) := by decide +kernel
theorem d2_8 : decode prog_11_method_5_code 8 = .ok (.istore_n 3, 1) := by decide +kernel
theorem d2_9 : decode prog_11_method_5_code 9 = .ok (.iconst 0, 1) := by decide +kernel
theorem d2_10 : decode prog_11_method_5_code 10 = .ok (.istore 4, 2) := by decide +kernel
theorem d2_12 : decode prog_11_method_5_code 12 = .ok (.iload 4, 2) := by decide +kernel
theorem d2_14 : decode prog_11_method_5_code 14 = .ok (.iload_n 3, 1) := by decide +kernel
theorem d2_15 : decode prog_11_method_5_code 15 = .ok (.if_icmp .ge 38, 3) := by decide +kernel
theorem d2_18 : decode prog_11_method_5_code 18 = .ok (.aload_n 2, 1) := by decide +kernel
theorem d2_19 : decode prog_11_method_5_code 19 = .ok (.iload 4, 2) := by decide +kernel
theorem d2_21 : decode prog_11_method_5_code 21 = .ok (.aaload, 1) := by decide +kernel
theorem d2_22 : decode prog_11_method_5_code 22 = .ok (.astore 5, 2) := by decide +kernel
theorem d2_24 : decode prog_11_method_5_code 24 = .ok (.aload 5, 2) := by decide +kernel
theorem d2_26 : decode prog_11_method_5_code 26 = .ok (.getstatic 3, 3) := by decide +kernel
theorem d2_29 : decode prog_11_method_5_code 29 = .ok (.if_acmp .eq 18, 3) := by decide +kernel
theorem d2_47 : decode prog_11_method_5_code 47 = .ok (.iinc 4 1, 3) := by decide +kernel
theorem d2_50 : decode prog_11_method_5_code 50 = .ok (.goto (-38), 3) := by decide +kernel
theorem d2_32 : decode prog_11_method_5_code 32 = .ok (.aload 5, 2) := by decide +kernel
theorem d2_34 : decode prog_11_method_5_code 34 = .ok (.invokevirtual 60, 3) := by decide +kernel
theorem d2_37 : decode prog_11_method_5_code 37 = .ok (.iload_n 0, 1) := by decide +kernel
theorem d2_38 : decode prog_11_method_5_code 38 = .ok (.if_icmp .ne 9, 3) := by decide +kernel
theorem d2_41 : decode prog_11_method_5_code 41 = .ok (.aload 5, 2) := by decide +kernel
theorem d2_43 : decode prog_11_method_5_code 43 = .ok (.astore_n 1, 1) := by decide +kernel
theorem d2_44 : decode prog_11_method_5_code 44 = .ok (.goto 9, 3) := by decide +kernel
theorem d2_53 : decode prog_11_method_5_code 53 = .ok (.aload_n 1, 1) := by decide +kernel
theorem pd_3 : parseMethodDescriptor "(Ljava/lang/Object;)Ljava/util/Optional;" = some ⟨[(.object "java/lang/Object")], some (.object "java/util/Optional")⟩ := by decide +kernel
theorem d2_54 : decode prog_11_method_5_code 54 = .ok (.invokestatic 63, 3) := by decide +kernel
theorem d2_57 : decode prog_11_method_5_code 57 = .ok (.areturn, 1) := by decide +kernel
theorem ef_oj0 (m : MethodId) (lev : Int32) : entryFrame m #[(.int lev)] 6 = mkF m 0 #[.val (.int lev), .unset, .unset, .unset, .unset, .unset] [] := by first | (simp [entryFrame, mkF, argsToLocals, Value.category]; done) | rfl
def Q_oj0 (Z : State) (w0 : Addr) (w1 : Addr) (w2 : Addr) (w3 : Addr) (w4 : Addr) (wV : Addr) (kV : ClassId) (wE : Addr) (lev : Int32) (h0 : Heap) (n0 : Nat) (vv_ : Option Value) (hh_ : Heap) (LL_ : List Loc) : Prop := ∃ (b : Addr), vv_ = some (.ref b) ∧ (Fr n0 LL_) ∧ (Keep h0 hh_ []) ∧ (Exa Z hh_ b "java/util/Optional") ∧ (Fld Z hh_ b "java/util/Optional" "value" "Ljava/lang/Object;" (.ref w1))
set_option maxRecDepth 65536 in
set_option maxHeartbeats 40000000 in
theorem oj0 (l : Launch) (Z : State) (a0 : Array Value) (hw : ∀ d ∈ tables_1, d.before a0 Z = true) (ws : List Jvm.Cond) (w0 : Addr) (w1 : Addr) (w2 : Addr) (w3 : Addr) (w4 : Addr) (wV : Addr) (kV : ClassId) (wE : Addr) (lev : Int32) (h0 : Heap) (n0 : Nat) (O0 : Old Z n0 h0) (S_w0 : Sta Z Z.heap "com/example/demarcate/demarcate/Isolation" "DEFAULT" "Lcom/example/demarcate/demarcate/Isolation;" (.ref w0)) (S_w1 : Sta Z Z.heap "com/example/demarcate/demarcate/Isolation" "READ_UNCOMMITTED" "Lcom/example/demarcate/demarcate/Isolation;" (.ref w1)) (S_w2 : Sta Z Z.heap "com/example/demarcate/demarcate/Isolation" "READ_COMMITTED" "Lcom/example/demarcate/demarcate/Isolation;" (.ref w2)) (S_w3 : Sta Z Z.heap "com/example/demarcate/demarcate/Isolation" "REPEATABLE_READ" "Lcom/example/demarcate/demarcate/Isolation;" (.ref w3)) (S_w4 : Sta Z Z.heap "com/example/demarcate/demarcate/Isolation" "SERIALIZABLE" "Lcom/example/demarcate/demarcate/Isolation;" (.ref w4)) (E_w0 : Exa Z Z.heap w0 "com/example/demarcate/demarcate/Isolation") (E_w1 : Exa Z Z.heap w1 "com/example/demarcate/demarcate/Isolation") (E_w2 : Exa Z Z.heap w2 "com/example/demarcate/demarcate/Isolation") (E_w3 : Exa Z Z.heap w3 "com/example/demarcate/demarcate/Isolation") (E_w4 : Exa Z Z.heap w4 "com/example/demarcate/demarcate/Isolation") (F_w1 : Fld Z Z.heap w1 "java/lang/Enum" "ordinal" "I" (.int (1 : Int32))) (F_w2 : Fld Z Z.heap w2 "java/lang/Enum" "ordinal" "I" (.int (2 : Int32))) (F_w3 : Fld Z Z.heap w3 "java/lang/Enum" "ordinal" "I" (.int (3 : Int32))) (F_w4 : Fld Z Z.heap w4 "java/lang/Enum" "ordinal" "I" (.int (4 : Int32))) (S_wV : Sta Z Z.heap "com/example/demarcate/demarcate/Isolation" "$VALUES" "[Lcom/example/demarcate/demarcate/Isolation;" (.ref wV)) (E_wV : Exa Z Z.heap wV "[Lcom/example/demarcate/demarcate/Isolation;") (A_wV : Arv Z Z.heap wV kV (.object "com/example/demarcate/demarcate/Isolation") (5 : Int32) [(.ref w0), (.ref w1), (.ref w2), (.ref w3), (.ref w4)] .null) (S_wE : Sta Z Z.heap "java/util/Optional" "EMPTY" "Ljava/util/Optional;" (.ref wE)) (E_wE : Exa Z Z.heap wE "java/util/Optional") (F_wE : Fld Z Z.heap wE "java/util/Optional" "value" "Ljava/lang/Object;" .null) (ne_w1_w0 : w1 ≠ w0) (ne_w2_w0 : w2 ≠ w0) (ne_w3_w0 : w3 ≠ w0) (ne_w4_w0 : w4 ≠ w0) (hq0 : (1 : Int32) = lev) :
    MetFree l (⟨"com/example/demarcate/demarcate/Isolation", "ofJdbcLevel", "(I)Ljava/util/Optional;"⟩ : MethodName) (head1 (Jvm.Cond.code (⟨"com/example/demarcate/demarcate/Isolation", "ofJdbcLevel", "(I)Ljava/util/Optional;"⟩ : MethodName) prog_11_method_5_code 6 (some (.object "java/util/Optional")) :: ws) ({ frames := 3, cells := 2, slots := 6, locals := 38 } : Room)) (fun aa_ U_ => aa_ = #[(.int lev)] ∧ Z.Warmed39 U_.vm ∧ U_.heap = h0) (fun _ _ _ _ _ => True) (fun _ U_ oo_ V_ => ∃ vv_ LL_, oo_ = .returned vv_ ∧ Q_oj0 Z w0 w1 w2 w3 w4 wV kV wE lev h0 n0 vv_ V_.heap LL_ ∧ FrameEnd U_ oo_ V_ LL_ ({ frames := 3, cells := 2, slots := 6, locals := 38 } : Room).cells ({ frames := 3, cells := 2, slots := 6, locals := 38 } : Room).slots) := by
  refine MetFree.of_bodySF (plainFor_of_name pn_com_example_demarcate_demarcate_Isolation) hisR ?_
  intro p e s m args below meth c s₁ Bd hml0 hP hK
  obtain ⟨rfl, hZ, hh⟩ := hP
  have hx := Bd.exec
  have hby := Bd.bytes
  have hml : c.maxLocals = 6 := hml0
  have hown : s.vm.findClass "com/example/demarcate/demarcate/Isolation" = some m.cls := findClass_of_methodNamed Bd.named
  have hnm := (name_of_methodNamed Bd.named Bd.method).1
  have X0 : Stand p l e ({ frames := 3, cells := 2, slots := 6, locals := 38 } : Room) s m #[(.int lev)] below meth c s₁ [] 0 0 := Stand.of_body Bd
  have e0 : s₁.heap = h0 := by rw [← hh, Bd.state]; rfl
  have N0 := Fr.nil n0
  have Z0 : n0 ≤ h0.size := O0.1 ▸ O0.2.1
  have hk0 := Nat.zero_le h0.size
  have K0 : Keep h0 h0 [] := Keep.refl _ _
  have R0 : ∀ t, Steps p.tables e below (s₁.setTop (mkF m 0 #[.val (.int lev), .unset, .unset, .unset, .unset, .unset] [])) t → Steps p.tables e below (s₁.setTop (entryFrame m #[(.int lev)] 6)) t := fun t k => castTop (ef_oj0 m lev) k
  obtain ⟨_, _, ⟨T1, L1, k1, n1⟩, -, X1, ⟨Lc1, hQ1, l1, y1, z1⟩, st1⟩ := Jvm.LawKit.callS X0 hx (y := (⟨"com/example/demarcate/demarcate/Isolation", "values", "()[Lcom/example/demarcate/demarcate/Isolation;"⟩ : MethodName)) hown (mvT hZ (hw _ (List.mem_of_getElem? (i := 8) rfl))) (mvT hZ (hw _ (List.mem_of_getElem? (i := 9) rfl))) (mvT hZ (hw _ (List.mem_of_getElem? (i := 6) rfl))) (mvT hZ (hw _ (List.mem_of_getElem? (i := 10) rfl))) (by decide) (backOf (W := 0) (values l Z a0 hw [] w0 w1 w2 w3 w4 wV kV wE  h0 n0 O0 S_w0 S_w1 S_w2 S_w3 S_w4 E_w0 E_w1 E_w2 E_w3 E_w4 F_w1 F_w2 F_w3 F_w4 S_wV E_wV A_wV S_wE E_wE F_wE ne_w1_w0 ne_w2_w0 ne_w3_w0 ne_w4_w0   ) hZ (hw _ (List.mem_of_getElem? (i := 10) rfl)) (hw _ (List.mem_of_getElem? (i := 6) rfl)) (by decide) (by decide)) (g := (mkF m 2 #[.val (.int lev), .val .null, .unset, .unset, .unset, .unset] [])) rfl (by rw [hml]; rfl) (argsL := []) (rest := []) (lenOf pd_2 rfl) rfl (by show 2 * 0 + _ ≤ _; exact Nat.le_of_eq rfl) (hb hby d2_2) (fun _ _ => ⟨rfl, e0, (by decide : 0 + 1 ≤ _), (by decide : 0 + 5 ≤ _)⟩)
  dsimp only [Pt.U, Pt.locs, Pt.cells, Pt.slots] at X1 l1 y1 z1 st1 hQ1
  subst l1 y1 z1
  obtain ⟨b1, rfl, N1q, K1q, fr1_b, y1_0, y1_1⟩ := hQ1
  have N1 := Fr.app N0 N1q
  have g_b1 : n0 ≤ b1 := Nat.le_trans Z0 fr1_b
  have sz_b1 : h0.size ≤ b1 := Nat.le_trans K0.1 fr1_b
  have Z1 : n0 ≤ T1.heap.size := Nat.le_trans Z0 K1q.1
  have K1 : Keep h0 T1.heap [] := K0.trans K1q all0
  have O1 : Old Z n0 T1.heap := O0.keep K1q all0
  obtain ⟨cl2, Ar2, -, S2, M2, -, -⟩ := id y1_1
  obtain ⟨cl3, Ar3, q3, S3, M3, H3, G3⟩ := id y1_1
  have in3 : ¬ ((0 : Int32) < 0 ∨ cl3.slots.size ≤ ((0 : Int32)).toNatClampNeg) := inb_of S3 ⟨by decide, by decide⟩
  have at3 : cl3.slots[((0 : Int32)).toNatClampNeg]? = some (.ref w0) := H3.at in3 rfl
  obtain ⟨T4, X4, e4, st4⟩ := getS2 X1 hx hZ hown (host := "") (Or.inl (hw _ (List.mem_of_getElem? (i := 28) rfl))) Via.refl rfl (S_w0.ext O1.2) (g := (mkF m 26 #[.val (.int lev), .val .null, .val (.ref b1), .val (.int (5 : Int32)), .val (.int (0 : Int32)), .val (.ref w0)] [(.ref w0)])) rfl (hb hby d2_26)
  obtain ⟨cl5, Ar5, q5, S5, M5, H5, G5⟩ := id y1_1
  have in5 : ¬ ((1 : Int32) < 0 ∨ cl5.slots.size ≤ ((1 : Int32)).toNatClampNeg) := inb_of S5 ⟨by decide, by decide⟩
  have at5 : cl5.slots[((1 : Int32)).toNatClampNeg]? = some (.ref w1) := H5.at in5 rfl
  obtain ⟨T6, X6, e6, st6⟩ := getS2 X4 hx hZ hown (host := "") (Or.inl (hw _ (List.mem_of_getElem? (i := 28) rfl))) Via.refl e4 (S_w0.ext O1.2) (g := (mkF m 26 #[.val (.int lev), .val .null, .val (.ref b1), .val (.int (5 : Int32)), .val (.int (1 : Int32)), .val (.ref w1)] [(.ref w1)])) rfl (hb hby d2_26)
  obtain ⟨cq7, kq7, q7a, q7b, q7c⟩ := isOf hZ e6 (E_w1.ext O1.2)
  obtain ⟨_, _, ⟨T7, L7, k7, n7⟩, -, X7, ⟨Lc7, hQ7, l7, y7, z7⟩, st7⟩ := X6.virtualBack hx (y := (⟨"com/example/demarcate/demarcate/Isolation", "jdbcLevel", "()I"⟩ : MethodName)) (z := (⟨"com/example/demarcate/demarcate/Isolation", "jdbcLevel", "()I"⟩ : MethodName)) hown (mvT hZ (hw _ (List.mem_of_getElem? (i := 29) rfl))) (mvT hZ (hw _ (List.mem_of_getElem? (i := 30) rfl))) (notFace_of_selects (args := #[]) (mvT hZ (hw _ (List.mem_of_getElem? (i := 32) rfl)))) (mvT hZ (hw _ (List.mem_of_getElem? (i := 32) rfl))) (mvT hZ (hw _ (List.mem_of_getElem? (i := 31) rfl))) (by decide) (backOf (W := 0) (jl1 l Z a0 hw [] w0 w1 w2 w3 w4 wV kV wE w1 T1.heap n0 O1 S_w0 S_w1 S_w2 S_w3 S_w4 E_w0 E_w1 E_w2 E_w3 E_w4 F_w1 F_w2 F_w3 F_w4 S_wV E_wV A_wV S_wE E_wE F_wE ne_w1_w0 ne_w2_w0 ne_w3_w0 ne_w4_w0   (E_w1.ext O1.2) (F_w1.ext O1.2)) hZ (hw _ (List.mem_of_getElem? (i := 33) rfl)) (hw _ (List.mem_of_getElem? (i := 6) rfl)) (by decide) (by decide)) q7a q7c (g := (mkF m 34 #[.val (.int lev), .val .null, .val (.ref b1), .val (.int (5 : Int32)), .val (.int (1 : Int32)), .val (.ref w1)] [(.ref w1)])) rfl (by rw [hml]; rfl) (Steps.refl _) (argsL := []) (rest := []) (lenOf pd_0 rfl) rfl (by show 2 * 0 + _ ≤ _; exact Nat.le_of_eq rfl) (hb hby d2_34) (fun _ _ => ⟨rfl, e6, (by decide : 1 + 0 ≤ _), (by decide : 5 + 0 ≤ _)⟩)
  dsimp only [Pt.U, Pt.locs, Pt.cells, Pt.slots] at X7 l7 y7 z7 st7 hQ7
  subst l7 y7 z7
  obtain ⟨rfl, N7q, e7⟩ := hQ7
  have N7 := Fr.app N1 N7q
  obtain ⟨_, _, ⟨T8, L8, k8, n8⟩, -, X8, ⟨Lc8, hQ8, l8, y8, z8⟩, st8⟩ := Jvm.LawKit.callS X7 hx (y := (⟨"java/util/Optional", "ofNullable", "(Ljava/lang/Object;)Ljava/util/Optional;"⟩ : MethodName)) hown (mvT hZ (hw _ (List.mem_of_getElem? (i := 43) rfl))) (mvT hZ (hw _ (List.mem_of_getElem? (i := 44) rfl))) (mvT hZ (hw _ (List.mem_of_getElem? (i := 45) rfl))) (mvT hZ (hw _ (List.mem_of_getElem? (i := 46) rfl))) (by decide) (backOf (W := 0) (onS l Z a0 hw [] w0 w1 w2 w3 w4 wV kV wE w1 T1.heap n0 O1 S_w0 S_w1 S_w2 S_w3 S_w4 E_w0 E_w1 E_w2 E_w3 E_w4 F_w1 F_w2 F_w3 F_w4 S_wV E_wV A_wV S_wE E_wE F_wE ne_w1_w0 ne_w2_w0 ne_w3_w0 ne_w4_w0   ) hZ (hw _ (List.mem_of_getElem? (i := 46) rfl)) (hw _ (List.mem_of_getElem? (i := 45) rfl)) (by decide) (by decide)) (g := (mkF m 54 #[.val (.int lev), .val (.ref w1), .val (.ref b1), .val (.int (5 : Int32)), .val (.int (1 : Int32)), .val (.ref w1)] [(.ref w1)])) rfl (by rw [hml]; rfl) (argsL := [(.ref w1)]) (rest := []) (lenOf pd_3 rfl) rfl (by show 2 * 0 + _ ≤ _; exact Nat.le_of_eq rfl) (hb hby d2_54) (fun _ _ => ⟨rfl, e7, (by decide : 1 + 1 ≤ _), (by decide : 5 + 1 ≤ _)⟩)
  dsimp only [Pt.U, Pt.locs, Pt.cells, Pt.slots] at X8 l8 y8 z8 st8 hQ8
  subst l8 y8 z8
  obtain ⟨b8, rfl, N8q, K8q, fr8_b, y8_0, y8_1⟩ := hQ8
  have N8 := Fr.app N7 N8q
  have ne_b1_b8 : b1 ≠ b8 := Nat.ne_of_lt (Nat.lt_of_lt_of_le y1_0.lt fr8_b)
  have g_b8 : n0 ≤ b8 := Nat.le_trans Z1 fr8_b
  have sz_b8 : h0.size ≤ b8 := Nat.le_trans K1.1 fr8_b
  have Z8 : n0 ≤ T8.heap.size := Nat.le_trans Z1 K8q.1
  have K8 : Keep h0 T8.heap [] := K1.trans K8q all0
  have O8 : Old Z n0 T8.heap := O1.keep K8q all0
  have R9 : ∀ t, Steps p.tables e below (T8.setTop (mkF m 57 #[.val (.int lev), .val (.ref w1), .val (.ref b1), .val (.int (5 : Int32)), .val (.int (1 : Int32)), .val (.ref w1)] [(.ref b8)])) t → Steps p.tables e below (s₁.setTop (entryFrame m #[(.int lev)] 6)) t := by
    intro t k
    refine R0 t ?_
    show Steps p.tables e below (s₁.setTop (mkF m 0 #[.val (.int lev), .unset, .unset, .unset, .unset, .unset] [])) t
    refine XS.aconstNull X0.here hx rfl (hb hby d2_0) ?_
    show Steps p.tables e below (s₁.setTop (mkF m 1 #[.val (.int lev), .unset, .unset, .unset, .unset, .unset] [.null])) t
    refine XS.astoreN X0.here hx rfl (hb hby d2_1) rfl rfl (l' := #[.val (.int lev), .val .null, .unset, .unset, .unset, .unset]) rfl ?_
    show Steps p.tables e below (s₁.setTop (mkF m 2 #[.val (.int lev), .val .null, .unset, .unset, .unset, .unset] [])) t
    refine st1 _ ?_
    show Steps p.tables e below (T1.setTop (mkF m 5 #[.val (.int lev), .val .null, .unset, .unset, .unset, .unset] [(.ref b1)])) t
    refine XS.astoreN X1.here hx rfl (hb hby d2_5) rfl rfl (l' := #[.val (.int lev), .val .null, .val (.ref b1), .unset, .unset, .unset]) rfl ?_
    show Steps p.tables e below (T1.setTop (mkF m 6 #[.val (.int lev), .val .null, .val (.ref b1), .unset, .unset, .unset] [])) t
    refine XS.aloadN X1.here hx rfl (hb hby d2_6) rfl rfl ?_
    show Steps p.tables e below (T1.setTop (mkF m 7 #[.val (.int lev), .val .null, .val (.ref b1), .unset, .unset, .unset] [(.ref b1)])) t
    refine X1.arraylength hx Ar2.1 (State.isArrayOf_alike hZ.alike Ar2.2.1) (g := (mkF m 7 #[.val (.int lev), .val .null, .val (.ref b1), .unset, .unset, .unset] [(.ref b1)])) rfl rfl (hb hby d2_7) _ ?_
    rw [len_of S2 M2]
    show Steps p.tables e below (T1.setTop (mkF m 8 #[.val (.int lev), .val .null, .val (.ref b1), .unset, .unset, .unset] [(.int (5 : Int32))])) t
    refine XS.istoreN X1.here hx rfl (hb hby d2_8) rfl (l' := #[.val (.int lev), .val .null, .val (.ref b1), .val (.int (5 : Int32)), .unset, .unset]) rfl ?_
    show Steps p.tables e below (T1.setTop (mkF m 9 #[.val (.int lev), .val .null, .val (.ref b1), .val (.int (5 : Int32)), .unset, .unset] [])) t
    refine XS.iconst X1.here hx rfl (hb hby d2_9) ?_
    show Steps p.tables e below (T1.setTop (mkF m 10 #[.val (.int lev), .val .null, .val (.ref b1), .val (.int (5 : Int32)), .unset, .unset] [(.int (0 : Int32))])) t
    refine XS.istore X1.here hx rfl (hb hby d2_10) rfl (l' := #[.val (.int lev), .val .null, .val (.ref b1), .val (.int (5 : Int32)), .val (.int (0 : Int32)), .unset]) rfl ?_
    show Steps p.tables e below (T1.setTop (mkF m 12 #[.val (.int lev), .val .null, .val (.ref b1), .val (.int (5 : Int32)), .val (.int (0 : Int32)), .unset] [])) t
    refine XS.iload X1.here hx rfl (hb hby d2_12) rfl ?_
    show Steps p.tables e below (T1.setTop (mkF m 14 #[.val (.int lev), .val .null, .val (.ref b1), .val (.int (5 : Int32)), .val (.int (0 : Int32)), .unset] [(.int (0 : Int32))])) t
    refine XS.iloadN X1.here hx rfl (hb hby d2_14) rfl ?_
    show Steps p.tables e below (T1.setTop (mkF m 15 #[.val (.int lev), .val .null, .val (.ref b1), .val (.int (5 : Int32)), .val (.int (0 : Int32)), .unset] [(.int (5 : Int32)), (.int (0 : Int32))])) t
    refine XS.icmpNo X1.here hx rfl (hb hby d2_15) rfl (tlt ((by decide) : (0 : Int32) < (5 : Int32))).2.1 ?_
    show Steps p.tables e below (T1.setTop (mkF m 18 #[.val (.int lev), .val .null, .val (.ref b1), .val (.int (5 : Int32)), .val (.int (0 : Int32)), .unset] [])) t
    refine XS.aloadN X1.here hx rfl (hb hby d2_18) rfl rfl ?_
    show Steps p.tables e below (T1.setTop (mkF m 19 #[.val (.int lev), .val .null, .val (.ref b1), .val (.int (5 : Int32)), .val (.int (0 : Int32)), .unset] [(.ref b1)])) t
    refine XS.iload X1.here hx rfl (hb hby d2_19) rfl ?_
    show Steps p.tables e below (T1.setTop (mkF m 21 #[.val (.int lev), .val .null, .val (.ref b1), .val (.int (5 : Int32)), .val (.int (0 : Int32)), .unset] [(.int (0 : Int32)), (.ref b1)])) t
    refine X1.aaload hx (j := (0 : Int32)) (v := (.ref w0)) Ar3.1 (State.isArrayOf_alike hZ.alike Ar3.2.1) rfl Ar3.2.2 in3 at3 (g := (mkF m 21 #[.val (.int lev), .val .null, .val (.ref b1), .val (.int (5 : Int32)), .val (.int (0 : Int32)), .unset] [(.int (0 : Int32)), (.ref b1)])) rfl rfl (hb hby d2_21) _ ?_
    show Steps p.tables e below (T1.setTop (mkF m 22 #[.val (.int lev), .val .null, .val (.ref b1), .val (.int (5 : Int32)), .val (.int (0 : Int32)), .unset] [(.ref w0)])) t
    refine XS.astore X1.here hx rfl (hb hby d2_22) rfl rfl (l' := #[.val (.int lev), .val .null, .val (.ref b1), .val (.int (5 : Int32)), .val (.int (0 : Int32)), .val (.ref w0)]) rfl ?_
    show Steps p.tables e below (T1.setTop (mkF m 24 #[.val (.int lev), .val .null, .val (.ref b1), .val (.int (5 : Int32)), .val (.int (0 : Int32)), .val (.ref w0)] [])) t
    refine XS.aload X1.here hx rfl (hb hby d2_24) rfl rfl ?_
    show Steps p.tables e below (T1.setTop (mkF m 26 #[.val (.int lev), .val .null, .val (.ref b1), .val (.int (5 : Int32)), .val (.int (0 : Int32)), .val (.ref w0)] [(.ref w0)])) t
    refine st4 _ ?_
    show Steps p.tables e below (T4.setTop (mkF m 29 #[.val (.int lev), .val .null, .val (.ref b1), .val (.int (5 : Int32)), .val (.int (0 : Int32)), .val (.ref w0)] [(.ref w0), (.ref w0)])) t
    refine Jvm.RoadKit.acmp (g := (mkF m 29 #[.val (.int lev), .val .null, .val (.ref b1), .val (.int (5 : Int32)), .val (.int (0 : Int32)), .val (.ref w0)] [(.ref w0), (.ref w0)])) X4 hx rfl rfl rfl (pc0 := 29) (pc' := 47) (same := true) rfl (hb hby d2_29) rfl (decide_eq_true (congrArg Value.ref rfl)) (by decide) (by decide) ?_
    show Steps p.tables e below (T4.setTop (mkF m 47 #[.val (.int lev), .val .null, .val (.ref b1), .val (.int (5 : Int32)), .val (.int (0 : Int32)), .val (.ref w0)] [])) t
    refine XS.iinc X4.here hx rfl (hb hby d2_47) rfl (l' := #[.val (.int lev), .val .null, .val (.ref b1), .val (.int (5 : Int32)), .val (.int (1 : Int32)), .val (.ref w0)]) rfl ?_
    show Steps p.tables e below (T4.setTop (mkF m 50 #[.val (.int lev), .val .null, .val (.ref b1), .val (.int (5 : Int32)), .val (.int (1 : Int32)), .val (.ref w0)] [])) t
    refine XS.goto X4.here hx rfl (pc0 := 50) (pc' := 12) rfl (hb hby d2_50) (by decide) (by decide) ?_
    show Steps p.tables e below (T4.setTop (mkF m 12 #[.val (.int lev), .val .null, .val (.ref b1), .val (.int (5 : Int32)), .val (.int (1 : Int32)), .val (.ref w0)] [])) t
    refine XS.iload X4.here hx rfl (hb hby d2_12) rfl ?_
    show Steps p.tables e below (T4.setTop (mkF m 14 #[.val (.int lev), .val .null, .val (.ref b1), .val (.int (5 : Int32)), .val (.int (1 : Int32)), .val (.ref w0)] [(.int (1 : Int32))])) t
    refine XS.iloadN X4.here hx rfl (hb hby d2_14) rfl ?_
    show Steps p.tables e below (T4.setTop (mkF m 15 #[.val (.int lev), .val .null, .val (.ref b1), .val (.int (5 : Int32)), .val (.int (1 : Int32)), .val (.ref w0)] [(.int (5 : Int32)), (.int (1 : Int32))])) t
    refine XS.icmpNo X4.here hx rfl (hb hby d2_15) rfl (tlt ((by decide) : (1 : Int32) < (5 : Int32))).2.1 ?_
    show Steps p.tables e below (T4.setTop (mkF m 18 #[.val (.int lev), .val .null, .val (.ref b1), .val (.int (5 : Int32)), .val (.int (1 : Int32)), .val (.ref w0)] [])) t
    refine XS.aloadN X4.here hx rfl (hb hby d2_18) rfl rfl ?_
    show Steps p.tables e below (T4.setTop (mkF m 19 #[.val (.int lev), .val .null, .val (.ref b1), .val (.int (5 : Int32)), .val (.int (1 : Int32)), .val (.ref w0)] [(.ref b1)])) t
    refine XS.iload X4.here hx rfl (hb hby d2_19) rfl ?_
    show Steps p.tables e below (T4.setTop (mkF m 21 #[.val (.int lev), .val .null, .val (.ref b1), .val (.int (5 : Int32)), .val (.int (1 : Int32)), .val (.ref w0)] [(.int (1 : Int32)), (.ref b1)])) t
    refine X4.aaload hx (j := (1 : Int32)) (v := (.ref w1)) (by rw [e4]; exact Ar5.1) (State.isArrayOf_alike hZ.alike Ar5.2.1) rfl Ar5.2.2 in5 at5 (g := (mkF m 21 #[.val (.int lev), .val .null, .val (.ref b1), .val (.int (5 : Int32)), .val (.int (1 : Int32)), .val (.ref w0)] [(.int (1 : Int32)), (.ref b1)])) rfl rfl (hb hby d2_21) _ ?_
    show Steps p.tables e below (T4.setTop (mkF m 22 #[.val (.int lev), .val .null, .val (.ref b1), .val (.int (5 : Int32)), .val (.int (1 : Int32)), .val (.ref w0)] [(.ref w1)])) t
    refine XS.astore X4.here hx rfl (hb hby d2_22) rfl rfl (l' := #[.val (.int lev), .val .null, .val (.ref b1), .val (.int (5 : Int32)), .val (.int (1 : Int32)), .val (.ref w1)]) rfl ?_
    show Steps p.tables e below (T4.setTop (mkF m 24 #[.val (.int lev), .val .null, .val (.ref b1), .val (.int (5 : Int32)), .val (.int (1 : Int32)), .val (.ref w1)] [])) t
    refine XS.aload X4.here hx rfl (hb hby d2_24) rfl rfl ?_
    show Steps p.tables e below (T4.setTop (mkF m 26 #[.val (.int lev), .val .null, .val (.ref b1), .val (.int (5 : Int32)), .val (.int (1 : Int32)), .val (.ref w1)] [(.ref w1)])) t
    refine st6 _ ?_
    show Steps p.tables e below (T6.setTop (mkF m 29 #[.val (.int lev), .val .null, .val (.ref b1), .val (.int (5 : Int32)), .val (.int (1 : Int32)), .val (.ref w1)] [(.ref w0), (.ref w1)])) t
    refine Jvm.RoadKit.acmp (g := (mkF m 29 #[.val (.int lev), .val .null, .val (.ref b1), .val (.int (5 : Int32)), .val (.int (1 : Int32)), .val (.ref w1)] [(.ref w0), (.ref w1)])) X6 hx rfl rfl rfl (pc0 := 29) (pc' := 32) (same := false) rfl (hb hby d2_29) rfl (decide_eq_false (fun q => ne_w1_w0 (Value.ref.inj q))) (by decide) (by decide) ?_
    show Steps p.tables e below (T6.setTop (mkF m 32 #[.val (.int lev), .val .null, .val (.ref b1), .val (.int (5 : Int32)), .val (.int (1 : Int32)), .val (.ref w1)] [])) t
    refine XS.aload X6.here hx rfl (hb hby d2_32) rfl rfl ?_
    show Steps p.tables e below (T6.setTop (mkF m 34 #[.val (.int lev), .val .null, .val (.ref b1), .val (.int (5 : Int32)), .val (.int (1 : Int32)), .val (.ref w1)] [(.ref w1)])) t
    refine st7.trans ?_
    show Steps p.tables e below (T7.setTop (mkF m 37 #[.val (.int lev), .val .null, .val (.ref b1), .val (.int (5 : Int32)), .val (.int (1 : Int32)), .val (.ref w1)] [(.int (1 : Int32))])) t
    refine XS.iloadN X7.here hx rfl (hb hby d2_37) rfl ?_
    show Steps p.tables e below (T7.setTop (mkF m 38 #[.val (.int lev), .val .null, .val (.ref b1), .val (.int (5 : Int32)), .val (.int (1 : Int32)), .val (.ref w1)] [(.int lev), (.int (1 : Int32))])) t
    refine XS.icmpNo X7.here hx rfl (hb hby d2_38) rfl (teq (hq0 : (1 : Int32) = lev)).2 ?_
    show Steps p.tables e below (T7.setTop (mkF m 41 #[.val (.int lev), .val .null, .val (.ref b1), .val (.int (5 : Int32)), .val (.int (1 : Int32)), .val (.ref w1)] [])) t
    refine XS.aload X7.here hx rfl (hb hby d2_41) rfl rfl ?_
    show Steps p.tables e below (T7.setTop (mkF m 43 #[.val (.int lev), .val .null, .val (.ref b1), .val (.int (5 : Int32)), .val (.int (1 : Int32)), .val (.ref w1)] [(.ref w1)])) t
    refine XS.astoreN X7.here hx rfl (hb hby d2_43) rfl rfl (l' := #[.val (.int lev), .val (.ref w1), .val (.ref b1), .val (.int (5 : Int32)), .val (.int (1 : Int32)), .val (.ref w1)]) rfl ?_
    show Steps p.tables e below (T7.setTop (mkF m 44 #[.val (.int lev), .val (.ref w1), .val (.ref b1), .val (.int (5 : Int32)), .val (.int (1 : Int32)), .val (.ref w1)] [])) t
    refine XS.goto X7.here hx rfl (pc0 := 44) (pc' := 53) rfl (hb hby d2_44) (by decide) (by decide) ?_
    show Steps p.tables e below (T7.setTop (mkF m 53 #[.val (.int lev), .val (.ref w1), .val (.ref b1), .val (.int (5 : Int32)), .val (.int (1 : Int32)), .val (.ref w1)] [])) t
    refine XS.aloadN X7.here hx rfl (hb hby d2_53) rfl rfl ?_
    show Steps p.tables e below (T7.setTop (mkF m 54 #[.val (.int lev), .val (.ref w1), .val (.ref b1), .val (.int (5 : Int32)), .val (.int (1 : Int32)), .val (.ref w1)] [(.ref w1)])) t
    refine st8 _ ?_
    exact k
  obtain ⟨fs, hr, hrun, hended, hW, hsame⟩ := X8.leave (v := some (.ref b8)) (fun h => by rw [Bd.returns] at h; cases h)
  refine ⟨_, _, R9 _ ?_, hrun, hended, _, _, rfl, ?_, ⟨_, rfl⟩, hW, hsame.mono (by decide) (by decide)⟩
  · show Steps p.tables e below (T8.setTop (mkF m 57 #[.val (.int lev), .val (.ref w1), .val (.ref b1), .val (.int (5 : Int32)), .val (.int (1 : Int32)), .val (.ref w1)] [(.ref b8)])) _
    exact retOut X8 hx Bd.returns rfl (Or.inr (Or.inr (Or.inr (Or.inr ⟨rfl, rfl, rfl⟩)))) (hb hby d2_57) hr
  · show Q_oj0 Z w0 w1 w2 w3 w4 wV kV wE lev h0 n0 _ T8.heap _
    exact ⟨b8, rfl, N8, K8, y8_0, y8_1⟩
theorem d1_9 : decode method_2_code 9 = .ok (.iload_n 0, 1) := by decide +kernel
theorem d1_10 : decode method_2_code 10 = .ok (.iconst 2, 1) := by decide +kernel
theorem d1_11 : decode method_2_code 11 = .ok (.if_icmp .ne 7, 3) := by decide +kernel
theorem d1_14 : decode method_2_code 14 = .ok (.getstatic 13, 3) := by decide +kernel
theorem d1_17 : decode method_2_code 17 = .ok (.areturn, 1) := by decide +kernel
theorem ef_exp1 (m : MethodId) (lev : Int32) : entryFrame m #[(.int lev)] 1 = mkF m 0 #[.val (.int lev)] [] := by first | (simp [entryFrame, mkF, argsToLocals, Value.category]; done) | rfl
def Q_exp1 (Z : State) (w0 : Addr) (w1 : Addr) (w2 : Addr) (w3 : Addr) (w4 : Addr) (wV : Addr) (kV : ClassId) (wE : Addr) (lev : Int32) (h0 : Heap) (n0 : Nat) (vv_ : Option Value) (hh_ : Heap) (LL_ : List Loc) : Prop := vv_ = some (.ref w2) ∧ (Fr n0 LL_) ∧ (hh_ = h0)
set_option maxRecDepth 65536 in
set_option maxHeartbeats 40000000 in
theorem exp1 (l : Launch) (Z : State) (a0 : Array Value) (hw : ∀ d ∈ tables_1, d.before a0 Z = true) (ws : List Jvm.Cond) (w0 : Addr) (w1 : Addr) (w2 : Addr) (w3 : Addr) (w4 : Addr) (wV : Addr) (kV : ClassId) (wE : Addr) (lev : Int32) (h0 : Heap) (n0 : Nat) (O0 : Old Z n0 h0) (S_w0 : Sta Z Z.heap "com/example/demarcate/demarcate/Isolation" "DEFAULT" "Lcom/example/demarcate/demarcate/Isolation;" (.ref w0)) (S_w1 : Sta Z Z.heap "com/example/demarcate/demarcate/Isolation" "READ_UNCOMMITTED" "Lcom/example/demarcate/demarcate/Isolation;" (.ref w1)) (S_w2 : Sta Z Z.heap "com/example/demarcate/demarcate/Isolation" "READ_COMMITTED" "Lcom/example/demarcate/demarcate/Isolation;" (.ref w2)) (S_w3 : Sta Z Z.heap "com/example/demarcate/demarcate/Isolation" "REPEATABLE_READ" "Lcom/example/demarcate/demarcate/Isolation;" (.ref w3)) (S_w4 : Sta Z Z.heap "com/example/demarcate/demarcate/Isolation" "SERIALIZABLE" "Lcom/example/demarcate/demarcate/Isolation;" (.ref w4)) (E_w0 : Exa Z Z.heap w0 "com/example/demarcate/demarcate/Isolation") (E_w1 : Exa Z Z.heap w1 "com/example/demarcate/demarcate/Isolation") (E_w2 : Exa Z Z.heap w2 "com/example/demarcate/demarcate/Isolation") (E_w3 : Exa Z Z.heap w3 "com/example/demarcate/demarcate/Isolation") (E_w4 : Exa Z Z.heap w4 "com/example/demarcate/demarcate/Isolation") (F_w1 : Fld Z Z.heap w1 "java/lang/Enum" "ordinal" "I" (.int (1 : Int32))) (F_w2 : Fld Z Z.heap w2 "java/lang/Enum" "ordinal" "I" (.int (2 : Int32))) (F_w3 : Fld Z Z.heap w3 "java/lang/Enum" "ordinal" "I" (.int (3 : Int32))) (F_w4 : Fld Z Z.heap w4 "java/lang/Enum" "ordinal" "I" (.int (4 : Int32))) (S_wV : Sta Z Z.heap "com/example/demarcate/demarcate/Isolation" "$VALUES" "[Lcom/example/demarcate/demarcate/Isolation;" (.ref wV)) (E_wV : Exa Z Z.heap wV "[Lcom/example/demarcate/demarcate/Isolation;") (A_wV : Arv Z Z.heap wV kV (.object "com/example/demarcate/demarcate/Isolation") (5 : Int32) [(.ref w0), (.ref w1), (.ref w2), (.ref w3), (.ref w4)] .null) (S_wE : Sta Z Z.heap "java/util/Optional" "EMPTY" "Ljava/util/Optional;" (.ref wE)) (E_wE : Exa Z Z.heap wE "java/util/Optional") (F_wE : Fld Z Z.heap wE "java/util/Optional" "value" "Ljava/lang/Object;" .null) (ne_w1_w0 : w1 ≠ w0) (ne_w2_w0 : w2 ≠ w0) (ne_w3_w0 : w3 ≠ w0) (ne_w4_w0 : w4 ≠ w0) (hq0 : ¬ (lev = (1 : Int32))) (hq1 : lev = (2 : Int32)) :
    MetFree l (⟨"com/example/demarcate/demarcate/IsolationOfJdbcLevelPinLaw", "expected", "(I)Lcom/example/demarcate/demarcate/Isolation;"⟩ : MethodName) (head1 (Jvm.Cond.code (⟨"com/example/demarcate/demarcate/IsolationOfJdbcLevelPinLaw", "expected", "(I)Lcom/example/demarcate/demarcate/Isolation;"⟩ : MethodName) method_2_code 1 (some (.object "com/example/demarcate/demarcate/Isolation")) :: ws) ({ frames := 0, cells := 0, slots := 0, locals := 0 } : Room)) (fun aa_ U_ => aa_ = #[(.int lev)] ∧ Z.Warmed39 U_.vm ∧ U_.heap = h0) (fun _ _ _ _ _ => True) (fun _ U_ oo_ V_ => ∃ vv_ LL_, oo_ = .returned vv_ ∧ Q_exp1 Z w0 w1 w2 w3 w4 wV kV wE lev h0 n0 vv_ V_.heap LL_ ∧ FrameEnd U_ oo_ V_ LL_ ({ frames := 0, cells := 0, slots := 0, locals := 0 } : Room).cells ({ frames := 0, cells := 0, slots := 0, locals := 0 } : Room).slots) := by
  refine MetFree.of_bodySF (plainFor_of_name pn_com_example_demarcate_demarcate_IsolationOfJdbcLevelPinLaw) hisR ?_
  intro p e s m args below meth c s₁ Bd hml0 hP hK
  obtain ⟨rfl, hZ, hh⟩ := hP
  have hx := Bd.exec
  have hby := Bd.bytes
  have hml : c.maxLocals = 1 := hml0
  have hown : s.vm.findClass "com/example/demarcate/demarcate/IsolationOfJdbcLevelPinLaw" = some m.cls := findClass_of_methodNamed Bd.named
  have hnm := (name_of_methodNamed Bd.named Bd.method).1
  have X0 : Stand p l e ({ frames := 0, cells := 0, slots := 0, locals := 0 } : Room) s m #[(.int lev)] below meth c s₁ [] 0 0 := Stand.of_body Bd
  have e0 : s₁.heap = h0 := by rw [← hh, Bd.state]; rfl
  have N0 := Fr.nil n0
  have Z0 : n0 ≤ h0.size := O0.1 ▸ O0.2.1
  have hk0 := Nat.zero_le h0.size
  have K0 : Keep h0 h0 [] := Keep.refl _ _
  have R0 : ∀ t, Steps p.tables e below (s₁.setTop (mkF m 0 #[.val (.int lev)] [])) t → Steps p.tables e below (s₁.setTop (entryFrame m #[(.int lev)] 1)) t := fun t k => castTop (ef_exp1 m lev) k
  obtain ⟨T1, X1, e1, st1⟩ := getS2 X0 hx hZ hown (host := "") (Or.inl (hw _ (List.mem_of_getElem? (i := 71) rfl))) Via.refl e0 (S_w2.ext O0.2) (g := (mkF m 14 #[.val (.int lev)] [])) rfl (hb hby d1_14)
  have R2 : ∀ t, Steps p.tables e below (T1.setTop (mkF m 17 #[.val (.int lev)] [(.ref w2)])) t → Steps p.tables e below (s₁.setTop (entryFrame m #[(.int lev)] 1)) t := by
    intro t k
    refine R0 t ?_
    show Steps p.tables e below (s₁.setTop (mkF m 0 #[.val (.int lev)] [])) t
    refine XS.iloadN X0.here hx rfl (hb hby d1_0) rfl ?_
    show Steps p.tables e below (s₁.setTop (mkF m 1 #[.val (.int lev)] [(.int lev)])) t
    refine XS.iconst X0.here hx rfl (hb hby d1_1) ?_
    show Steps p.tables e below (s₁.setTop (mkF m 2 #[.val (.int lev)] [(.int (1 : Int32)), (.int lev)])) t
    refine XS.icmpYes X0.here hx rfl (pc0 := 2) (pc' := 9) rfl (hb hby d1_2) rfl (feq (hq0 : ¬ (lev = (1 : Int32)))).2 (by decide) (by decide) ?_
    show Steps p.tables e below (s₁.setTop (mkF m 9 #[.val (.int lev)] [])) t
    refine XS.iloadN X0.here hx rfl (hb hby d1_9) rfl ?_
    show Steps p.tables e below (s₁.setTop (mkF m 10 #[.val (.int lev)] [(.int lev)])) t
    refine XS.iconst X0.here hx rfl (hb hby d1_10) ?_
    show Steps p.tables e below (s₁.setTop (mkF m 11 #[.val (.int lev)] [(.int (2 : Int32)), (.int lev)])) t
    refine XS.icmpNo X0.here hx rfl (hb hby d1_11) rfl (teq (hq1 : lev = (2 : Int32))).2 ?_
    show Steps p.tables e below (s₁.setTop (mkF m 14 #[.val (.int lev)] [])) t
    refine st1 _ ?_
    exact k
  obtain ⟨fs, hr, hrun, hended, hW, hsame⟩ := X1.leave (v := some (.ref w2)) (fun h => by rw [Bd.returns] at h; cases h)
  refine ⟨_, _, R2 _ ?_, hrun, hended, _, _, rfl, ?_, ⟨_, rfl⟩, hW, hsame.mono (by decide) (by decide)⟩
  · show Steps p.tables e below (T1.setTop (mkF m 17 #[.val (.int lev)] [(.ref w2)])) _
    exact retOut X1 hx Bd.returns rfl (Or.inr (Or.inr (Or.inr (Or.inr ⟨rfl, rfl, rfl⟩)))) (hb hby d1_17) hr
  · show Q_exp1 Z w0 w1 w2 w3 w4 wV kV wE lev h0 n0 _ T1.heap _
    rw [e1]
    exact ⟨rfl, N0, rfl⟩
theorem ef_oj1 (m : MethodId) (lev : Int32) : entryFrame m #[(.int lev)] 6 = mkF m 0 #[.val (.int lev), .unset, .unset, .unset, .unset, .unset] [] := by first | (simp [entryFrame, mkF, argsToLocals, Value.category]; done) | rfl
def Q_oj1 (Z : State) (w0 : Addr) (w1 : Addr) (w2 : Addr) (w3 : Addr) (w4 : Addr) (wV : Addr) (kV : ClassId) (wE : Addr) (lev : Int32) (h0 : Heap) (n0 : Nat) (vv_ : Option Value) (hh_ : Heap) (LL_ : List Loc) : Prop := ∃ (b : Addr), vv_ = some (.ref b) ∧ (Fr n0 LL_) ∧ (Keep h0 hh_ []) ∧ (Exa Z hh_ b "java/util/Optional") ∧ (Fld Z hh_ b "java/util/Optional" "value" "Ljava/lang/Object;" (.ref w2))
set_option maxRecDepth 65536 in
set_option maxHeartbeats 40000000 in
theorem oj1 (l : Launch) (Z : State) (a0 : Array Value) (hw : ∀ d ∈ tables_1, d.before a0 Z = true) (ws : List Jvm.Cond) (w0 : Addr) (w1 : Addr) (w2 : Addr) (w3 : Addr) (w4 : Addr) (wV : Addr) (kV : ClassId) (wE : Addr) (lev : Int32) (h0 : Heap) (n0 : Nat) (O0 : Old Z n0 h0) (S_w0 : Sta Z Z.heap "com/example/demarcate/demarcate/Isolation" "DEFAULT" "Lcom/example/demarcate/demarcate/Isolation;" (.ref w0)) (S_w1 : Sta Z Z.heap "com/example/demarcate/demarcate/Isolation" "READ_UNCOMMITTED" "Lcom/example/demarcate/demarcate/Isolation;" (.ref w1)) (S_w2 : Sta Z Z.heap "com/example/demarcate/demarcate/Isolation" "READ_COMMITTED" "Lcom/example/demarcate/demarcate/Isolation;" (.ref w2)) (S_w3 : Sta Z Z.heap "com/example/demarcate/demarcate/Isolation" "REPEATABLE_READ" "Lcom/example/demarcate/demarcate/Isolation;" (.ref w3)) (S_w4 : Sta Z Z.heap "com/example/demarcate/demarcate/Isolation" "SERIALIZABLE" "Lcom/example/demarcate/demarcate/Isolation;" (.ref w4)) (E_w0 : Exa Z Z.heap w0 "com/example/demarcate/demarcate/Isolation") (E_w1 : Exa Z Z.heap w1 "com/example/demarcate/demarcate/Isolation") (E_w2 : Exa Z Z.heap w2 "com/example/demarcate/demarcate/Isolation") (E_w3 : Exa Z Z.heap w3 "com/example/demarcate/demarcate/Isolation") (E_w4 : Exa Z Z.heap w4 "com/example/demarcate/demarcate/Isolation") (F_w1 : Fld Z Z.heap w1 "java/lang/Enum" "ordinal" "I" (.int (1 : Int32))) (F_w2 : Fld Z Z.heap w2 "java/lang/Enum" "ordinal" "I" (.int (2 : Int32))) (F_w3 : Fld Z Z.heap w3 "java/lang/Enum" "ordinal" "I" (.int (3 : Int32))) (F_w4 : Fld Z Z.heap w4 "java/lang/Enum" "ordinal" "I" (.int (4 : Int32))) (S_wV : Sta Z Z.heap "com/example/demarcate/demarcate/Isolation" "$VALUES" "[Lcom/example/demarcate/demarcate/Isolation;" (.ref wV)) (E_wV : Exa Z Z.heap wV "[Lcom/example/demarcate/demarcate/Isolation;") (A_wV : Arv Z Z.heap wV kV (.object "com/example/demarcate/demarcate/Isolation") (5 : Int32) [(.ref w0), (.ref w1), (.ref w2), (.ref w3), (.ref w4)] .null) (S_wE : Sta Z Z.heap "java/util/Optional" "EMPTY" "Ljava/util/Optional;" (.ref wE)) (E_wE : Exa Z Z.heap wE "java/util/Optional") (F_wE : Fld Z Z.heap wE "java/util/Optional" "value" "Ljava/lang/Object;" .null) (ne_w1_w0 : w1 ≠ w0) (ne_w2_w0 : w2 ≠ w0) (ne_w3_w0 : w3 ≠ w0) (ne_w4_w0 : w4 ≠ w0) (hq0 : ¬ ((1 : Int32) = lev)) (hq1 : (2 : Int32) = lev) :
    MetFree l (⟨"com/example/demarcate/demarcate/Isolation", "ofJdbcLevel", "(I)Ljava/util/Optional;"⟩ : MethodName) (head1 (Jvm.Cond.code (⟨"com/example/demarcate/demarcate/Isolation", "ofJdbcLevel", "(I)Ljava/util/Optional;"⟩ : MethodName) prog_11_method_5_code 6 (some (.object "java/util/Optional")) :: ws) ({ frames := 3, cells := 2, slots := 6, locals := 38 } : Room)) (fun aa_ U_ => aa_ = #[(.int lev)] ∧ Z.Warmed39 U_.vm ∧ U_.heap = h0) (fun _ _ _ _ _ => True) (fun _ U_ oo_ V_ => ∃ vv_ LL_, oo_ = .returned vv_ ∧ Q_oj1 Z w0 w1 w2 w3 w4 wV kV wE lev h0 n0 vv_ V_.heap LL_ ∧ FrameEnd U_ oo_ V_ LL_ ({ frames := 3, cells := 2, slots := 6, locals := 38 } : Room).cells ({ frames := 3, cells := 2, slots := 6, locals := 38 } : Room).slots) := by
  refine MetFree.of_bodySF (plainFor_of_name pn_com_example_demarcate_demarcate_Isolation) hisR ?_
  intro p e s m args below meth c s₁ Bd hml0 hP hK
  obtain ⟨rfl, hZ, hh⟩ := hP
  have hx := Bd.exec
  have hby := Bd.bytes
  have hml : c.maxLocals = 6 := hml0
  have hown : s.vm.findClass "com/example/demarcate/demarcate/Isolation" = some m.cls := findClass_of_methodNamed Bd.named
  have hnm := (name_of_methodNamed Bd.named Bd.method).1
  have X0 : Stand p l e ({ frames := 3, cells := 2, slots := 6, locals := 38 } : Room) s m #[(.int lev)] below meth c s₁ [] 0 0 := Stand.of_body Bd
  have e0 : s₁.heap = h0 := by rw [← hh, Bd.state]; rfl
  have N0 := Fr.nil n0
  have Z0 : n0 ≤ h0.size := O0.1 ▸ O0.2.1
  have hk0 := Nat.zero_le h0.size
  have K0 : Keep h0 h0 [] := Keep.refl _ _
  have R0 : ∀ t, Steps p.tables e below (s₁.setTop (mkF m 0 #[.val (.int lev), .unset, .unset, .unset, .unset, .unset] [])) t → Steps p.tables e below (s₁.setTop (entryFrame m #[(.int lev)] 6)) t := fun t k => castTop (ef_oj1 m lev) k
  obtain ⟨_, _, ⟨T1, L1, k1, n1⟩, -, X1, ⟨Lc1, hQ1, l1, y1, z1⟩, st1⟩ := Jvm.LawKit.callS X0 hx (y := (⟨"com/example/demarcate/demarcate/Isolation", "values", "()[Lcom/example/demarcate/demarcate/Isolation;"⟩ : MethodName)) hown (mvT hZ (hw _ (List.mem_of_getElem? (i := 8) rfl))) (mvT hZ (hw _ (List.mem_of_getElem? (i := 9) rfl))) (mvT hZ (hw _ (List.mem_of_getElem? (i := 6) rfl))) (mvT hZ (hw _ (List.mem_of_getElem? (i := 10) rfl))) (by decide) (backOf (W := 0) (values l Z a0 hw [] w0 w1 w2 w3 w4 wV kV wE  h0 n0 O0 S_w0 S_w1 S_w2 S_w3 S_w4 E_w0 E_w1 E_w2 E_w3 E_w4 F_w1 F_w2 F_w3 F_w4 S_wV E_wV A_wV S_wE E_wE F_wE ne_w1_w0 ne_w2_w0 ne_w3_w0 ne_w4_w0   ) hZ (hw _ (List.mem_of_getElem? (i := 10) rfl)) (hw _ (List.mem_of_getElem? (i := 6) rfl)) (by decide) (by decide)) (g := (mkF m 2 #[.val (.int lev), .val .null, .unset, .unset, .unset, .unset] [])) rfl (by rw [hml]; rfl) (argsL := []) (rest := []) (lenOf pd_2 rfl) rfl (by show 2 * 0 + _ ≤ _; exact Nat.le_of_eq rfl) (hb hby d2_2) (fun _ _ => ⟨rfl, e0, (by decide : 0 + 1 ≤ _), (by decide : 0 + 5 ≤ _)⟩)
  dsimp only [Pt.U, Pt.locs, Pt.cells, Pt.slots] at X1 l1 y1 z1 st1 hQ1
  subst l1 y1 z1
  obtain ⟨b1, rfl, N1q, K1q, fr1_b, y1_0, y1_1⟩ := hQ1
  have N1 := Fr.app N0 N1q
  have g_b1 : n0 ≤ b1 := Nat.le_trans Z0 fr1_b
  have sz_b1 : h0.size ≤ b1 := Nat.le_trans K0.1 fr1_b
  have Z1 : n0 ≤ T1.heap.size := Nat.le_trans Z0 K1q.1
  have K1 : Keep h0 T1.heap [] := K0.trans K1q all0
  have O1 : Old Z n0 T1.heap := O0.keep K1q all0
  obtain ⟨cl2, Ar2, -, S2, M2, -, -⟩ := id y1_1
  obtain ⟨cl3, Ar3, q3, S3, M3, H3, G3⟩ := id y1_1
  have in3 : ¬ ((0 : Int32) < 0 ∨ cl3.slots.size ≤ ((0 : Int32)).toNatClampNeg) := inb_of S3 ⟨by decide, by decide⟩
  have at3 : cl3.slots[((0 : Int32)).toNatClampNeg]? = some (.ref w0) := H3.at in3 rfl
  obtain ⟨T4, X4, e4, st4⟩ := getS2 X1 hx hZ hown (host := "") (Or.inl (hw _ (List.mem_of_getElem? (i := 28) rfl))) Via.refl rfl (S_w0.ext O1.2) (g := (mkF m 26 #[.val (.int lev), .val .null, .val (.ref b1), .val (.int (5 : Int32)), .val (.int (0 : Int32)), .val (.ref w0)] [(.ref w0)])) rfl (hb hby d2_26)
  obtain ⟨cl5, Ar5, q5, S5, M5, H5, G5⟩ := id y1_1
  have in5 : ¬ ((1 : Int32) < 0 ∨ cl5.slots.size ≤ ((1 : Int32)).toNatClampNeg) := inb_of S5 ⟨by decide, by decide⟩
  have at5 : cl5.slots[((1 : Int32)).toNatClampNeg]? = some (.ref w1) := H5.at in5 rfl
  obtain ⟨T6, X6, e6, st6⟩ := getS2 X4 hx hZ hown (host := "") (Or.inl (hw _ (List.mem_of_getElem? (i := 28) rfl))) Via.refl e4 (S_w0.ext O1.2) (g := (mkF m 26 #[.val (.int lev), .val .null, .val (.ref b1), .val (.int (5 : Int32)), .val (.int (1 : Int32)), .val (.ref w1)] [(.ref w1)])) rfl (hb hby d2_26)
  obtain ⟨cq7, kq7, q7a, q7b, q7c⟩ := isOf hZ e6 (E_w1.ext O1.2)
  obtain ⟨_, _, ⟨T7, L7, k7, n7⟩, -, X7, ⟨Lc7, hQ7, l7, y7, z7⟩, st7⟩ := X6.virtualBack hx (y := (⟨"com/example/demarcate/demarcate/Isolation", "jdbcLevel", "()I"⟩ : MethodName)) (z := (⟨"com/example/demarcate/demarcate/Isolation", "jdbcLevel", "()I"⟩ : MethodName)) hown (mvT hZ (hw _ (List.mem_of_getElem? (i := 29) rfl))) (mvT hZ (hw _ (List.mem_of_getElem? (i := 30) rfl))) (notFace_of_selects (args := #[]) (mvT hZ (hw _ (List.mem_of_getElem? (i := 32) rfl)))) (mvT hZ (hw _ (List.mem_of_getElem? (i := 32) rfl))) (mvT hZ (hw _ (List.mem_of_getElem? (i := 31) rfl))) (by decide) (backOf (W := 0) (jl1 l Z a0 hw [] w0 w1 w2 w3 w4 wV kV wE w1 T1.heap n0 O1 S_w0 S_w1 S_w2 S_w3 S_w4 E_w0 E_w1 E_w2 E_w3 E_w4 F_w1 F_w2 F_w3 F_w4 S_wV E_wV A_wV S_wE E_wE F_wE ne_w1_w0 ne_w2_w0 ne_w3_w0 ne_w4_w0   (E_w1.ext O1.2) (F_w1.ext O1.2)) hZ (hw _ (List.mem_of_getElem? (i := 33) rfl)) (hw _ (List.mem_of_getElem? (i := 6) rfl)) (by decide) (by decide)) q7a q7c (g := (mkF m 34 #[.val (.int lev), .val .null, .val (.ref b1), .val (.int (5 : Int32)), .val (.int (1 : Int32)), .val (.ref w1)] [(.ref w1)])) rfl (by rw [hml]; rfl) (Steps.refl _) (argsL := []) (rest := []) (lenOf pd_0 rfl) rfl (by show 2 * 0 + _ ≤ _; exact Nat.le_of_eq rfl) (hb hby d2_34) (fun _ _ => ⟨rfl, e6, (by decide : 1 + 0 ≤ _), (by decide : 5 + 0 ≤ _)⟩)
  dsimp only [Pt.U, Pt.locs, Pt.cells, Pt.slots] at X7 l7 y7 z7 st7 hQ7
  subst l7 y7 z7
  obtain ⟨rfl, N7q, e7⟩ := hQ7
  have N7 := Fr.app N1 N7q
  obtain ⟨cl8, Ar8, q8, S8, M8, H8, G8⟩ := id y1_1
  have in8 : ¬ ((2 : Int32) < 0 ∨ cl8.slots.size ≤ ((2 : Int32)).toNatClampNeg) := inb_of S8 ⟨by decide, by decide⟩
  have at8 : cl8.slots[((2 : Int32)).toNatClampNeg]? = some (.ref w2) := H8.at in8 rfl
  obtain ⟨T9, X9, e9, st9⟩ := getS2 X7 hx hZ hown (host := "") (Or.inl (hw _ (List.mem_of_getElem? (i := 28) rfl))) Via.refl e7 (S_w0.ext O1.2) (g := (mkF m 26 #[.val (.int lev), .val .null, .val (.ref b1), .val (.int (5 : Int32)), .val (.int (2 : Int32)), .val (.ref w2)] [(.ref w2)])) rfl (hb hby d2_26)
  obtain ⟨cq10, kq10, q10a, q10b, q10c⟩ := isOf hZ e9 (E_w2.ext O1.2)
  obtain ⟨_, _, ⟨T10, L10, k10, n10⟩, -, X10, ⟨Lc10, hQ10, l10, y10, z10⟩, st10⟩ := X9.virtualBack hx (y := (⟨"com/example/demarcate/demarcate/Isolation", "jdbcLevel", "()I"⟩ : MethodName)) (z := (⟨"com/example/demarcate/demarcate/Isolation", "jdbcLevel", "()I"⟩ : MethodName)) hown (mvT hZ (hw _ (List.mem_of_getElem? (i := 29) rfl))) (mvT hZ (hw _ (List.mem_of_getElem? (i := 30) rfl))) (notFace_of_selects (args := #[]) (mvT hZ (hw _ (List.mem_of_getElem? (i := 32) rfl)))) (mvT hZ (hw _ (List.mem_of_getElem? (i := 32) rfl))) (mvT hZ (hw _ (List.mem_of_getElem? (i := 31) rfl))) (by decide) (backOf (W := 0) (jl2 l Z a0 hw [] w0 w1 w2 w3 w4 wV kV wE w2 T1.heap n0 O1 S_w0 S_w1 S_w2 S_w3 S_w4 E_w0 E_w1 E_w2 E_w3 E_w4 F_w1 F_w2 F_w3 F_w4 S_wV E_wV A_wV S_wE E_wE F_wE ne_w1_w0 ne_w2_w0 ne_w3_w0 ne_w4_w0   (E_w2.ext O1.2) (F_w2.ext O1.2)) hZ (hw _ (List.mem_of_getElem? (i := 33) rfl)) (hw _ (List.mem_of_getElem? (i := 6) rfl)) (by decide) (by decide)) q10a q10c (g := (mkF m 34 #[.val (.int lev), .val .null, .val (.ref b1), .val (.int (5 : Int32)), .val (.int (2 : Int32)), .val (.ref w2)] [(.ref w2)])) rfl (by rw [hml]; rfl) (Steps.refl _) (argsL := []) (rest := []) (lenOf pd_0 rfl) rfl (by show 2 * 0 + _ ≤ _; exact Nat.le_of_eq rfl) (hb hby d2_34) (fun _ _ => ⟨rfl, e9, (by decide : 1 + 0 ≤ _), (by decide : 5 + 0 ≤ _)⟩)
  dsimp only [Pt.U, Pt.locs, Pt.cells, Pt.slots] at X10 l10 y10 z10 st10 hQ10
  subst l10 y10 z10
  obtain ⟨rfl, N10q, e10⟩ := hQ10
  have N10 := Fr.app N7 N10q
  obtain ⟨_, _, ⟨T11, L11, k11, n11⟩, -, X11, ⟨Lc11, hQ11, l11, y11, z11⟩, st11⟩ := Jvm.LawKit.callS X10 hx (y := (⟨"java/util/Optional", "ofNullable", "(Ljava/lang/Object;)Ljava/util/Optional;"⟩ : MethodName)) hown (mvT hZ (hw _ (List.mem_of_getElem? (i := 43) rfl))) (mvT hZ (hw _ (List.mem_of_getElem? (i := 44) rfl))) (mvT hZ (hw _ (List.mem_of_getElem? (i := 45) rfl))) (mvT hZ (hw _ (List.mem_of_getElem? (i := 46) rfl))) (by decide) (backOf (W := 0) (onS l Z a0 hw [] w0 w1 w2 w3 w4 wV kV wE w2 T1.heap n0 O1 S_w0 S_w1 S_w2 S_w3 S_w4 E_w0 E_w1 E_w2 E_w3 E_w4 F_w1 F_w2 F_w3 F_w4 S_wV E_wV A_wV S_wE E_wE F_wE ne_w1_w0 ne_w2_w0 ne_w3_w0 ne_w4_w0   ) hZ (hw _ (List.mem_of_getElem? (i := 46) rfl)) (hw _ (List.mem_of_getElem? (i := 45) rfl)) (by decide) (by decide)) (g := (mkF m 54 #[.val (.int lev), .val (.ref w2), .val (.ref b1), .val (.int (5 : Int32)), .val (.int (2 : Int32)), .val (.ref w2)] [(.ref w2)])) rfl (by rw [hml]; rfl) (argsL := [(.ref w2)]) (rest := []) (lenOf pd_3 rfl) rfl (by show 2 * 0 + _ ≤ _; exact Nat.le_of_eq rfl) (hb hby d2_54) (fun _ _ => ⟨rfl, e10, (by decide : 1 + 1 ≤ _), (by decide : 5 + 1 ≤ _)⟩)
  dsimp only [Pt.U, Pt.locs, Pt.cells, Pt.slots] at X11 l11 y11 z11 st11 hQ11
  subst l11 y11 z11
  obtain ⟨b11, rfl, N11q, K11q, fr11_b, y11_0, y11_1⟩ := hQ11
  have N11 := Fr.app N10 N11q
  have ne_b1_b11 : b1 ≠ b11 := Nat.ne_of_lt (Nat.lt_of_lt_of_le y1_0.lt fr11_b)
  have g_b11 : n0 ≤ b11 := Nat.le_trans Z1 fr11_b
  have sz_b11 : h0.size ≤ b11 := Nat.le_trans K1.1 fr11_b
  have Z11 : n0 ≤ T11.heap.size := Nat.le_trans Z1 K11q.1
  have K11 : Keep h0 T11.heap [] := K1.trans K11q all0
  have O11 : Old Z n0 T11.heap := O1.keep K11q all0
  have R12 : ∀ t, Steps p.tables e below (T11.setTop (mkF m 57 #[.val (.int lev), .val (.ref w2), .val (.ref b1), .val (.int (5 : Int32)), .val (.int (2 : Int32)), .val (.ref w2)] [(.ref b11)])) t → Steps p.tables e below (s₁.setTop (entryFrame m #[(.int lev)] 6)) t := by
    intro t k
    refine R0 t ?_
    show Steps p.tables e below (s₁.setTop (mkF m 0 #[.val (.int lev), .unset, .unset, .unset, .unset, .unset] [])) t
    refine XS.aconstNull X0.here hx rfl (hb hby d2_0) ?_
    show Steps p.tables e below (s₁.setTop (mkF m 1 #[.val (.int lev), .unset, .unset, .unset, .unset, .unset] [.null])) t
    refine XS.astoreN X0.here hx rfl (hb hby d2_1) rfl rfl (l' := #[.val (.int lev), .val .null, .unset, .unset, .unset, .unset]) rfl ?_
    show Steps p.tables e below (s₁.setTop (mkF m 2 #[.val (.int lev), .val .null, .unset, .unset, .unset, .unset] [])) t
    refine st1 _ ?_
    show Steps p.tables e below (T1.setTop (mkF m 5 #[.val (.int lev), .val .null, .unset, .unset, .unset, .unset] [(.ref b1)])) t
    refine XS.astoreN X1.here hx rfl (hb hby d2_5) rfl rfl (l' := #[.val (.int lev), .val .null, .val (.ref b1), .unset, .unset, .unset]) rfl ?_
    show Steps p.tables e below (T1.setTop (mkF m 6 #[.val (.int lev), .val .null, .val (.ref b1), .unset, .unset, .unset] [])) t
    refine XS.aloadN X1.here hx rfl (hb hby d2_6) rfl rfl ?_
    show Steps p.tables e below (T1.setTop (mkF m 7 #[.val (.int lev), .val .null, .val (.ref b1), .unset, .unset, .unset] [(.ref b1)])) t
    refine X1.arraylength hx Ar2.1 (State.isArrayOf_alike hZ.alike Ar2.2.1) (g := (mkF m 7 #[.val (.int lev), .val .null, .val (.ref b1), .unset, .unset, .unset] [(.ref b1)])) rfl rfl (hb hby d2_7) _ ?_
    rw [len_of S2 M2]
    show Steps p.tables e below (T1.setTop (mkF m 8 #[.val (.int lev), .val .null, .val (.ref b1), .unset, .unset, .unset] [(.int (5 : Int32))])) t
    refine XS.istoreN X1.here hx rfl (hb hby d2_8) rfl (l' := #[.val (.int lev), .val .null, .val (.ref b1), .val (.int (5 : Int32)), .unset, .unset]) rfl ?_
    show Steps p.tables e below (T1.setTop (mkF m 9 #[.val (.int lev), .val .null, .val (.ref b1), .val (.int (5 : Int32)), .unset, .unset] [])) t
    refine XS.iconst X1.here hx rfl (hb hby d2_9) ?_
    show Steps p.tables e below (T1.setTop (mkF m 10 #[.val (.int lev), .val .null, .val (.ref b1), .val (.int (5 : Int32)), .unset, .unset] [(.int (0 : Int32))])) t
    refine XS.istore X1.here hx rfl (hb hby d2_10) rfl (l' := #[.val (.int lev), .val .null, .val (.ref b1), .val (.int (5 : Int32)), .val (.int (0 : Int32)), .unset]) rfl ?_
    show Steps p.tables e below (T1.setTop (mkF m 12 #[.val (.int lev), .val .null, .val (.ref b1), .val (.int (5 : Int32)), .val (.int (0 : Int32)), .unset] [])) t
    refine XS.iload X1.here hx rfl (hb hby d2_12) rfl ?_
    show Steps p.tables e below (T1.setTop (mkF m 14 #[.val (.int lev), .val .null, .val (.ref b1), .val (.int (5 : Int32)), .val (.int (0 : Int32)), .unset] [(.int (0 : Int32))])) t
    refine XS.iloadN X1.here hx rfl (hb hby d2_14) rfl ?_
    show Steps p.tables e below (T1.setTop (mkF m 15 #[.val (.int lev), .val .null, .val (.ref b1), .val (.int (5 : Int32)), .val (.int (0 : Int32)), .unset] [(.int (5 : Int32)), (.int (0 : Int32))])) t
    refine XS.icmpNo X1.here hx rfl (hb hby d2_15) rfl (tlt ((by decide) : (0 : Int32) < (5 : Int32))).2.1 ?_
    show Steps p.tables e below (T1.setTop (mkF m 18 #[.val (.int lev), .val .null, .val (.ref b1), .val (.int (5 : Int32)), .val (.int (0 : Int32)), .unset] [])) t
    refine XS.aloadN X1.here hx rfl (hb hby d2_18) rfl rfl ?_
    show Steps p.tables e below (T1.setTop (mkF m 19 #[.val (.int lev), .val .null, .val (.ref b1), .val (.int (5 : Int32)), .val (.int (0 : Int32)), .unset] [(.ref b1)])) t
    refine XS.iload X1.here hx rfl (hb hby d2_19) rfl ?_
    show Steps p.tables e below (T1.setTop (mkF m 21 #[.val (.int lev), .val .null, .val (.ref b1), .val (.int (5 : Int32)), .val (.int (0 : Int32)), .unset] [(.int (0 : Int32)), (.ref b1)])) t
    refine X1.aaload hx (j := (0 : Int32)) (v := (.ref w0)) Ar3.1 (State.isArrayOf_alike hZ.alike Ar3.2.1) rfl Ar3.2.2 in3 at3 (g := (mkF m 21 #[.val (.int lev), .val .null, .val (.ref b1), .val (.int (5 : Int32)), .val (.int (0 : Int32)), .unset] [(.int (0 : Int32)), (.ref b1)])) rfl rfl (hb hby d2_21) _ ?_
    show Steps p.tables e below (T1.setTop (mkF m 22 #[.val (.int lev), .val .null, .val (.ref b1), .val (.int (5 : Int32)), .val (.int (0 : Int32)), .unset] [(.ref w0)])) t
    refine XS.astore X1.here hx rfl (hb hby d2_22) rfl rfl (l' := #[.val (.int lev), .val .null, .val (.ref b1), .val (.int (5 : Int32)), .val (.int (0 : Int32)), .val (.ref w0)]) rfl ?_
    show Steps p.tables e below (T1.setTop (mkF m 24 #[.val (.int lev), .val .null, .val (.ref b1), .val (.int (5 : Int32)), .val (.int (0 : Int32)), .val (.ref w0)] [])) t
    refine XS.aload X1.here hx rfl (hb hby d2_24) rfl rfl ?_
    show Steps p.tables e below (T1.setTop (mkF m 26 #[.val (.int lev), .val .null, .val (.ref b1), .val (.int (5 : Int32)), .val (.int (0 : Int32)), .val (.ref w0)] [(.ref w0)])) t
    refine st4 _ ?_
    show Steps p.tables e below (T4.setTop (mkF m 29 #[.val (.int lev), .val .null, .val (.ref b1), .val (.int (5 : Int32)), .val (.int (0 : Int32)), .val (.ref w0)] [(.ref w0), (.ref w0)])) t
    refine Jvm.RoadKit.acmp (g := (mkF m 29 #[.val (.int lev), .val .null, .val (.ref b1), .val (.int (5 : Int32)), .val (.int (0 : Int32)), .val (.ref w0)] [(.ref w0), (.ref w0)])) X4 hx rfl rfl rfl (pc0 := 29) (pc' := 47) (same := true) rfl (hb hby d2_29) rfl (decide_eq_true (congrArg Value.ref rfl)) (by decide) (by decide) ?_
    show Steps p.tables e below (T4.setTop (mkF m 47 #[.val (.int lev), .val .null, .val (.ref b1), .val (.int (5 : Int32)), .val (.int (0 : Int32)), .val (.ref w0)] [])) t
    refine XS.iinc X4.here hx rfl (hb hby d2_47) rfl (l' := #[.val (.int lev), .val .null, .val (.ref b1), .val (.int (5 : Int32)), .val (.int (1 : Int32)), .val (.ref w0)]) rfl ?_
    show Steps p.tables e below (T4.setTop (mkF m 50 #[.val (.int lev), .val .null, .val (.ref b1), .val (.int (5 : Int32)), .val (.int (1 : Int32)), .val (.ref w0)] [])) t
    refine XS.goto X4.here hx rfl (pc0 := 50) (pc' := 12) rfl (hb hby d2_50) (by decide) (by decide) ?_
    show Steps p.tables e below (T4.setTop (mkF m 12 #[.val (.int lev), .val .null, .val (.ref b1), .val (.int (5 : Int32)), .val (.int (1 : Int32)), .val (.ref w0)] [])) t
    refine XS.iload X4.here hx rfl (hb hby d2_12) rfl ?_
    show Steps p.tables e below (T4.setTop (mkF m 14 #[.val (.int lev), .val .null, .val (.ref b1), .val (.int (5 : Int32)), .val (.int (1 : Int32)), .val (.ref w0)] [(.int (1 : Int32))])) t
    refine XS.iloadN X4.here hx rfl (hb hby d2_14) rfl ?_
    show Steps p.tables e below (T4.setTop (mkF m 15 #[.val (.int lev), .val .null, .val (.ref b1), .val (.int (5 : Int32)), .val (.int (1 : Int32)), .val (.ref w0)] [(.int (5 : Int32)), (.int (1 : Int32))])) t
    refine XS.icmpNo X4.here hx rfl (hb hby d2_15) rfl (tlt ((by decide) : (1 : Int32) < (5 : Int32))).2.1 ?_
    show Steps p.tables e below (T4.setTop (mkF m 18 #[.val (.int lev), .val .null, .val (.ref b1), .val (.int (5 : Int32)), .val (.int (1 : Int32)), .val (.ref w0)] [])) t
    refine XS.aloadN X4.here hx rfl (hb hby d2_18) rfl rfl ?_
    show Steps p.tables e below (T4.setTop (mkF m 19 #[.val (.int lev), .val .null, .val (.ref b1), .val (.int (5 : Int32)), .val (.int (1 : Int32)), .val (.ref w0)] [(.ref b1)])) t
    refine XS.iload X4.here hx rfl (hb hby d2_19) rfl ?_
    show Steps p.tables e below (T4.setTop (mkF m 21 #[.val (.int lev), .val .null, .val (.ref b1), .val (.int (5 : Int32)), .val (.int (1 : Int32)), .val (.ref w0)] [(.int (1 : Int32)), (.ref b1)])) t
    refine X4.aaload hx (j := (1 : Int32)) (v := (.ref w1)) (by rw [e4]; exact Ar5.1) (State.isArrayOf_alike hZ.alike Ar5.2.1) rfl Ar5.2.2 in5 at5 (g := (mkF m 21 #[.val (.int lev), .val .null, .val (.ref b1), .val (.int (5 : Int32)), .val (.int (1 : Int32)), .val (.ref w0)] [(.int (1 : Int32)), (.ref b1)])) rfl rfl (hb hby d2_21) _ ?_
    show Steps p.tables e below (T4.setTop (mkF m 22 #[.val (.int lev), .val .null, .val (.ref b1), .val (.int (5 : Int32)), .val (.int (1 : Int32)), .val (.ref w0)] [(.ref w1)])) t
    refine XS.astore X4.here hx rfl (hb hby d2_22) rfl rfl (l' := #[.val (.int lev), .val .null, .val (.ref b1), .val (.int (5 : Int32)), .val (.int (1 : Int32)), .val (.ref w1)]) rfl ?_
    show Steps p.tables e below (T4.setTop (mkF m 24 #[.val (.int lev), .val .null, .val (.ref b1), .val (.int (5 : Int32)), .val (.int (1 : Int32)), .val (.ref w1)] [])) t
    refine XS.aload X4.here hx rfl (hb hby d2_24) rfl rfl ?_
    show Steps p.tables e below (T4.setTop (mkF m 26 #[.val (.int lev), .val .null, .val (.ref b1), .val (.int (5 : Int32)), .val (.int (1 : Int32)), .val (.ref w1)] [(.ref w1)])) t
    refine st6 _ ?_
    show Steps p.tables e below (T6.setTop (mkF m 29 #[.val (.int lev), .val .null, .val (.ref b1), .val (.int (5 : Int32)), .val (.int (1 : Int32)), .val (.ref w1)] [(.ref w0), (.ref w1)])) t
    refine Jvm.RoadKit.acmp (g := (mkF m 29 #[.val (.int lev), .val .null, .val (.ref b1), .val (.int (5 : Int32)), .val (.int (1 : Int32)), .val (.ref w1)] [(.ref w0), (.ref w1)])) X6 hx rfl rfl rfl (pc0 := 29) (pc' := 32) (same := false) rfl (hb hby d2_29) rfl (decide_eq_false (fun q => ne_w1_w0 (Value.ref.inj q))) (by decide) (by decide) ?_
    show Steps p.tables e below (T6.setTop (mkF m 32 #[.val (.int lev), .val .null, .val (.ref b1), .val (.int (5 : Int32)), .val (.int (1 : Int32)), .val (.ref w1)] [])) t
    refine XS.aload X6.here hx rfl (hb hby d2_32) rfl rfl ?_
    show Steps p.tables e below (T6.setTop (mkF m 34 #[.val (.int lev), .val .null, .val (.ref b1), .val (.int (5 : Int32)), .val (.int (1 : Int32)), .val (.ref w1)] [(.ref w1)])) t
    refine st7.trans ?_
    show Steps p.tables e below (T7.setTop (mkF m 37 #[.val (.int lev), .val .null, .val (.ref b1), .val (.int (5 : Int32)), .val (.int (1 : Int32)), .val (.ref w1)] [(.int (1 : Int32))])) t
    refine XS.iloadN X7.here hx rfl (hb hby d2_37) rfl ?_
    show Steps p.tables e below (T7.setTop (mkF m 38 #[.val (.int lev), .val .null, .val (.ref b1), .val (.int (5 : Int32)), .val (.int (1 : Int32)), .val (.ref w1)] [(.int lev), (.int (1 : Int32))])) t
    refine XS.icmpYes X7.here hx rfl (pc0 := 38) (pc' := 47) rfl (hb hby d2_38) rfl (feq (hq0 : ¬ ((1 : Int32) = lev))).2 (by decide) (by decide) ?_
    show Steps p.tables e below (T7.setTop (mkF m 47 #[.val (.int lev), .val .null, .val (.ref b1), .val (.int (5 : Int32)), .val (.int (1 : Int32)), .val (.ref w1)] [])) t
    refine XS.iinc X7.here hx rfl (hb hby d2_47) rfl (l' := #[.val (.int lev), .val .null, .val (.ref b1), .val (.int (5 : Int32)), .val (.int (2 : Int32)), .val (.ref w1)]) rfl ?_
    show Steps p.tables e below (T7.setTop (mkF m 50 #[.val (.int lev), .val .null, .val (.ref b1), .val (.int (5 : Int32)), .val (.int (2 : Int32)), .val (.ref w1)] [])) t
    refine XS.goto X7.here hx rfl (pc0 := 50) (pc' := 12) rfl (hb hby d2_50) (by decide) (by decide) ?_
    show Steps p.tables e below (T7.setTop (mkF m 12 #[.val (.int lev), .val .null, .val (.ref b1), .val (.int (5 : Int32)), .val (.int (2 : Int32)), .val (.ref w1)] [])) t
    refine XS.iload X7.here hx rfl (hb hby d2_12) rfl ?_
    show Steps p.tables e below (T7.setTop (mkF m 14 #[.val (.int lev), .val .null, .val (.ref b1), .val (.int (5 : Int32)), .val (.int (2 : Int32)), .val (.ref w1)] [(.int (2 : Int32))])) t
    refine XS.iloadN X7.here hx rfl (hb hby d2_14) rfl ?_
    show Steps p.tables e below (T7.setTop (mkF m 15 #[.val (.int lev), .val .null, .val (.ref b1), .val (.int (5 : Int32)), .val (.int (2 : Int32)), .val (.ref w1)] [(.int (5 : Int32)), (.int (2 : Int32))])) t
    refine XS.icmpNo X7.here hx rfl (hb hby d2_15) rfl (tlt ((by decide) : (2 : Int32) < (5 : Int32))).2.1 ?_
    show Steps p.tables e below (T7.setTop (mkF m 18 #[.val (.int lev), .val .null, .val (.ref b1), .val (.int (5 : Int32)), .val (.int (2 : Int32)), .val (.ref w1)] [])) t
    refine XS.aloadN X7.here hx rfl (hb hby d2_18) rfl rfl ?_
    show Steps p.tables e below (T7.setTop (mkF m 19 #[.val (.int lev), .val .null, .val (.ref b1), .val (.int (5 : Int32)), .val (.int (2 : Int32)), .val (.ref w1)] [(.ref b1)])) t
    refine XS.iload X7.here hx rfl (hb hby d2_19) rfl ?_
    show Steps p.tables e below (T7.setTop (mkF m 21 #[.val (.int lev), .val .null, .val (.ref b1), .val (.int (5 : Int32)), .val (.int (2 : Int32)), .val (.ref w1)] [(.int (2 : Int32)), (.ref b1)])) t
    refine X7.aaload hx (j := (2 : Int32)) (v := (.ref w2)) (by rw [e7]; exact Ar8.1) (State.isArrayOf_alike hZ.alike Ar8.2.1) rfl Ar8.2.2 in8 at8 (g := (mkF m 21 #[.val (.int lev), .val .null, .val (.ref b1), .val (.int (5 : Int32)), .val (.int (2 : Int32)), .val (.ref w1)] [(.int (2 : Int32)), (.ref b1)])) rfl rfl (hb hby d2_21) _ ?_
    show Steps p.tables e below (T7.setTop (mkF m 22 #[.val (.int lev), .val .null, .val (.ref b1), .val (.int (5 : Int32)), .val (.int (2 : Int32)), .val (.ref w1)] [(.ref w2)])) t
    refine XS.astore X7.here hx rfl (hb hby d2_22) rfl rfl (l' := #[.val (.int lev), .val .null, .val (.ref b1), .val (.int (5 : Int32)), .val (.int (2 : Int32)), .val (.ref w2)]) rfl ?_
    show Steps p.tables e below (T7.setTop (mkF m 24 #[.val (.int lev), .val .null, .val (.ref b1), .val (.int (5 : Int32)), .val (.int (2 : Int32)), .val (.ref w2)] [])) t
    refine XS.aload X7.here hx rfl (hb hby d2_24) rfl rfl ?_
    show Steps p.tables e below (T7.setTop (mkF m 26 #[.val (.int lev), .val .null, .val (.ref b1), .val (.int (5 : Int32)), .val (.int (2 : Int32)), .val (.ref w2)] [(.ref w2)])) t
    refine st9 _ ?_
    show Steps p.tables e below (T9.setTop (mkF m 29 #[.val (.int lev), .val .null, .val (.ref b1), .val (.int (5 : Int32)), .val (.int (2 : Int32)), .val (.ref w2)] [(.ref w0), (.ref w2)])) t
    refine Jvm.RoadKit.acmp (g := (mkF m 29 #[.val (.int lev), .val .null, .val (.ref b1), .val (.int (5 : Int32)), .val (.int (2 : Int32)), .val (.ref w2)] [(.ref w0), (.ref w2)])) X9 hx rfl rfl rfl (pc0 := 29) (pc' := 32) (same := false) rfl (hb hby d2_29) rfl (decide_eq_false (fun q => ne_w2_w0 (Value.ref.inj q))) (by decide) (by decide) ?_
    show Steps p.tables e below (T9.setTop (mkF m 32 #[.val (.int lev), .val .null, .val (.ref b1), .val (.int (5 : Int32)), .val (.int (2 : Int32)), .val (.ref w2)] [])) t
    refine XS.aload X9.here hx rfl (hb hby d2_32) rfl rfl ?_
    show Steps p.tables e below (T9.setTop (mkF m 34 #[.val (.int lev), .val .null, .val (.ref b1), .val (.int (5 : Int32)), .val (.int (2 : Int32)), .val (.ref w2)] [(.ref w2)])) t
    refine st10.trans ?_
    show Steps p.tables e below (T10.setTop (mkF m 37 #[.val (.int lev), .val .null, .val (.ref b1), .val (.int (5 : Int32)), .val (.int (2 : Int32)), .val (.ref w2)] [(.int (2 : Int32))])) t
    refine XS.iloadN X10.here hx rfl (hb hby d2_37) rfl ?_
    show Steps p.tables e below (T10.setTop (mkF m 38 #[.val (.int lev), .val .null, .val (.ref b1), .val (.int (5 : Int32)), .val (.int (2 : Int32)), .val (.ref w2)] [(.int lev), (.int (2 : Int32))])) t
    refine XS.icmpNo X10.here hx rfl (hb hby d2_38) rfl (teq (hq1 : (2 : Int32) = lev)).2 ?_
    show Steps p.tables e below (T10.setTop (mkF m 41 #[.val (.int lev), .val .null, .val (.ref b1), .val (.int (5 : Int32)), .val (.int (2 : Int32)), .val (.ref w2)] [])) t
    refine XS.aload X10.here hx rfl (hb hby d2_41) rfl rfl ?_
    show Steps p.tables e below (T10.setTop (mkF m 43 #[.val (.int lev), .val .null, .val (.ref b1), .val (.int (5 : Int32)), .val (.int (2 : Int32)), .val (.ref w2)] [(.ref w2)])) t
    refine XS.astoreN X10.here hx rfl (hb hby d2_43) rfl rfl (l' := #[.val (.int lev), .val (.ref w2), .val (.ref b1), .val (.int (5 : Int32)), .val (.int (2 : Int32)), .val (.ref w2)]) rfl ?_
    show Steps p.tables e below (T10.setTop (mkF m 44 #[.val (.int lev), .val (.ref w2), .val (.ref b1), .val (.int (5 : Int32)), .val (.int (2 : Int32)), .val (.ref w2)] [])) t
    refine XS.goto X10.here hx rfl (pc0 := 44) (pc' := 53) rfl (hb hby d2_44) (by decide) (by decide) ?_
    show Steps p.tables e below (T10.setTop (mkF m 53 #[.val (.int lev), .val (.ref w2), .val (.ref b1), .val (.int (5 : Int32)), .val (.int (2 : Int32)), .val (.ref w2)] [])) t
    refine XS.aloadN X10.here hx rfl (hb hby d2_53) rfl rfl ?_
    show Steps p.tables e below (T10.setTop (mkF m 54 #[.val (.int lev), .val (.ref w2), .val (.ref b1), .val (.int (5 : Int32)), .val (.int (2 : Int32)), .val (.ref w2)] [(.ref w2)])) t
    refine st11 _ ?_
    exact k
  obtain ⟨fs, hr, hrun, hended, hW, hsame⟩ := X11.leave (v := some (.ref b11)) (fun h => by rw [Bd.returns] at h; cases h)
  refine ⟨_, _, R12 _ ?_, hrun, hended, _, _, rfl, ?_, ⟨_, rfl⟩, hW, hsame.mono (by decide) (by decide)⟩
  · show Steps p.tables e below (T11.setTop (mkF m 57 #[.val (.int lev), .val (.ref w2), .val (.ref b1), .val (.int (5 : Int32)), .val (.int (2 : Int32)), .val (.ref w2)] [(.ref b11)])) _
    exact retOut X11 hx Bd.returns rfl (Or.inr (Or.inr (Or.inr (Or.inr ⟨rfl, rfl, rfl⟩)))) (hb hby d2_57) hr
  · show Q_oj1 Z w0 w1 w2 w3 w4 wV kV wE lev h0 n0 _ T11.heap _
    exact ⟨b11, rfl, N11, K11, y11_0, y11_1⟩
theorem d1_18 : decode method_2_code 18 = .ok (.iload_n 0, 1) := by decide +kernel
theorem d1_19 : decode method_2_code 19 = .ok (.iconst 4, 1) := by decide +kernel
theorem d1_20 : decode method_2_code 20 = .ok (.if_icmp .ne 7, 3) := by decide +kernel
theorem d1_23 : decode method_2_code 23 = .ok (.getstatic 16, 3) := by decide +kernel
theorem d1_26 : decode method_2_code 26 = .ok (.areturn, 1) := by decide +kernel
theorem ef_exp2 (m : MethodId) (lev : Int32) : entryFrame m #[(.int lev)] 1 = mkF m 0 #[.val (.int lev)] [] := by first | (simp [entryFrame, mkF, argsToLocals, Value.category]; done) | rfl
def Q_exp2 (Z : State) (w0 : Addr) (w1 : Addr) (w2 : Addr) (w3 : Addr) (w4 : Addr) (wV : Addr) (kV : ClassId) (wE : Addr) (lev : Int32) (h0 : Heap) (n0 : Nat) (vv_ : Option Value) (hh_ : Heap) (LL_ : List Loc) : Prop := vv_ = some (.ref w3) ∧ (Fr n0 LL_) ∧ (hh_ = h0)
set_option maxRecDepth 65536 in
set_option maxHeartbeats 40000000 in
theorem exp2 (l : Launch) (Z : State) (a0 : Array Value) (hw : ∀ d ∈ tables_1, d.before a0 Z = true) (ws : List Jvm.Cond) (w0 : Addr) (w1 : Addr) (w2 : Addr) (w3 : Addr) (w4 : Addr) (wV : Addr) (kV : ClassId) (wE : Addr) (lev : Int32) (h0 : Heap) (n0 : Nat) (O0 : Old Z n0 h0) (S_w0 : Sta Z Z.heap "com/example/demarcate/demarcate/Isolation" "DEFAULT" "Lcom/example/demarcate/demarcate/Isolation;" (.ref w0)) (S_w1 : Sta Z Z.heap "com/example/demarcate/demarcate/Isolation" "READ_UNCOMMITTED" "Lcom/example/demarcate/demarcate/Isolation;" (.ref w1)) (S_w2 : Sta Z Z.heap "com/example/demarcate/demarcate/Isolation" "READ_COMMITTED" "Lcom/example/demarcate/demarcate/Isolation;" (.ref w2)) (S_w3 : Sta Z Z.heap "com/example/demarcate/demarcate/Isolation" "REPEATABLE_READ" "Lcom/example/demarcate/demarcate/Isolation;" (.ref w3)) (S_w4 : Sta Z Z.heap "com/example/demarcate/demarcate/Isolation" "SERIALIZABLE" "Lcom/example/demarcate/demarcate/Isolation;" (.ref w4)) (E_w0 : Exa Z Z.heap w0 "com/example/demarcate/demarcate/Isolation") (E_w1 : Exa Z Z.heap w1 "com/example/demarcate/demarcate/Isolation") (E_w2 : Exa Z Z.heap w2 "com/example/demarcate/demarcate/Isolation") (E_w3 : Exa Z Z.heap w3 "com/example/demarcate/demarcate/Isolation") (E_w4 : Exa Z Z.heap w4 "com/example/demarcate/demarcate/Isolation") (F_w1 : Fld Z Z.heap w1 "java/lang/Enum" "ordinal" "I" (.int (1 : Int32))) (F_w2 : Fld Z Z.heap w2 "java/lang/Enum" "ordinal" "I" (.int (2 : Int32))) (F_w3 : Fld Z Z.heap w3 "java/lang/Enum" "ordinal" "I" (.int (3 : Int32))) (F_w4 : Fld Z Z.heap w4 "java/lang/Enum" "ordinal" "I" (.int (4 : Int32))) (S_wV : Sta Z Z.heap "com/example/demarcate/demarcate/Isolation" "$VALUES" "[Lcom/example/demarcate/demarcate/Isolation;" (.ref wV)) (E_wV : Exa Z Z.heap wV "[Lcom/example/demarcate/demarcate/Isolation;") (A_wV : Arv Z Z.heap wV kV (.object "com/example/demarcate/demarcate/Isolation") (5 : Int32) [(.ref w0), (.ref w1), (.ref w2), (.ref w3), (.ref w4)] .null) (S_wE : Sta Z Z.heap "java/util/Optional" "EMPTY" "Ljava/util/Optional;" (.ref wE)) (E_wE : Exa Z Z.heap wE "java/util/Optional") (F_wE : Fld Z Z.heap wE "java/util/Optional" "value" "Ljava/lang/Object;" .null) (ne_w1_w0 : w1 ≠ w0) (ne_w2_w0 : w2 ≠ w0) (ne_w3_w0 : w3 ≠ w0) (ne_w4_w0 : w4 ≠ w0) (hq0 : ¬ (lev = (1 : Int32))) (hq1 : ¬ (lev = (2 : Int32))) (hq2 : lev = (4 : Int32)) :
    MetFree l (⟨"com/example/demarcate/demarcate/IsolationOfJdbcLevelPinLaw", "expected", "(I)Lcom/example/demarcate/demarcate/Isolation;"⟩ : MethodName) (head1 (Jvm.Cond.code (⟨"com/example/demarcate/demarcate/IsolationOfJdbcLevelPinLaw", "expected", "(I)Lcom/example/demarcate/demarcate/Isolation;"⟩ : MethodName) method_2_code 1 (some (.object "com/example/demarcate/demarcate/Isolation")) :: ws) ({ frames := 0, cells := 0, slots := 0, locals := 0 } : Room)) (fun aa_ U_ => aa_ = #[(.int lev)] ∧ Z.Warmed39 U_.vm ∧ U_.heap = h0) (fun _ _ _ _ _ => True) (fun _ U_ oo_ V_ => ∃ vv_ LL_, oo_ = .returned vv_ ∧ Q_exp2 Z w0 w1 w2 w3 w4 wV kV wE lev h0 n0 vv_ V_.heap LL_ ∧ FrameEnd U_ oo_ V_ LL_ ({ frames := 0, cells := 0, slots := 0, locals := 0 } : Room).cells ({ frames := 0, cells := 0, slots := 0, locals := 0 } : Room).slots) := by
  refine MetFree.of_bodySF (plainFor_of_name pn_com_example_demarcate_demarcate_IsolationOfJdbcLevelPinLaw) hisR ?_
  intro p e s m args below meth c s₁ Bd hml0 hP hK
  obtain ⟨rfl, hZ, hh⟩ := hP
  have hx := Bd.exec
  have hby := Bd.bytes
  have hml : c.maxLocals = 1 := hml0
  have hown : s.vm.findClass "com/example/demarcate/demarcate/IsolationOfJdbcLevelPinLaw" = some m.cls := findClass_of_methodNamed Bd.named
  have hnm := (name_of_methodNamed Bd.named Bd.method).1
  have X0 : Stand p l e ({ frames := 0, cells := 0, slots := 0, locals := 0 } : Room) s m #[(.int lev)] below meth c s₁ [] 0 0 := Stand.of_body Bd
  have e0 : s₁.heap = h0 := by rw [← hh, Bd.state]; rfl
  have N0 := Fr.nil n0
  have Z0 : n0 ≤ h0.size := O0.1 ▸ O0.2.1
  have hk0 := Nat.zero_le h0.size
  have K0 : Keep h0 h0 [] := Keep.refl _ _
  have R0 : ∀ t, Steps p.tables e below (s₁.setTop (mkF m 0 #[.val (.int lev)] [])) t → Steps p.tables e below (s₁.setTop (entryFrame m #[(.int lev)] 1)) t := fun t k => castTop (ef_exp2 m lev) k
  obtain ⟨T1, X1, e1, st1⟩ := getS2 X0 hx hZ hown (host := "") (Or.inl (hw _ (List.mem_of_getElem? (i := 72) rfl))) Via.refl e0 (S_w3.ext O0.2) (g := (mkF m 23 #[.val (.int lev)] [])) rfl (hb hby d1_23)
  have R2 : ∀ t, Steps p.tables e below (T1.setTop (mkF m 26 #[.val (.int lev)] [(.ref w3)])) t → Steps p.tables e below (s₁.setTop (entryFrame m #[(.int lev)] 1)) t := by
    intro t k
    refine R0 t ?_
    show Steps p.tables e below (s₁.setTop (mkF m 0 #[.val (.int lev)] [])) t
    refine XS.iloadN X0.here hx rfl (hb hby d1_0) rfl ?_
    show Steps p.tables e below (s₁.setTop (mkF m 1 #[.val (.int lev)] [(.int lev)])) t
    refine XS.iconst X0.here hx rfl (hb hby d1_1) ?_
    show Steps p.tables e below (s₁.setTop (mkF m 2 #[.val (.int lev)] [(.int (1 : Int32)), (.int lev)])) t
    refine XS.icmpYes X0.here hx rfl (pc0 := 2) (pc' := 9) rfl (hb hby d1_2) rfl (feq (hq0 : ¬ (lev = (1 : Int32)))).2 (by decide) (by decide) ?_
    show Steps p.tables e below (s₁.setTop (mkF m 9 #[.val (.int lev)] [])) t
    refine XS.iloadN X0.here hx rfl (hb hby d1_9) rfl ?_
    show Steps p.tables e below (s₁.setTop (mkF m 10 #[.val (.int lev)] [(.int lev)])) t
    refine XS.iconst X0.here hx rfl (hb hby d1_10) ?_
    show Steps p.tables e below (s₁.setTop (mkF m 11 #[.val (.int lev)] [(.int (2 : Int32)), (.int lev)])) t
    refine XS.icmpYes X0.here hx rfl (pc0 := 11) (pc' := 18) rfl (hb hby d1_11) rfl (feq (hq1 : ¬ (lev = (2 : Int32)))).2 (by decide) (by decide) ?_
    show Steps p.tables e below (s₁.setTop (mkF m 18 #[.val (.int lev)] [])) t
    refine XS.iloadN X0.here hx rfl (hb hby d1_18) rfl ?_
    show Steps p.tables e below (s₁.setTop (mkF m 19 #[.val (.int lev)] [(.int lev)])) t
    refine XS.iconst X0.here hx rfl (hb hby d1_19) ?_
    show Steps p.tables e below (s₁.setTop (mkF m 20 #[.val (.int lev)] [(.int (4 : Int32)), (.int lev)])) t
    refine XS.icmpNo X0.here hx rfl (hb hby d1_20) rfl (teq (hq2 : lev = (4 : Int32))).2 ?_
    show Steps p.tables e below (s₁.setTop (mkF m 23 #[.val (.int lev)] [])) t
    refine st1 _ ?_
    exact k
  obtain ⟨fs, hr, hrun, hended, hW, hsame⟩ := X1.leave (v := some (.ref w3)) (fun h => by rw [Bd.returns] at h; cases h)
  refine ⟨_, _, R2 _ ?_, hrun, hended, _, _, rfl, ?_, ⟨_, rfl⟩, hW, hsame.mono (by decide) (by decide)⟩
  · show Steps p.tables e below (T1.setTop (mkF m 26 #[.val (.int lev)] [(.ref w3)])) _
    exact retOut X1 hx Bd.returns rfl (Or.inr (Or.inr (Or.inr (Or.inr ⟨rfl, rfl, rfl⟩)))) (hb hby d1_26) hr
  · show Q_exp2 Z w0 w1 w2 w3 w4 wV kV wE lev h0 n0 _ T1.heap _
    rw [e1]
    exact ⟨rfl, N0, rfl⟩
theorem ef_oj2 (m : MethodId) (lev : Int32) : entryFrame m #[(.int lev)] 6 = mkF m 0 #[.val (.int lev), .unset, .unset, .unset, .unset, .unset] [] := by first | (simp [entryFrame, mkF, argsToLocals, Value.category]; done) | rfl
def Q_oj2 (Z : State) (w0 : Addr) (w1 : Addr) (w2 : Addr) (w3 : Addr) (w4 : Addr) (wV : Addr) (kV : ClassId) (wE : Addr) (lev : Int32) (h0 : Heap) (n0 : Nat) (vv_ : Option Value) (hh_ : Heap) (LL_ : List Loc) : Prop := ∃ (b : Addr), vv_ = some (.ref b) ∧ (Fr n0 LL_) ∧ (Keep h0 hh_ []) ∧ (Exa Z hh_ b "java/util/Optional") ∧ (Fld Z hh_ b "java/util/Optional" "value" "Ljava/lang/Object;" (.ref w3))
set_option maxRecDepth 65536 in
set_option maxHeartbeats 40000000 in
theorem oj2 (l : Launch) (Z : State) (a0 : Array Value) (hw : ∀ d ∈ tables_1, d.before a0 Z = true) (ws : List Jvm.Cond) (w0 : Addr) (w1 : Addr) (w2 : Addr) (w3 : Addr) (w4 : Addr) (wV : Addr) (kV : ClassId) (wE : Addr) (lev : Int32) (h0 : Heap) (n0 : Nat) (O0 : Old Z n0 h0) (S_w0 : Sta Z Z.heap "com/example/demarcate/demarcate/Isolation" "DEFAULT" "Lcom/example/demarcate/demarcate/Isolation;" (.ref w0)) (S_w1 : Sta Z Z.heap "com/example/demarcate/demarcate/Isolation" "READ_UNCOMMITTED" "Lcom/example/demarcate/demarcate/Isolation;" (.ref w1)) (S_w2 : Sta Z Z.heap "com/example/demarcate/demarcate/Isolation" "READ_COMMITTED" "Lcom/example/demarcate/demarcate/Isolation;" (.ref w2)) (S_w3 : Sta Z Z.heap "com/example/demarcate/demarcate/Isolation" "REPEATABLE_READ" "Lcom/example/demarcate/demarcate/Isolation;" (.ref w3)) (S_w4 : Sta Z Z.heap "com/example/demarcate/demarcate/Isolation" "SERIALIZABLE" "Lcom/example/demarcate/demarcate/Isolation;" (.ref w4)) (E_w0 : Exa Z Z.heap w0 "com/example/demarcate/demarcate/Isolation") (E_w1 : Exa Z Z.heap w1 "com/example/demarcate/demarcate/Isolation") (E_w2 : Exa Z Z.heap w2 "com/example/demarcate/demarcate/Isolation") (E_w3 : Exa Z Z.heap w3 "com/example/demarcate/demarcate/Isolation") (E_w4 : Exa Z Z.heap w4 "com/example/demarcate/demarcate/Isolation") (F_w1 : Fld Z Z.heap w1 "java/lang/Enum" "ordinal" "I" (.int (1 : Int32))) (F_w2 : Fld Z Z.heap w2 "java/lang/Enum" "ordinal" "I" (.int (2 : Int32))) (F_w3 : Fld Z Z.heap w3 "java/lang/Enum" "ordinal" "I" (.int (3 : Int32))) (F_w4 : Fld Z Z.heap w4 "java/lang/Enum" "ordinal" "I" (.int (4 : Int32))) (S_wV : Sta Z Z.heap "com/example/demarcate/demarcate/Isolation" "$VALUES" "[Lcom/example/demarcate/demarcate/Isolation;" (.ref wV)) (E_wV : Exa Z Z.heap wV "[Lcom/example/demarcate/demarcate/Isolation;") (A_wV : Arv Z Z.heap wV kV (.object "com/example/demarcate/demarcate/Isolation") (5 : Int32) [(.ref w0), (.ref w1), (.ref w2), (.ref w3), (.ref w4)] .null) (S_wE : Sta Z Z.heap "java/util/Optional" "EMPTY" "Ljava/util/Optional;" (.ref wE)) (E_wE : Exa Z Z.heap wE "java/util/Optional") (F_wE : Fld Z Z.heap wE "java/util/Optional" "value" "Ljava/lang/Object;" .null) (ne_w1_w0 : w1 ≠ w0) (ne_w2_w0 : w2 ≠ w0) (ne_w3_w0 : w3 ≠ w0) (ne_w4_w0 : w4 ≠ w0) (hq0 : ¬ ((1 : Int32) = lev)) (hq1 : ¬ ((2 : Int32) = lev)) (hq2 : (4 : Int32) = lev) :
    MetFree l (⟨"com/example/demarcate/demarcate/Isolation", "ofJdbcLevel", "(I)Ljava/util/Optional;"⟩ : MethodName) (head1 (Jvm.Cond.code (⟨"com/example/demarcate/demarcate/Isolation", "ofJdbcLevel", "(I)Ljava/util/Optional;"⟩ : MethodName) prog_11_method_5_code 6 (some (.object "java/util/Optional")) :: ws) ({ frames := 3, cells := 2, slots := 6, locals := 38 } : Room)) (fun aa_ U_ => aa_ = #[(.int lev)] ∧ Z.Warmed39 U_.vm ∧ U_.heap = h0) (fun _ _ _ _ _ => True) (fun _ U_ oo_ V_ => ∃ vv_ LL_, oo_ = .returned vv_ ∧ Q_oj2 Z w0 w1 w2 w3 w4 wV kV wE lev h0 n0 vv_ V_.heap LL_ ∧ FrameEnd U_ oo_ V_ LL_ ({ frames := 3, cells := 2, slots := 6, locals := 38 } : Room).cells ({ frames := 3, cells := 2, slots := 6, locals := 38 } : Room).slots) := by
  refine MetFree.of_bodySF (plainFor_of_name pn_com_example_demarcate_demarcate_Isolation) hisR ?_
  intro p e s m args below meth c s₁ Bd hml0 hP hK
  obtain ⟨rfl, hZ, hh⟩ := hP
  have hx := Bd.exec
  have hby := Bd.bytes
  have hml : c.maxLocals = 6 := hml0
  have hown : s.vm.findClass "com/example/demarcate/demarcate/Isolation" = some m.cls := findClass_of_methodNamed Bd.named
  have hnm := (name_of_methodNamed Bd.named Bd.method).1
  have X0 : Stand p l e ({ frames := 3, cells := 2, slots := 6, locals := 38 } : Room) s m #[(.int lev)] below meth c s₁ [] 0 0 := Stand.of_body Bd
  have e0 : s₁.heap = h0 := by rw [← hh, Bd.state]; rfl
  have N0 := Fr.nil n0
  have Z0 : n0 ≤ h0.size := O0.1 ▸ O0.2.1
  have hk0 := Nat.zero_le h0.size
  have K0 : Keep h0 h0 [] := Keep.refl _ _
  have R0 : ∀ t, Steps p.tables e below (s₁.setTop (mkF m 0 #[.val (.int lev), .unset, .unset, .unset, .unset, .unset] [])) t → Steps p.tables e below (s₁.setTop (entryFrame m #[(.int lev)] 6)) t := fun t k => castTop (ef_oj2 m lev) k
  obtain ⟨_, _, ⟨T1, L1, k1, n1⟩, -, X1, ⟨Lc1, hQ1, l1, y1, z1⟩, st1⟩ := Jvm.LawKit.callS X0 hx (y := (⟨"com/example/demarcate/demarcate/Isolation", "values", "()[Lcom/example/demarcate/demarcate/Isolation;"⟩ : MethodName)) hown (mvT hZ (hw _ (List.mem_of_getElem? (i := 8) rfl))) (mvT hZ (hw _ (List.mem_of_getElem? (i := 9) rfl))) (mvT hZ (hw _ (List.mem_of_getElem? (i := 6) rfl))) (mvT hZ (hw _ (List.mem_of_getElem? (i := 10) rfl))) (by decide) (backOf (W := 0) (values l Z a0 hw [] w0 w1 w2 w3 w4 wV kV wE  h0 n0 O0 S_w0 S_w1 S_w2 S_w3 S_w4 E_w0 E_w1 E_w2 E_w3 E_w4 F_w1 F_w2 F_w3 F_w4 S_wV E_wV A_wV S_wE E_wE F_wE ne_w1_w0 ne_w2_w0 ne_w3_w0 ne_w4_w0   ) hZ (hw _ (List.mem_of_getElem? (i := 10) rfl)) (hw _ (List.mem_of_getElem? (i := 6) rfl)) (by decide) (by decide)) (g := (mkF m 2 #[.val (.int lev), .val .null, .unset, .unset, .unset, .unset] [])) rfl (by rw [hml]; rfl) (argsL := []) (rest := []) (lenOf pd_2 rfl) rfl (by show 2 * 0 + _ ≤ _; exact Nat.le_of_eq rfl) (hb hby d2_2) (fun _ _ => ⟨rfl, e0, (by decide : 0 + 1 ≤ _), (by decide : 0 + 5 ≤ _)⟩)
  dsimp only [Pt.U, Pt.locs, Pt.cells, Pt.slots] at X1 l1 y1 z1 st1 hQ1
  subst l1 y1 z1
  obtain ⟨b1, rfl, N1q, K1q, fr1_b, y1_0, y1_1⟩ := hQ1
  have N1 := Fr.app N0 N1q
  have g_b1 : n0 ≤ b1 := Nat.le_trans Z0 fr1_b
  have sz_b1 : h0.size ≤ b1 := Nat.le_trans K0.1 fr1_b
  have Z1 : n0 ≤ T1.heap.size := Nat.le_trans Z0 K1q.1
  have K1 : Keep h0 T1.heap [] := K0.trans K1q all0
  have O1 : Old Z n0 T1.heap := O0.keep K1q all0
  obtain ⟨cl2, Ar2, -, S2, M2, -, -⟩ := id y1_1
  obtain ⟨cl3, Ar3, q3, S3, M3, H3, G3⟩ := id y1_1
  have in3 : ¬ ((0 : Int32) < 0 ∨ cl3.slots.size ≤ ((0 : Int32)).toNatClampNeg) := inb_of S3 ⟨by decide, by decide⟩
  have at3 : cl3.slots[((0 : Int32)).toNatClampNeg]? = some (.ref w0) := H3.at in3 rfl
  obtain ⟨T4, X4, e4, st4⟩ := getS2 X1 hx hZ hown (host := "") (Or.inl (hw _ (List.mem_of_getElem? (i := 28) rfl))) Via.refl rfl (S_w0.ext O1.2) (g := (mkF m 26 #[.val (.int lev), .val .null, .val (.ref b1), .val (.int (5 : Int32)), .val (.int (0 : Int32)), .val (.ref w0)] [(.ref w0)])) rfl (hb hby d2_26)
  obtain ⟨cl5, Ar5, q5, S5, M5, H5, G5⟩ := id y1_1
  have in5 : ¬ ((1 : Int32) < 0 ∨ cl5.slots.size ≤ ((1 : Int32)).toNatClampNeg) := inb_of S5 ⟨by decide, by decide⟩
  have at5 : cl5.slots[((1 : Int32)).toNatClampNeg]? = some (.ref w1) := H5.at in5 rfl
  obtain ⟨T6, X6, e6, st6⟩ := getS2 X4 hx hZ hown (host := "") (Or.inl (hw _ (List.mem_of_getElem? (i := 28) rfl))) Via.refl e4 (S_w0.ext O1.2) (g := (mkF m 26 #[.val (.int lev), .val .null, .val (.ref b1), .val (.int (5 : Int32)), .val (.int (1 : Int32)), .val (.ref w1)] [(.ref w1)])) rfl (hb hby d2_26)
  obtain ⟨cq7, kq7, q7a, q7b, q7c⟩ := isOf hZ e6 (E_w1.ext O1.2)
  obtain ⟨_, _, ⟨T7, L7, k7, n7⟩, -, X7, ⟨Lc7, hQ7, l7, y7, z7⟩, st7⟩ := X6.virtualBack hx (y := (⟨"com/example/demarcate/demarcate/Isolation", "jdbcLevel", "()I"⟩ : MethodName)) (z := (⟨"com/example/demarcate/demarcate/Isolation", "jdbcLevel", "()I"⟩ : MethodName)) hown (mvT hZ (hw _ (List.mem_of_getElem? (i := 29) rfl))) (mvT hZ (hw _ (List.mem_of_getElem? (i := 30) rfl))) (notFace_of_selects (args := #[]) (mvT hZ (hw _ (List.mem_of_getElem? (i := 32) rfl)))) (mvT hZ (hw _ (List.mem_of_getElem? (i := 32) rfl))) (mvT hZ (hw _ (List.mem_of_getElem? (i := 31) rfl))) (by decide) (backOf (W := 0) (jl1 l Z a0 hw [] w0 w1 w2 w3 w4 wV kV wE w1 T1.heap n0 O1 S_w0 S_w1 S_w2 S_w3 S_w4 E_w0 E_w1 E_w2 E_w3 E_w4 F_w1 F_w2 F_w3 F_w4 S_wV E_wV A_wV S_wE E_wE F_wE ne_w1_w0 ne_w2_w0 ne_w3_w0 ne_w4_w0   (E_w1.ext O1.2) (F_w1.ext O1.2)) hZ (hw _ (List.mem_of_getElem? (i := 33) rfl)) (hw _ (List.mem_of_getElem? (i := 6) rfl)) (by decide) (by decide)) q7a q7c (g := (mkF m 34 #[.val (.int lev), .val .null, .val (.ref b1), .val (.int (5 : Int32)), .val (.int (1 : Int32)), .val (.ref w1)] [(.ref w1)])) rfl (by rw [hml]; rfl) (Steps.refl _) (argsL := []) (rest := []) (lenOf pd_0 rfl) rfl (by show 2 * 0 + _ ≤ _; exact Nat.le_of_eq rfl) (hb hby d2_34) (fun _ _ => ⟨rfl, e6, (by decide : 1 + 0 ≤ _), (by decide : 5 + 0 ≤ _)⟩)
  dsimp only [Pt.U, Pt.locs, Pt.cells, Pt.slots] at X7 l7 y7 z7 st7 hQ7
  subst l7 y7 z7
  obtain ⟨rfl, N7q, e7⟩ := hQ7
  have N7 := Fr.app N1 N7q
  obtain ⟨cl8, Ar8, q8, S8, M8, H8, G8⟩ := id y1_1
  have in8 : ¬ ((2 : Int32) < 0 ∨ cl8.slots.size ≤ ((2 : Int32)).toNatClampNeg) := inb_of S8 ⟨by decide, by decide⟩
  have at8 : cl8.slots[((2 : Int32)).toNatClampNeg]? = some (.ref w2) := H8.at in8 rfl
  obtain ⟨T9, X9, e9, st9⟩ := getS2 X7 hx hZ hown (host := "") (Or.inl (hw _ (List.mem_of_getElem? (i := 28) rfl))) Via.refl e7 (S_w0.ext O1.2) (g := (mkF m 26 #[.val (.int lev), .val .null, .val (.ref b1), .val (.int (5 : Int32)), .val (.int (2 : Int32)), .val (.ref w2)] [(.ref w2)])) rfl (hb hby d2_26)
  obtain ⟨cq10, kq10, q10a, q10b, q10c⟩ := isOf hZ e9 (E_w2.ext O1.2)
  obtain ⟨_, _, ⟨T10, L10, k10, n10⟩, -, X10, ⟨Lc10, hQ10, l10, y10, z10⟩, st10⟩ := X9.virtualBack hx (y := (⟨"com/example/demarcate/demarcate/Isolation", "jdbcLevel", "()I"⟩ : MethodName)) (z := (⟨"com/example/demarcate/demarcate/Isolation", "jdbcLevel", "()I"⟩ : MethodName)) hown (mvT hZ (hw _ (List.mem_of_getElem? (i := 29) rfl))) (mvT hZ (hw _ (List.mem_of_getElem? (i := 30) rfl))) (notFace_of_selects (args := #[]) (mvT hZ (hw _ (List.mem_of_getElem? (i := 32) rfl)))) (mvT hZ (hw _ (List.mem_of_getElem? (i := 32) rfl))) (mvT hZ (hw _ (List.mem_of_getElem? (i := 31) rfl))) (by decide) (backOf (W := 0) (jl2 l Z a0 hw [] w0 w1 w2 w3 w4 wV kV wE w2 T1.heap n0 O1 S_w0 S_w1 S_w2 S_w3 S_w4 E_w0 E_w1 E_w2 E_w3 E_w4 F_w1 F_w2 F_w3 F_w4 S_wV E_wV A_wV S_wE E_wE F_wE ne_w1_w0 ne_w2_w0 ne_w3_w0 ne_w4_w0   (E_w2.ext O1.2) (F_w2.ext O1.2)) hZ (hw _ (List.mem_of_getElem? (i := 33) rfl)) (hw _ (List.mem_of_getElem? (i := 6) rfl)) (by decide) (by decide)) q10a q10c (g := (mkF m 34 #[.val (.int lev), .val .null, .val (.ref b1), .val (.int (5 : Int32)), .val (.int (2 : Int32)), .val (.ref w2)] [(.ref w2)])) rfl (by rw [hml]; rfl) (Steps.refl _) (argsL := []) (rest := []) (lenOf pd_0 rfl) rfl (by show 2 * 0 + _ ≤ _; exact Nat.le_of_eq rfl) (hb hby d2_34) (fun _ _ => ⟨rfl, e9, (by decide : 1 + 0 ≤ _), (by decide : 5 + 0 ≤ _)⟩)
  dsimp only [Pt.U, Pt.locs, Pt.cells, Pt.slots] at X10 l10 y10 z10 st10 hQ10
  subst l10 y10 z10
  obtain ⟨rfl, N10q, e10⟩ := hQ10
  have N10 := Fr.app N7 N10q
  obtain ⟨cl11, Ar11, q11, S11, M11, H11, G11⟩ := id y1_1
  have in11 : ¬ ((3 : Int32) < 0 ∨ cl11.slots.size ≤ ((3 : Int32)).toNatClampNeg) := inb_of S11 ⟨by decide, by decide⟩
  have at11 : cl11.slots[((3 : Int32)).toNatClampNeg]? = some (.ref w3) := H11.at in11 rfl
  obtain ⟨T12, X12, e12, st12⟩ := getS2 X10 hx hZ hown (host := "") (Or.inl (hw _ (List.mem_of_getElem? (i := 28) rfl))) Via.refl e10 (S_w0.ext O1.2) (g := (mkF m 26 #[.val (.int lev), .val .null, .val (.ref b1), .val (.int (5 : Int32)), .val (.int (3 : Int32)), .val (.ref w3)] [(.ref w3)])) rfl (hb hby d2_26)
  obtain ⟨cq13, kq13, q13a, q13b, q13c⟩ := isOf hZ e12 (E_w3.ext O1.2)
  obtain ⟨_, _, ⟨T13, L13, k13, n13⟩, -, X13, ⟨Lc13, hQ13, l13, y13, z13⟩, st13⟩ := X12.virtualBack hx (y := (⟨"com/example/demarcate/demarcate/Isolation", "jdbcLevel", "()I"⟩ : MethodName)) (z := (⟨"com/example/demarcate/demarcate/Isolation", "jdbcLevel", "()I"⟩ : MethodName)) hown (mvT hZ (hw _ (List.mem_of_getElem? (i := 29) rfl))) (mvT hZ (hw _ (List.mem_of_getElem? (i := 30) rfl))) (notFace_of_selects (args := #[]) (mvT hZ (hw _ (List.mem_of_getElem? (i := 32) rfl)))) (mvT hZ (hw _ (List.mem_of_getElem? (i := 32) rfl))) (mvT hZ (hw _ (List.mem_of_getElem? (i := 31) rfl))) (by decide) (backOf (W := 0) (jl3 l Z a0 hw [] w0 w1 w2 w3 w4 wV kV wE w3 T1.heap n0 O1 S_w0 S_w1 S_w2 S_w3 S_w4 E_w0 E_w1 E_w2 E_w3 E_w4 F_w1 F_w2 F_w3 F_w4 S_wV E_wV A_wV S_wE E_wE F_wE ne_w1_w0 ne_w2_w0 ne_w3_w0 ne_w4_w0   (E_w3.ext O1.2) (F_w3.ext O1.2)) hZ (hw _ (List.mem_of_getElem? (i := 33) rfl)) (hw _ (List.mem_of_getElem? (i := 6) rfl)) (by decide) (by decide)) q13a q13c (g := (mkF m 34 #[.val (.int lev), .val .null, .val (.ref b1), .val (.int (5 : Int32)), .val (.int (3 : Int32)), .val (.ref w3)] [(.ref w3)])) rfl (by rw [hml]; rfl) (Steps.refl _) (argsL := []) (rest := []) (lenOf pd_0 rfl) rfl (by show 2 * 0 + _ ≤ _; exact Nat.le_of_eq rfl) (hb hby d2_34) (fun _ _ => ⟨rfl, e12, (by decide : 1 + 0 ≤ _), (by decide : 5 + 0 ≤ _)⟩)
  dsimp only [Pt.U, Pt.locs, Pt.cells, Pt.slots] at X13 l13 y13 z13 st13 hQ13
  subst l13 y13 z13
  obtain ⟨rfl, N13q, e13⟩ := hQ13
  have N13 := Fr.app N10 N13q
  obtain ⟨_, _, ⟨T14, L14, k14, n14⟩, -, X14, ⟨Lc14, hQ14, l14, y14, z14⟩, st14⟩ := Jvm.LawKit.callS X13 hx (y := (⟨"java/util/Optional", "ofNullable", "(Ljava/lang/Object;)Ljava/util/Optional;"⟩ : MethodName)) hown (mvT hZ (hw _ (List.mem_of_getElem? (i := 43) rfl))) (mvT hZ (hw _ (List.mem_of_getElem? (i := 44) rfl))) (mvT hZ (hw _ (List.mem_of_getElem? (i := 45) rfl))) (mvT hZ (hw _ (List.mem_of_getElem? (i := 46) rfl))) (by decide) (backOf (W := 0) (onS l Z a0 hw [] w0 w1 w2 w3 w4 wV kV wE w3 T1.heap n0 O1 S_w0 S_w1 S_w2 S_w3 S_w4 E_w0 E_w1 E_w2 E_w3 E_w4 F_w1 F_w2 F_w3 F_w4 S_wV E_wV A_wV S_wE E_wE F_wE ne_w1_w0 ne_w2_w0 ne_w3_w0 ne_w4_w0   ) hZ (hw _ (List.mem_of_getElem? (i := 46) rfl)) (hw _ (List.mem_of_getElem? (i := 45) rfl)) (by decide) (by decide)) (g := (mkF m 54 #[.val (.int lev), .val (.ref w3), .val (.ref b1), .val (.int (5 : Int32)), .val (.int (3 : Int32)), .val (.ref w3)] [(.ref w3)])) rfl (by rw [hml]; rfl) (argsL := [(.ref w3)]) (rest := []) (lenOf pd_3 rfl) rfl (by show 2 * 0 + _ ≤ _; exact Nat.le_of_eq rfl) (hb hby d2_54) (fun _ _ => ⟨rfl, e13, (by decide : 1 + 1 ≤ _), (by decide : 5 + 1 ≤ _)⟩)
  dsimp only [Pt.U, Pt.locs, Pt.cells, Pt.slots] at X14 l14 y14 z14 st14 hQ14
  subst l14 y14 z14
  obtain ⟨b14, rfl, N14q, K14q, fr14_b, y14_0, y14_1⟩ := hQ14
  have N14 := Fr.app N13 N14q
  have ne_b1_b14 : b1 ≠ b14 := Nat.ne_of_lt (Nat.lt_of_lt_of_le y1_0.lt fr14_b)
  have g_b14 : n0 ≤ b14 := Nat.le_trans Z1 fr14_b
  have sz_b14 : h0.size ≤ b14 := Nat.le_trans K1.1 fr14_b
  have Z14 : n0 ≤ T14.heap.size := Nat.le_trans Z1 K14q.1
  have K14 : Keep h0 T14.heap [] := K1.trans K14q all0
  have O14 : Old Z n0 T14.heap := O1.keep K14q all0
  have R15 : ∀ t, Steps p.tables e below (T14.setTop (mkF m 57 #[.val (.int lev), .val (.ref w3), .val (.ref b1), .val (.int (5 : Int32)), .val (.int (3 : Int32)), .val (.ref w3)] [(.ref b14)])) t → Steps p.tables e below (s₁.setTop (entryFrame m #[(.int lev)] 6)) t := by
    intro t k
    refine R0 t ?_
    show Steps p.tables e below (s₁.setTop (mkF m 0 #[.val (.int lev), .unset, .unset, .unset, .unset, .unset] [])) t
    refine XS.aconstNull X0.here hx rfl (hb hby d2_0) ?_
    show Steps p.tables e below (s₁.setTop (mkF m 1 #[.val (.int lev), .unset, .unset, .unset, .unset, .unset] [.null])) t
    refine XS.astoreN X0.here hx rfl (hb hby d2_1) rfl rfl (l' := #[.val (.int lev), .val .null, .unset, .unset, .unset, .unset]) rfl ?_
    show Steps p.tables e below (s₁.setTop (mkF m 2 #[.val (.int lev), .val .null, .unset, .unset, .unset, .unset] [])) t
    refine st1 _ ?_
    show Steps p.tables e below (T1.setTop (mkF m 5 #[.val (.int lev), .val .null, .unset, .unset, .unset, .unset] [(.ref b1)])) t
    refine XS.astoreN X1.here hx rfl (hb hby d2_5) rfl rfl (l' := #[.val (.int lev), .val .null, .val (.ref b1), .unset, .unset, .unset]) rfl ?_
    show Steps p.tables e below (T1.setTop (mkF m 6 #[.val (.int lev), .val .null, .val (.ref b1), .unset, .unset, .unset] [])) t
    refine XS.aloadN X1.here hx rfl (hb hby d2_6) rfl rfl ?_
    show Steps p.tables e below (T1.setTop (mkF m 7 #[.val (.int lev), .val .null, .val (.ref b1), .unset, .unset, .unset] [(.ref b1)])) t
    refine X1.arraylength hx Ar2.1 (State.isArrayOf_alike hZ.alike Ar2.2.1) (g := (mkF m 7 #[.val (.int lev), .val .null, .val (.ref b1), .unset, .unset, .unset] [(.ref b1)])) rfl rfl (hb hby d2_7) _ ?_
    rw [len_of S2 M2]
    show Steps p.tables e below (T1.setTop (mkF m 8 #[.val (.int lev), .val .null, .val (.ref b1), .unset, .unset, .unset] [(.int (5 : Int32))])) t
    refine XS.istoreN X1.here hx rfl (hb hby d2_8) rfl (l' := #[.val (.int lev), .val .null, .val (.ref b1), .val (.int (5 : Int32)), .unset, .unset]) rfl ?_
    show Steps p.tables e below (T1.setTop (mkF m 9 #[.val (.int lev), .val .null, .val (.ref b1), .val (.int (5 : Int32)), .unset, .unset] [])) t
    refine XS.iconst X1.here hx rfl (hb hby d2_9) ?_
    show Steps p.tables e below (T1.setTop (mkF m 10 #[.val (.int lev), .val .null, .val (.ref b1), .val (.int (5 : Int32)), .unset, .unset] [(.int (0 : Int32))])) t
    refine XS.istore X1.here hx rfl (hb hby d2_10) rfl (l' := #[.val (.int lev), .val .null, .val (.ref b1), .val (.int (5 : Int32)), .val (.int (0 : Int32)), .unset]) rfl ?_
    show Steps p.tables e below (T1.setTop (mkF m 12 #[.val (.int lev), .val .null, .val (.ref b1), .val (.int (5 : Int32)), .val (.int (0 : Int32)), .unset] [])) t
    refine XS.iload X1.here hx rfl (hb hby d2_12) rfl ?_
    show Steps p.tables e below (T1.setTop (mkF m 14 #[.val (.int lev), .val .null, .val (.ref b1), .val (.int (5 : Int32)), .val (.int (0 : Int32)), .unset] [(.int (0 : Int32))])) t
    refine XS.iloadN X1.here hx rfl (hb hby d2_14) rfl ?_
    show Steps p.tables e below (T1.setTop (mkF m 15 #[.val (.int lev), .val .null, .val (.ref b1), .val (.int (5 : Int32)), .val (.int (0 : Int32)), .unset] [(.int (5 : Int32)), (.int (0 : Int32))])) t
    refine XS.icmpNo X1.here hx rfl (hb hby d2_15) rfl (tlt ((by decide) : (0 : Int32) < (5 : Int32))).2.1 ?_
    show Steps p.tables e below (T1.setTop (mkF m 18 #[.val (.int lev), .val .null, .val (.ref b1), .val (.int (5 : Int32)), .val (.int (0 : Int32)), .unset] [])) t
    refine XS.aloadN X1.here hx rfl (hb hby d2_18) rfl rfl ?_
    show Steps p.tables e below (T1.setTop (mkF m 19 #[.val (.int lev), .val .null, .val (.ref b1), .val (.int (5 : Int32)), .val (.int (0 : Int32)), .unset] [(.ref b1)])) t
    refine XS.iload X1.here hx rfl (hb hby d2_19) rfl ?_
    show Steps p.tables e below (T1.setTop (mkF m 21 #[.val (.int lev), .val .null, .val (.ref b1), .val (.int (5 : Int32)), .val (.int (0 : Int32)), .unset] [(.int (0 : Int32)), (.ref b1)])) t
    refine X1.aaload hx (j := (0 : Int32)) (v := (.ref w0)) Ar3.1 (State.isArrayOf_alike hZ.alike Ar3.2.1) rfl Ar3.2.2 in3 at3 (g := (mkF m 21 #[.val (.int lev), .val .null, .val (.ref b1), .val (.int (5 : Int32)), .val (.int (0 : Int32)), .unset] [(.int (0 : Int32)), (.ref b1)])) rfl rfl (hb hby d2_21) _ ?_
    show Steps p.tables e below (T1.setTop (mkF m 22 #[.val (.int lev), .val .null, .val (.ref b1), .val (.int (5 : Int32)), .val (.int (0 : Int32)), .unset] [(.ref w0)])) t
    refine XS.astore X1.here hx rfl (hb hby d2_22) rfl rfl (l' := #[.val (.int lev), .val .null, .val (.ref b1), .val (.int (5 : Int32)), .val (.int (0 : Int32)), .val (.ref w0)]) rfl ?_
    show Steps p.tables e below (T1.setTop (mkF m 24 #[.val (.int lev), .val .null, .val (.ref b1), .val (.int (5 : Int32)), .val (.int (0 : Int32)), .val (.ref w0)] [])) t
    refine XS.aload X1.here hx rfl (hb hby d2_24) rfl rfl ?_
    show Steps p.tables e below (T1.setTop (mkF m 26 #[.val (.int lev), .val .null, .val (.ref b1), .val (.int (5 : Int32)), .val (.int (0 : Int32)), .val (.ref w0)] [(.ref w0)])) t
    refine st4 _ ?_
    show Steps p.tables e below (T4.setTop (mkF m 29 #[.val (.int lev), .val .null, .val (.ref b1), .val (.int (5 : Int32)), .val (.int (0 : Int32)), .val (.ref w0)] [(.ref w0), (.ref w0)])) t
    refine Jvm.RoadKit.acmp (g := (mkF m 29 #[.val (.int lev), .val .null, .val (.ref b1), .val (.int (5 : Int32)), .val (.int (0 : Int32)), .val (.ref w0)] [(.ref w0), (.ref w0)])) X4 hx rfl rfl rfl (pc0 := 29) (pc' := 47) (same := true) rfl (hb hby d2_29) rfl (decide_eq_true (congrArg Value.ref rfl)) (by decide) (by decide) ?_
    show Steps p.tables e below (T4.setTop (mkF m 47 #[.val (.int lev), .val .null, .val (.ref b1), .val (.int (5 : Int32)), .val (.int (0 : Int32)), .val (.ref w0)] [])) t
    refine XS.iinc X4.here hx rfl (hb hby d2_47) rfl (l' := #[.val (.int lev), .val .null, .val (.ref b1), .val (.int (5 : Int32)), .val (.int (1 : Int32)), .val (.ref w0)]) rfl ?_
    show Steps p.tables e below (T4.setTop (mkF m 50 #[.val (.int lev), .val .null, .val (.ref b1), .val (.int (5 : Int32)), .val (.int (1 : Int32)), .val (.ref w0)] [])) t
    refine XS.goto X4.here hx rfl (pc0 := 50) (pc' := 12) rfl (hb hby d2_50) (by decide) (by decide) ?_
    show Steps p.tables e below (T4.setTop (mkF m 12 #[.val (.int lev), .val .null, .val (.ref b1), .val (.int (5 : Int32)), .val (.int (1 : Int32)), .val (.ref w0)] [])) t
    refine XS.iload X4.here hx rfl (hb hby d2_12) rfl ?_
    show Steps p.tables e below (T4.setTop (mkF m 14 #[.val (.int lev), .val .null, .val (.ref b1), .val (.int (5 : Int32)), .val (.int (1 : Int32)), .val (.ref w0)] [(.int (1 : Int32))])) t
    refine XS.iloadN X4.here hx rfl (hb hby d2_14) rfl ?_
    show Steps p.tables e below (T4.setTop (mkF m 15 #[.val (.int lev), .val .null, .val (.ref b1), .val (.int (5 : Int32)), .val (.int (1 : Int32)), .val (.ref w0)] [(.int (5 : Int32)), (.int (1 : Int32))])) t
    refine XS.icmpNo X4.here hx rfl (hb hby d2_15) rfl (tlt ((by decide) : (1 : Int32) < (5 : Int32))).2.1 ?_
    show Steps p.tables e below (T4.setTop (mkF m 18 #[.val (.int lev), .val .null, .val (.ref b1), .val (.int (5 : Int32)), .val (.int (1 : Int32)), .val (.ref w0)] [])) t
    refine XS.aloadN X4.here hx rfl (hb hby d2_18) rfl rfl ?_
    show Steps p.tables e below (T4.setTop (mkF m 19 #[.val (.int lev), .val .null, .val (.ref b1), .val (.int (5 : Int32)), .val (.int (1 : Int32)), .val (.ref w0)] [(.ref b1)])) t
    refine XS.iload X4.here hx rfl (hb hby d2_19) rfl ?_
    show Steps p.tables e below (T4.setTop (mkF m 21 #[.val (.int lev), .val .null, .val (.ref b1), .val (.int (5 : Int32)), .val (.int (1 : Int32)), .val (.ref w0)] [(.int (1 : Int32)), (.ref b1)])) t
    refine X4.aaload hx (j := (1 : Int32)) (v := (.ref w1)) (by rw [e4]; exact Ar5.1) (State.isArrayOf_alike hZ.alike Ar5.2.1) rfl Ar5.2.2 in5 at5 (g := (mkF m 21 #[.val (.int lev), .val .null, .val (.ref b1), .val (.int (5 : Int32)), .val (.int (1 : Int32)), .val (.ref w0)] [(.int (1 : Int32)), (.ref b1)])) rfl rfl (hb hby d2_21) _ ?_
    show Steps p.tables e below (T4.setTop (mkF m 22 #[.val (.int lev), .val .null, .val (.ref b1), .val (.int (5 : Int32)), .val (.int (1 : Int32)), .val (.ref w0)] [(.ref w1)])) t
    refine XS.astore X4.here hx rfl (hb hby d2_22) rfl rfl (l' := #[.val (.int lev), .val .null, .val (.ref b1), .val (.int (5 : Int32)), .val (.int (1 : Int32)), .val (.ref w1)]) rfl ?_
    show Steps p.tables e below (T4.setTop (mkF m 24 #[.val (.int lev), .val .null, .val (.ref b1), .val (.int (5 : Int32)), .val (.int (1 : Int32)), .val (.ref w1)] [])) t
    refine XS.aload X4.here hx rfl (hb hby d2_24) rfl rfl ?_
    show Steps p.tables e below (T4.setTop (mkF m 26 #[.val (.int lev), .val .null, .val (.ref b1), .val (.int (5 : Int32)), .val (.int (1 : Int32)), .val (.ref w1)] [(.ref w1)])) t
    refine st6 _ ?_
    show Steps p.tables e below (T6.setTop (mkF m 29 #[.val (.int lev), .val .null, .val (.ref b1), .val (.int (5 : Int32)), .val (.int (1 : Int32)), .val (.ref w1)] [(.ref w0), (.ref w1)])) t
    refine Jvm.RoadKit.acmp (g := (mkF m 29 #[.val (.int lev), .val .null, .val (.ref b1), .val (.int (5 : Int32)), .val (.int (1 : Int32)), .val (.ref w1)] [(.ref w0), (.ref w1)])) X6 hx rfl rfl rfl (pc0 := 29) (pc' := 32) (same := false) rfl (hb hby d2_29) rfl (decide_eq_false (fun q => ne_w1_w0 (Value.ref.inj q))) (by decide) (by decide) ?_
    show Steps p.tables e below (T6.setTop (mkF m 32 #[.val (.int lev), .val .null, .val (.ref b1), .val (.int (5 : Int32)), .val (.int (1 : Int32)), .val (.ref w1)] [])) t
    refine XS.aload X6.here hx rfl (hb hby d2_32) rfl rfl ?_
    show Steps p.tables e below (T6.setTop (mkF m 34 #[.val (.int lev), .val .null, .val (.ref b1), .val (.int (5 : Int32)), .val (.int (1 : Int32)), .val (.ref w1)] [(.ref w1)])) t
    refine st7.trans ?_
    show Steps p.tables e below (T7.setTop (mkF m 37 #[.val (.int lev), .val .null, .val (.ref b1), .val (.int (5 : Int32)), .val (.int (1 : Int32)), .val (.ref w1)] [(.int (1 : Int32))])) t
    refine XS.iloadN X7.here hx rfl (hb hby d2_37) rfl ?_
    show Steps p.tables e below (T7.setTop (mkF m 38 #[.val (.int lev), .val .null, .val (.ref b1), .val (.int (5 : Int32)), .val (.int (1 : Int32)), .val (.ref w1)] [(.int lev), (.int (1 : Int32))])) t
    refine XS.icmpYes X7.here hx rfl (pc0 := 38) (pc' := 47) rfl (hb hby d2_38) rfl (feq (hq0 : ¬ ((1 : Int32) = lev))).2 (by decide) (by decide) ?_
    show Steps p.tables e below (T7.setTop (mkF m 47 #[.val (.int lev), .val .null, .val (.ref b1), .val (.int (5 : Int32)), .val (.int (1 : Int32)), .val (.ref w1)] [])) t
    refine XS.iinc X7.here hx rfl (hb hby d2_47) rfl (l' := #[.val (.int lev), .val .null, .val (.ref b1), .val (.int (5 : Int32)), .val (.int (2 : Int32)), .val (.ref w1)]) rfl ?_
    show Steps p.tables e below (T7.setTop (mkF m 50 #[.val (.int lev), .val .null, .val (.ref b1), .val (.int (5 : Int32)), .val (.int (2 : Int32)), .val (.ref w1)] [])) t
    refine XS.goto X7.here hx rfl (pc0 := 50) (pc' := 12) rfl (hb hby d2_50) (by decide) (by decide) ?_
    show Steps p.tables e below (T7.setTop (mkF m 12 #[.val (.int lev), .val .null, .val (.ref b1), .val (.int (5 : Int32)), .val (.int (2 : Int32)), .val (.ref w1)] [])) t
    refine XS.iload X7.here hx rfl (hb hby d2_12) rfl ?_
    show Steps p.tables e below (T7.setTop (mkF m 14 #[.val (.int lev), .val .null, .val (.ref b1), .val (.int (5 : Int32)), .val (.int (2 : Int32)), .val (.ref w1)] [(.int (2 : Int32))])) t
    refine XS.iloadN X7.here hx rfl (hb hby d2_14) rfl ?_
    show Steps p.tables e below (T7.setTop (mkF m 15 #[.val (.int lev), .val .null, .val (.ref b1), .val (.int (5 : Int32)), .val (.int (2 : Int32)), .val (.ref w1)] [(.int (5 : Int32)), (.int (2 : Int32))])) t
    refine XS.icmpNo X7.here hx rfl (hb hby d2_15) rfl (tlt ((by decide) : (2 : Int32) < (5 : Int32))).2.1 ?_
    show Steps p.tables e below (T7.setTop (mkF m 18 #[.val (.int lev), .val .null, .val (.ref b1), .val (.int (5 : Int32)), .val (.int (2 : Int32)), .val (.ref w1)] [])) t
    refine XS.aloadN X7.here hx rfl (hb hby d2_18) rfl rfl ?_
    show Steps p.tables e below (T7.setTop (mkF m 19 #[.val (.int lev), .val .null, .val (.ref b1), .val (.int (5 : Int32)), .val (.int (2 : Int32)), .val (.ref w1)] [(.ref b1)])) t
    refine XS.iload X7.here hx rfl (hb hby d2_19) rfl ?_
    show Steps p.tables e below (T7.setTop (mkF m 21 #[.val (.int lev), .val .null, .val (.ref b1), .val (.int (5 : Int32)), .val (.int (2 : Int32)), .val (.ref w1)] [(.int (2 : Int32)), (.ref b1)])) t
    refine X7.aaload hx (j := (2 : Int32)) (v := (.ref w2)) (by rw [e7]; exact Ar8.1) (State.isArrayOf_alike hZ.alike Ar8.2.1) rfl Ar8.2.2 in8 at8 (g := (mkF m 21 #[.val (.int lev), .val .null, .val (.ref b1), .val (.int (5 : Int32)), .val (.int (2 : Int32)), .val (.ref w1)] [(.int (2 : Int32)), (.ref b1)])) rfl rfl (hb hby d2_21) _ ?_
    show Steps p.tables e below (T7.setTop (mkF m 22 #[.val (.int lev), .val .null, .val (.ref b1), .val (.int (5 : Int32)), .val (.int (2 : Int32)), .val (.ref w1)] [(.ref w2)])) t
    refine XS.astore X7.here hx rfl (hb hby d2_22) rfl rfl (l' := #[.val (.int lev), .val .null, .val (.ref b1), .val (.int (5 : Int32)), .val (.int (2 : Int32)), .val (.ref w2)]) rfl ?_
    show Steps p.tables e below (T7.setTop (mkF m 24 #[.val (.int lev), .val .null, .val (.ref b1), .val (.int (5 : Int32)), .val (.int (2 : Int32)), .val (.ref w2)] [])) t
    refine XS.aload X7.here hx rfl (hb hby d2_24) rfl rfl ?_
    show Steps p.tables e below (T7.setTop (mkF m 26 #[.val (.int lev), .val .null, .val (.ref b1), .val (.int (5 : Int32)), .val (.int (2 : Int32)), .val (.ref w2)] [(.ref w2)])) t
    refine st9 _ ?_
    show Steps p.tables e below (T9.setTop (mkF m 29 #[.val (.int lev), .val .null, .val (.ref b1), .val (.int (5 : Int32)), .val (.int (2 : Int32)), .val (.ref w2)] [(.ref w0), (.ref w2)])) t
    refine Jvm.RoadKit.acmp (g := (mkF m 29 #[.val (.int lev), .val .null, .val (.ref b1), .val (.int (5 : Int32)), .val (.int (2 : Int32)), .val (.ref w2)] [(.ref w0), (.ref w2)])) X9 hx rfl rfl rfl (pc0 := 29) (pc' := 32) (same := false) rfl (hb hby d2_29) rfl (decide_eq_false (fun q => ne_w2_w0 (Value.ref.inj q))) (by decide) (by decide) ?_
    show Steps p.tables e below (T9.setTop (mkF m 32 #[.val (.int lev), .val .null, .val (.ref b1), .val (.int (5 : Int32)), .val (.int (2 : Int32)), .val (.ref w2)] [])) t
    refine XS.aload X9.here hx rfl (hb hby d2_32) rfl rfl ?_
    show Steps p.tables e below (T9.setTop (mkF m 34 #[.val (.int lev), .val .null, .val (.ref b1), .val (.int (5 : Int32)), .val (.int (2 : Int32)), .val (.ref w2)] [(.ref w2)])) t
    refine st10.trans ?_
    show Steps p.tables e below (T10.setTop (mkF m 37 #[.val (.int lev), .val .null, .val (.ref b1), .val (.int (5 : Int32)), .val (.int (2 : Int32)), .val (.ref w2)] [(.int (2 : Int32))])) t
    refine XS.iloadN X10.here hx rfl (hb hby d2_37) rfl ?_
    show Steps p.tables e below (T10.setTop (mkF m 38 #[.val (.int lev), .val .null, .val (.ref b1), .val (.int (5 : Int32)), .val (.int (2 : Int32)), .val (.ref w2)] [(.int lev), (.int (2 : Int32))])) t
    refine XS.icmpYes X10.here hx rfl (pc0 := 38) (pc' := 47) rfl (hb hby d2_38) rfl (feq (hq1 : ¬ ((2 : Int32) = lev))).2 (by decide) (by decide) ?_
    show Steps p.tables e below (T10.setTop (mkF m 47 #[.val (.int lev), .val .null, .val (.ref b1), .val (.int (5 : Int32)), .val (.int (2 : Int32)), .val (.ref w2)] [])) t
    refine XS.iinc X10.here hx rfl (hb hby d2_47) rfl (l' := #[.val (.int lev), .val .null, .val (.ref b1), .val (.int (5 : Int32)), .val (.int (3 : Int32)), .val (.ref w2)]) rfl ?_
    show Steps p.tables e below (T10.setTop (mkF m 50 #[.val (.int lev), .val .null, .val (.ref b1), .val (.int (5 : Int32)), .val (.int (3 : Int32)), .val (.ref w2)] [])) t
    refine XS.goto X10.here hx rfl (pc0 := 50) (pc' := 12) rfl (hb hby d2_50) (by decide) (by decide) ?_
    show Steps p.tables e below (T10.setTop (mkF m 12 #[.val (.int lev), .val .null, .val (.ref b1), .val (.int (5 : Int32)), .val (.int (3 : Int32)), .val (.ref w2)] [])) t
    refine XS.iload X10.here hx rfl (hb hby d2_12) rfl ?_
    show Steps p.tables e below (T10.setTop (mkF m 14 #[.val (.int lev), .val .null, .val (.ref b1), .val (.int (5 : Int32)), .val (.int (3 : Int32)), .val (.ref w2)] [(.int (3 : Int32))])) t
    refine XS.iloadN X10.here hx rfl (hb hby d2_14) rfl ?_
    show Steps p.tables e below (T10.setTop (mkF m 15 #[.val (.int lev), .val .null, .val (.ref b1), .val (.int (5 : Int32)), .val (.int (3 : Int32)), .val (.ref w2)] [(.int (5 : Int32)), (.int (3 : Int32))])) t
    refine XS.icmpNo X10.here hx rfl (hb hby d2_15) rfl (tlt ((by decide) : (3 : Int32) < (5 : Int32))).2.1 ?_
    show Steps p.tables e below (T10.setTop (mkF m 18 #[.val (.int lev), .val .null, .val (.ref b1), .val (.int (5 : Int32)), .val (.int (3 : Int32)), .val (.ref w2)] [])) t
    refine XS.aloadN X10.here hx rfl (hb hby d2_18) rfl rfl ?_
    show Steps p.tables e below (T10.setTop (mkF m 19 #[.val (.int lev), .val .null, .val (.ref b1), .val (.int (5 : Int32)), .val (.int (3 : Int32)), .val (.ref w2)] [(.ref b1)])) t
    refine XS.iload X10.here hx rfl (hb hby d2_19) rfl ?_
    show Steps p.tables e below (T10.setTop (mkF m 21 #[.val (.int lev), .val .null, .val (.ref b1), .val (.int (5 : Int32)), .val (.int (3 : Int32)), .val (.ref w2)] [(.int (3 : Int32)), (.ref b1)])) t
    refine X10.aaload hx (j := (3 : Int32)) (v := (.ref w3)) (by rw [e10]; exact Ar11.1) (State.isArrayOf_alike hZ.alike Ar11.2.1) rfl Ar11.2.2 in11 at11 (g := (mkF m 21 #[.val (.int lev), .val .null, .val (.ref b1), .val (.int (5 : Int32)), .val (.int (3 : Int32)), .val (.ref w2)] [(.int (3 : Int32)), (.ref b1)])) rfl rfl (hb hby d2_21) _ ?_
    show Steps p.tables e below (T10.setTop (mkF m 22 #[.val (.int lev), .val .null, .val (.ref b1), .val (.int (5 : Int32)), .val (.int (3 : Int32)), .val (.ref w2)] [(.ref w3)])) t
    refine XS.astore X10.here hx rfl (hb hby d2_22) rfl rfl (l' := #[.val (.int lev), .val .null, .val (.ref b1), .val (.int (5 : Int32)), .val (.int (3 : Int32)), .val (.ref w3)]) rfl ?_
    show Steps p.tables e below (T10.setTop (mkF m 24 #[.val (.int lev), .val .null, .val (.ref b1), .val (.int (5 : Int32)), .val (.int (3 : Int32)), .val (.ref w3)] [])) t
    refine XS.aload X10.here hx rfl (hb hby d2_24) rfl rfl ?_
    show Steps p.tables e below (T10.setTop (mkF m 26 #[.val (.int lev), .val .null, .val (.ref b1), .val (.int (5 : Int32)), .val (.int (3 : Int32)), .val (.ref w3)] [(.ref w3)])) t
    refine st12 _ ?_
    show Steps p.tables e below (T12.setTop (mkF m 29 #[.val (.int lev), .val .null, .val (.ref b1), .val (.int (5 : Int32)), .val (.int (3 : Int32)), .val (.ref w3)] [(.ref w0), (.ref w3)])) t
    refine Jvm.RoadKit.acmp (g := (mkF m 29 #[.val (.int lev), .val .null, .val (.ref b1), .val (.int (5 : Int32)), .val (.int (3 : Int32)), .val (.ref w3)] [(.ref w0), (.ref w3)])) X12 hx rfl rfl rfl (pc0 := 29) (pc' := 32) (same := false) rfl (hb hby d2_29) rfl (decide_eq_false (fun q => ne_w3_w0 (Value.ref.inj q))) (by decide) (by decide) ?_
    show Steps p.tables e below (T12.setTop (mkF m 32 #[.val (.int lev), .val .null, .val (.ref b1), .val (.int (5 : Int32)), .val (.int (3 : Int32)), .val (.ref w3)] [])) t
    refine XS.aload X12.here hx rfl (hb hby d2_32) rfl rfl ?_
    show Steps p.tables e below (T12.setTop (mkF m 34 #[.val (.int lev), .val .null, .val (.ref b1), .val (.int (5 : Int32)), .val (.int (3 : Int32)), .val (.ref w3)] [(.ref w3)])) t
    refine st13.trans ?_
    show Steps p.tables e below (T13.setTop (mkF m 37 #[.val (.int lev), .val .null, .val (.ref b1), .val (.int (5 : Int32)), .val (.int (3 : Int32)), .val (.ref w3)] [(.int (4 : Int32))])) t
    refine XS.iloadN X13.here hx rfl (hb hby d2_37) rfl ?_
    show Steps p.tables e below (T13.setTop (mkF m 38 #[.val (.int lev), .val .null, .val (.ref b1), .val (.int (5 : Int32)), .val (.int (3 : Int32)), .val (.ref w3)] [(.int lev), (.int (4 : Int32))])) t
    refine XS.icmpNo X13.here hx rfl (hb hby d2_38) rfl (teq (hq2 : (4 : Int32) = lev)).2 ?_
    show Steps p.tables e below (T13.setTop (mkF m 41 #[.val (.int lev), .val .null, .val (.ref b1), .val (.int (5 : Int32)), .val (.int (3 : Int32)), .val (.ref w3)] [])) t
    refine XS.aload X13.here hx rfl (hb hby d2_41) rfl rfl ?_
    show Steps p.tables e below (T13.setTop (mkF m 43 #[.val (.int lev), .val .null, .val (.ref b1), .val (.int (5 : Int32)), .val (.int (3 : Int32)), .val (.ref w3)] [(.ref w3)])) t
    refine XS.astoreN X13.here hx rfl (hb hby d2_43) rfl rfl (l' := #[.val (.int lev), .val (.ref w3), .val (.ref b1), .val (.int (5 : Int32)), .val (.int (3 : Int32)), .val (.ref w3)]) rfl ?_
    show Steps p.tables e below (T13.setTop (mkF m 44 #[.val (.int lev), .val (.ref w3), .val (.ref b1), .val (.int (5 : Int32)), .val (.int (3 : Int32)), .val (.ref w3)] [])) t
    refine XS.goto X13.here hx rfl (pc0 := 44) (pc' := 53) rfl (hb hby d2_44) (by decide) (by decide) ?_
    show Steps p.tables e below (T13.setTop (mkF m 53 #[.val (.int lev), .val (.ref w3), .val (.ref b1), .val (.int (5 : Int32)), .val (.int (3 : Int32)), .val (.ref w3)] [])) t
    refine XS.aloadN X13.here hx rfl (hb hby d2_53) rfl rfl ?_
    show Steps p.tables e below (T13.setTop (mkF m 54 #[.val (.int lev), .val (.ref w3), .val (.ref b1), .val (.int (5 : Int32)), .val (.int (3 : Int32)), .val (.ref w3)] [(.ref w3)])) t
    refine st14 _ ?_
    exact k
  obtain ⟨fs, hr, hrun, hended, hW, hsame⟩ := X14.leave (v := some (.ref b14)) (fun h => by rw [Bd.returns] at h; cases h)
  refine ⟨_, _, R15 _ ?_, hrun, hended, _, _, rfl, ?_, ⟨_, rfl⟩, hW, hsame.mono (by decide) (by decide)⟩
  · show Steps p.tables e below (T14.setTop (mkF m 57 #[.val (.int lev), .val (.ref w3), .val (.ref b1), .val (.int (5 : Int32)), .val (.int (3 : Int32)), .val (.ref w3)] [(.ref b14)])) _
    exact retOut X14 hx Bd.returns rfl (Or.inr (Or.inr (Or.inr (Or.inr ⟨rfl, rfl, rfl⟩)))) (hb hby d2_57) hr
  · show Q_oj2 Z w0 w1 w2 w3 w4 wV kV wE lev h0 n0 _ T14.heap _
    exact ⟨b14, rfl, N14, K14, y14_0, y14_1⟩
theorem d1_27 : decode method_2_code 27 = .ok (.iload_n 0, 1) := by decide +kernel
theorem d1_28 : decode method_2_code 28 = .ok (.bipush 8, 2) := by decide +kernel
theorem d1_30 : decode method_2_code 30 = .ok (.if_icmp .ne 7, 3) := by decide +kernel
theorem d1_33 : decode method_2_code 33 = .ok (.getstatic 19, 3) := by decide +kernel
theorem d1_36 : decode method_2_code 36 = .ok (.areturn, 1) := by decide +kernel
theorem ef_exp3 (m : MethodId) (lev : Int32) : entryFrame m #[(.int lev)] 1 = mkF m 0 #[.val (.int lev)] [] := by first | (simp [entryFrame, mkF, argsToLocals, Value.category]; done) | rfl
def Q_exp3 (Z : State) (w0 : Addr) (w1 : Addr) (w2 : Addr) (w3 : Addr) (w4 : Addr) (wV : Addr) (kV : ClassId) (wE : Addr) (lev : Int32) (h0 : Heap) (n0 : Nat) (vv_ : Option Value) (hh_ : Heap) (LL_ : List Loc) : Prop := vv_ = some (.ref w4) ∧ (Fr n0 LL_) ∧ (hh_ = h0)
set_option maxRecDepth 65536 in
set_option maxHeartbeats 40000000 in
theorem exp3 (l : Launch) (Z : State) (a0 : Array Value) (hw : ∀ d ∈ tables_1, d.before a0 Z = true) (ws : List Jvm.Cond) (w0 : Addr) (w1 : Addr) (w2 : Addr) (w3 : Addr) (w4 : Addr) (wV : Addr) (kV : ClassId) (wE : Addr) (lev : Int32) (h0 : Heap) (n0 : Nat) (O0 : Old Z n0 h0) (S_w0 : Sta Z Z.heap "com/example/demarcate/demarcate/Isolation" "DEFAULT" "Lcom/example/demarcate/demarcate/Isolation;" (.ref w0)) (S_w1 : Sta Z Z.heap "com/example/demarcate/demarcate/Isolation" "READ_UNCOMMITTED" "Lcom/example/demarcate/demarcate/Isolation;" (.ref w1)) (S_w2 : Sta Z Z.heap "com/example/demarcate/demarcate/Isolation" "READ_COMMITTED" "Lcom/example/demarcate/demarcate/Isolation;" (.ref w2)) (S_w3 : Sta Z Z.heap "com/example/demarcate/demarcate/Isolation" "REPEATABLE_READ" "Lcom/example/demarcate/demarcate/Isolation;" (.ref w3)) (S_w4 : Sta Z Z.heap "com/example/demarcate/demarcate/Isolation" "SERIALIZABLE" "Lcom/example/demarcate/demarcate/Isolation;" (.ref w4)) (E_w0 : Exa Z Z.heap w0 "com/example/demarcate/demarcate/Isolation") (E_w1 : Exa Z Z.heap w1 "com/example/demarcate/demarcate/Isolation") (E_w2 : Exa Z Z.heap w2 "com/example/demarcate/demarcate/Isolation") (E_w3 : Exa Z Z.heap w3 "com/example/demarcate/demarcate/Isolation") (E_w4 : Exa Z Z.heap w4 "com/example/demarcate/demarcate/Isolation") (F_w1 : Fld Z Z.heap w1 "java/lang/Enum" "ordinal" "I" (.int (1 : Int32))) (F_w2 : Fld Z Z.heap w2 "java/lang/Enum" "ordinal" "I" (.int (2 : Int32))) (F_w3 : Fld Z Z.heap w3 "java/lang/Enum" "ordinal" "I" (.int (3 : Int32))) (F_w4 : Fld Z Z.heap w4 "java/lang/Enum" "ordinal" "I" (.int (4 : Int32))) (S_wV : Sta Z Z.heap "com/example/demarcate/demarcate/Isolation" "$VALUES" "[Lcom/example/demarcate/demarcate/Isolation;" (.ref wV)) (E_wV : Exa Z Z.heap wV "[Lcom/example/demarcate/demarcate/Isolation;") (A_wV : Arv Z Z.heap wV kV (.object "com/example/demarcate/demarcate/Isolation") (5 : Int32) [(.ref w0), (.ref w1), (.ref w2), (.ref w3), (.ref w4)] .null) (S_wE : Sta Z Z.heap "java/util/Optional" "EMPTY" "Ljava/util/Optional;" (.ref wE)) (E_wE : Exa Z Z.heap wE "java/util/Optional") (F_wE : Fld Z Z.heap wE "java/util/Optional" "value" "Ljava/lang/Object;" .null) (ne_w1_w0 : w1 ≠ w0) (ne_w2_w0 : w2 ≠ w0) (ne_w3_w0 : w3 ≠ w0) (ne_w4_w0 : w4 ≠ w0) (hq0 : ¬ (lev = (1 : Int32))) (hq1 : ¬ (lev = (2 : Int32))) (hq2 : ¬ (lev = (4 : Int32))) (hq3 : lev = (8 : Int32)) :
    MetFree l (⟨"com/example/demarcate/demarcate/IsolationOfJdbcLevelPinLaw", "expected", "(I)Lcom/example/demarcate/demarcate/Isolation;"⟩ : MethodName) (head1 (Jvm.Cond.code (⟨"com/example/demarcate/demarcate/IsolationOfJdbcLevelPinLaw", "expected", "(I)Lcom/example/demarcate/demarcate/Isolation;"⟩ : MethodName) method_2_code 1 (some (.object "com/example/demarcate/demarcate/Isolation")) :: ws) ({ frames := 0, cells := 0, slots := 0, locals := 0 } : Room)) (fun aa_ U_ => aa_ = #[(.int lev)] ∧ Z.Warmed39 U_.vm ∧ U_.heap = h0) (fun _ _ _ _ _ => True) (fun _ U_ oo_ V_ => ∃ vv_ LL_, oo_ = .returned vv_ ∧ Q_exp3 Z w0 w1 w2 w3 w4 wV kV wE lev h0 n0 vv_ V_.heap LL_ ∧ FrameEnd U_ oo_ V_ LL_ ({ frames := 0, cells := 0, slots := 0, locals := 0 } : Room).cells ({ frames := 0, cells := 0, slots := 0, locals := 0 } : Room).slots) := by
  refine MetFree.of_bodySF (plainFor_of_name pn_com_example_demarcate_demarcate_IsolationOfJdbcLevelPinLaw) hisR ?_
  intro p e s m args below meth c s₁ Bd hml0 hP hK
  obtain ⟨rfl, hZ, hh⟩ := hP
  have hx := Bd.exec
  have hby := Bd.bytes
  have hml : c.maxLocals = 1 := hml0
  have hown : s.vm.findClass "com/example/demarcate/demarcate/IsolationOfJdbcLevelPinLaw" = some m.cls := findClass_of_methodNamed Bd.named
  have hnm := (name_of_methodNamed Bd.named Bd.method).1
  have X0 : Stand p l e ({ frames := 0, cells := 0, slots := 0, locals := 0 } : Room) s m #[(.int lev)] below meth c s₁ [] 0 0 := Stand.of_body Bd
  have e0 : s₁.heap = h0 := by rw [← hh, Bd.state]; rfl
  have N0 := Fr.nil n0
  have Z0 : n0 ≤ h0.size := O0.1 ▸ O0.2.1
  have hk0 := Nat.zero_le h0.size
  have K0 : Keep h0 h0 [] := Keep.refl _ _
  have R0 : ∀ t, Steps p.tables e below (s₁.setTop (mkF m 0 #[.val (.int lev)] [])) t → Steps p.tables e below (s₁.setTop (entryFrame m #[(.int lev)] 1)) t := fun t k => castTop (ef_exp3 m lev) k
  obtain ⟨T1, X1, e1, st1⟩ := getS2 X0 hx hZ hown (host := "") (Or.inl (hw _ (List.mem_of_getElem? (i := 55) rfl))) Via.refl e0 (S_w4.ext O0.2) (g := (mkF m 33 #[.val (.int lev)] [])) rfl (hb hby d1_33)
  have R2 : ∀ t, Steps p.tables e below (T1.setTop (mkF m 36 #[.val (.int lev)] [(.ref w4)])) t → Steps p.tables e below (s₁.setTop (entryFrame m #[(.int lev)] 1)) t := by
    intro t k
    refine R0 t ?_
    show Steps p.tables e below (s₁.setTop (mkF m 0 #[.val (.int lev)] [])) t
    refine XS.iloadN X0.here hx rfl (hb hby d1_0) rfl ?_
    show Steps p.tables e below (s₁.setTop (mkF m 1 #[.val (.int lev)] [(.int lev)])) t
    refine XS.iconst X0.here hx rfl (hb hby d1_1) ?_
    show Steps p.tables e below (s₁.setTop (mkF m 2 #[.val (.int lev)] [(.int (1 : Int32)), (.int lev)])) t
    refine XS.icmpYes X0.here hx rfl (pc0 := 2) (pc' := 9) rfl (hb hby d1_2) rfl (feq (hq0 : ¬ (lev = (1 : Int32)))).2 (by decide) (by decide) ?_
    show Steps p.tables e below (s₁.setTop (mkF m 9 #[.val (.int lev)] [])) t
    refine XS.iloadN X0.here hx rfl (hb hby d1_9) rfl ?_
    show Steps p.tables e below (s₁.setTop (mkF m 10 #[.val (.int lev)] [(.int lev)])) t
    refine XS.iconst X0.here hx rfl (hb hby d1_10) ?_
    show Steps p.tables e below (s₁.setTop (mkF m 11 #[.val (.int lev)] [(.int (2 : Int32)), (.int lev)])) t
    refine XS.icmpYes X0.here hx rfl (pc0 := 11) (pc' := 18) rfl (hb hby d1_11) rfl (feq (hq1 : ¬ (lev = (2 : Int32)))).2 (by decide) (by decide) ?_
    show Steps p.tables e below (s₁.setTop (mkF m 18 #[.val (.int lev)] [])) t
    refine XS.iloadN X0.here hx rfl (hb hby d1_18) rfl ?_
    show Steps p.tables e below (s₁.setTop (mkF m 19 #[.val (.int lev)] [(.int lev)])) t
    refine XS.iconst X0.here hx rfl (hb hby d1_19) ?_
    show Steps p.tables e below (s₁.setTop (mkF m 20 #[.val (.int lev)] [(.int (4 : Int32)), (.int lev)])) t
    refine XS.icmpYes X0.here hx rfl (pc0 := 20) (pc' := 27) rfl (hb hby d1_20) rfl (feq (hq2 : ¬ (lev = (4 : Int32)))).2 (by decide) (by decide) ?_
    show Steps p.tables e below (s₁.setTop (mkF m 27 #[.val (.int lev)] [])) t
    refine XS.iloadN X0.here hx rfl (hb hby d1_27) rfl ?_
    show Steps p.tables e below (s₁.setTop (mkF m 28 #[.val (.int lev)] [(.int lev)])) t
    refine XS.bipush X0.here hx rfl (hb hby d1_28) ?_
    show Steps p.tables e below (s₁.setTop (mkF m 30 #[.val (.int lev)] [(.int (8 : Int32)), (.int lev)])) t
    refine XS.icmpNo X0.here hx rfl (hb hby d1_30) rfl (teq (hq3 : lev = (8 : Int32))).2 ?_
    show Steps p.tables e below (s₁.setTop (mkF m 33 #[.val (.int lev)] [])) t
    refine st1 _ ?_
    exact k
  obtain ⟨fs, hr, hrun, hended, hW, hsame⟩ := X1.leave (v := some (.ref w4)) (fun h => by rw [Bd.returns] at h; cases h)
  refine ⟨_, _, R2 _ ?_, hrun, hended, _, _, rfl, ?_, ⟨_, rfl⟩, hW, hsame.mono (by decide) (by decide)⟩
  · show Steps p.tables e below (T1.setTop (mkF m 36 #[.val (.int lev)] [(.ref w4)])) _
    exact retOut X1 hx Bd.returns rfl (Or.inr (Or.inr (Or.inr (Or.inr ⟨rfl, rfl, rfl⟩)))) (hb hby d1_36) hr
  · show Q_exp3 Z w0 w1 w2 w3 w4 wV kV wE lev h0 n0 _ T1.heap _
    rw [e1]
    exact ⟨rfl, N0, rfl⟩
theorem ef_oj3 (m : MethodId) (lev : Int32) : entryFrame m #[(.int lev)] 6 = mkF m 0 #[.val (.int lev), .unset, .unset, .unset, .unset, .unset] [] := by first | (simp [entryFrame, mkF, argsToLocals, Value.category]; done) | rfl
def Q_oj3 (Z : State) (w0 : Addr) (w1 : Addr) (w2 : Addr) (w3 : Addr) (w4 : Addr) (wV : Addr) (kV : ClassId) (wE : Addr) (lev : Int32) (h0 : Heap) (n0 : Nat) (vv_ : Option Value) (hh_ : Heap) (LL_ : List Loc) : Prop := ∃ (b : Addr), vv_ = some (.ref b) ∧ (Fr n0 LL_) ∧ (Keep h0 hh_ []) ∧ (Exa Z hh_ b "java/util/Optional") ∧ (Fld Z hh_ b "java/util/Optional" "value" "Ljava/lang/Object;" (.ref w4))
set_option maxRecDepth 65536 in
set_option maxHeartbeats 40000000 in
theorem oj3 (l : Launch) (Z : State) (a0 : Array Value) (hw : ∀ d ∈ tables_1, d.before a0 Z = true) (ws : List Jvm.Cond) (w0 : Addr) (w1 : Addr) (w2 : Addr) (w3 : Addr) (w4 : Addr) (wV : Addr) (kV : ClassId) (wE : Addr) (lev : Int32) (h0 : Heap) (n0 : Nat) (O0 : Old Z n0 h0) (S_w0 : Sta Z Z.heap "com/example/demarcate/demarcate/Isolation" "DEFAULT" "Lcom/example/demarcate/demarcate/Isolation;" (.ref w0)) (S_w1 : Sta Z Z.heap "com/example/demarcate/demarcate/Isolation" "READ_UNCOMMITTED" "Lcom/example/demarcate/demarcate/Isolation;" (.ref w1)) (S_w2 : Sta Z Z.heap "com/example/demarcate/demarcate/Isolation" "READ_COMMITTED" "Lcom/example/demarcate/demarcate/Isolation;" (.ref w2)) (S_w3 : Sta Z Z.heap "com/example/demarcate/demarcate/Isolation" "REPEATABLE_READ" "Lcom/example/demarcate/demarcate/Isolation;" (.ref w3)) (S_w4 : Sta Z Z.heap "com/example/demarcate/demarcate/Isolation" "SERIALIZABLE" "Lcom/example/demarcate/demarcate/Isolation;" (.ref w4)) (E_w0 : Exa Z Z.heap w0 "com/example/demarcate/demarcate/Isolation") (E_w1 : Exa Z Z.heap w1 "com/example/demarcate/demarcate/Isolation") (E_w2 : Exa Z Z.heap w2 "com/example/demarcate/demarcate/Isolation") (E_w3 : Exa Z Z.heap w3 "com/example/demarcate/demarcate/Isolation") (E_w4 : Exa Z Z.heap w4 "com/example/demarcate/demarcate/Isolation") (F_w1 : Fld Z Z.heap w1 "java/lang/Enum" "ordinal" "I" (.int (1 : Int32))) (F_w2 : Fld Z Z.heap w2 "java/lang/Enum" "ordinal" "I" (.int (2 : Int32))) (F_w3 : Fld Z Z.heap w3 "java/lang/Enum" "ordinal" "I" (.int (3 : Int32))) (F_w4 : Fld Z Z.heap w4 "java/lang/Enum" "ordinal" "I" (.int (4 : Int32))) (S_wV : Sta Z Z.heap "com/example/demarcate/demarcate/Isolation" "$VALUES" "[Lcom/example/demarcate/demarcate/Isolation;" (.ref wV)) (E_wV : Exa Z Z.heap wV "[Lcom/example/demarcate/demarcate/Isolation;") (A_wV : Arv Z Z.heap wV kV (.object "com/example/demarcate/demarcate/Isolation") (5 : Int32) [(.ref w0), (.ref w1), (.ref w2), (.ref w3), (.ref w4)] .null) (S_wE : Sta Z Z.heap "java/util/Optional" "EMPTY" "Ljava/util/Optional;" (.ref wE)) (E_wE : Exa Z Z.heap wE "java/util/Optional") (F_wE : Fld Z Z.heap wE "java/util/Optional" "value" "Ljava/lang/Object;" .null) (ne_w1_w0 : w1 ≠ w0) (ne_w2_w0 : w2 ≠ w0) (ne_w3_w0 : w3 ≠ w0) (ne_w4_w0 : w4 ≠ w0) (hq0 : ¬ ((1 : Int32) = lev)) (hq1 : ¬ ((2 : Int32) = lev)) (hq2 : ¬ ((4 : Int32) = lev)) (hq3 : (8 : Int32) = lev) :
    MetFree l (⟨"com/example/demarcate/demarcate/Isolation", "ofJdbcLevel", "(I)Ljava/util/Optional;"⟩ : MethodName) (head1 (Jvm.Cond.code (⟨"com/example/demarcate/demarcate/Isolation", "ofJdbcLevel", "(I)Ljava/util/Optional;"⟩ : MethodName) prog_11_method_5_code 6 (some (.object "java/util/Optional")) :: ws) ({ frames := 3, cells := 2, slots := 6, locals := 38 } : Room)) (fun aa_ U_ => aa_ = #[(.int lev)] ∧ Z.Warmed39 U_.vm ∧ U_.heap = h0) (fun _ _ _ _ _ => True) (fun _ U_ oo_ V_ => ∃ vv_ LL_, oo_ = .returned vv_ ∧ Q_oj3 Z w0 w1 w2 w3 w4 wV kV wE lev h0 n0 vv_ V_.heap LL_ ∧ FrameEnd U_ oo_ V_ LL_ ({ frames := 3, cells := 2, slots := 6, locals := 38 } : Room).cells ({ frames := 3, cells := 2, slots := 6, locals := 38 } : Room).slots) := by
  refine MetFree.of_bodySF (plainFor_of_name pn_com_example_demarcate_demarcate_Isolation) hisR ?_
  intro p e s m args below meth c s₁ Bd hml0 hP hK
  obtain ⟨rfl, hZ, hh⟩ := hP
  have hx := Bd.exec
  have hby := Bd.bytes
  have hml : c.maxLocals = 6 := hml0
  have hown : s.vm.findClass "com/example/demarcate/demarcate/Isolation" = some m.cls := findClass_of_methodNamed Bd.named
  have hnm := (name_of_methodNamed Bd.named Bd.method).1
  have X0 : Stand p l e ({ frames := 3, cells := 2, slots := 6, locals := 38 } : Room) s m #[(.int lev)] below meth c s₁ [] 0 0 := Stand.of_body Bd
  have e0 : s₁.heap = h0 := by rw [← hh, Bd.state]; rfl
  have N0 := Fr.nil n0
  have Z0 : n0 ≤ h0.size := O0.1 ▸ O0.2.1
  have hk0 := Nat.zero_le h0.size
  have K0 : Keep h0 h0 [] := Keep.refl _ _
  have R0 : ∀ t, Steps p.tables e below (s₁.setTop (mkF m 0 #[.val (.int lev), .unset, .unset, .unset, .unset, .unset] [])) t → Steps p.tables e below (s₁.setTop (entryFrame m #[(.int lev)] 6)) t := fun t k => castTop (ef_oj3 m lev) k
  obtain ⟨_, _, ⟨T1, L1, k1, n1⟩, -, X1, ⟨Lc1, hQ1, l1, y1, z1⟩, st1⟩ := Jvm.LawKit.callS X0 hx (y := (⟨"com/example/demarcate/demarcate/Isolation", "values", "()[Lcom/example/demarcate/demarcate/Isolation;"⟩ : MethodName)) hown (mvT hZ (hw _ (List.mem_of_getElem? (i := 8) rfl))) (mvT hZ (hw _ (List.mem_of_getElem? (i := 9) rfl))) (mvT hZ (hw _ (List.mem_of_getElem? (i := 6) rfl))) (mvT hZ (hw _ (List.mem_of_getElem? (i := 10) rfl))) (by decide) (backOf (W := 0) (values l Z a0 hw [] w0 w1 w2 w3 w4 wV kV wE  h0 n0 O0 S_w0 S_w1 S_w2 S_w3 S_w4 E_w0 E_w1 E_w2 E_w3 E_w4 F_w1 F_w2 F_w3 F_w4 S_wV E_wV A_wV S_wE E_wE F_wE ne_w1_w0 ne_w2_w0 ne_w3_w0 ne_w4_w0   ) hZ (hw _ (List.mem_of_getElem? (i := 10) rfl)) (hw _ (List.mem_of_getElem? (i := 6) rfl)) (by decide) (by decide)) (g := (mkF m 2 #[.val (.int lev), .val .null, .unset, .unset, .unset, .unset] [])) rfl (by rw [hml]; rfl) (argsL := []) (rest := []) (lenOf pd_2 rfl) rfl (by show 2 * 0 + _ ≤ _; exact Nat.le_of_eq rfl) (hb hby d2_2) (fun _ _ => ⟨rfl, e0, (by decide : 0 + 1 ≤ _), (by decide : 0 + 5 ≤ _)⟩)
  dsimp only [Pt.U, Pt.locs, Pt.cells, Pt.slots] at X1 l1 y1 z1 st1 hQ1
  subst l1 y1 z1
  obtain ⟨b1, rfl, N1q, K1q, fr1_b, y1_0, y1_1⟩ := hQ1
  have N1 := Fr.app N0 N1q
  have g_b1 : n0 ≤ b1 := Nat.le_trans Z0 fr1_b
  have sz_b1 : h0.size ≤ b1 := Nat.le_trans K0.1 fr1_b
  have Z1 : n0 ≤ T1.heap.size := Nat.le_trans Z0 K1q.1
  have K1 : Keep h0 T1.heap [] := K0.trans K1q all0
  have O1 : Old Z n0 T1.heap := O0.keep K1q all0
  obtain ⟨cl2, Ar2, -, S2, M2, -, -⟩ := id y1_1
  obtain ⟨cl3, Ar3, q3, S3, M3, H3, G3⟩ := id y1_1
  have in3 : ¬ ((0 : Int32) < 0 ∨ cl3.slots.size ≤ ((0 : Int32)).toNatClampNeg) := inb_of S3 ⟨by decide, by decide⟩
  have at3 : cl3.slots[((0 : Int32)).toNatClampNeg]? = some (.ref w0) := H3.at in3 rfl
  obtain ⟨T4, X4, e4, st4⟩ := getS2 X1 hx hZ hown (host := "") (Or.inl (hw _ (List.mem_of_getElem? (i := 28) rfl))) Via.refl rfl (S_w0.ext O1.2) (g := (mkF m 26 #[.val (.int lev), .val .null, .val (.ref b1), .val (.int (5 : Int32)), .val (.int (0 : Int32)), .val (.ref w0)] [(.ref w0)])) rfl (hb hby d2_26)
  obtain ⟨cl5, Ar5, q5, S5, M5, H5, G5⟩ := id y1_1
  have in5 : ¬ ((1 : Int32) < 0 ∨ cl5.slots.size ≤ ((1 : Int32)).toNatClampNeg) := inb_of S5 ⟨by decide, by decide⟩
  have at5 : cl5.slots[((1 : Int32)).toNatClampNeg]? = some (.ref w1) := H5.at in5 rfl
  obtain ⟨T6, X6, e6, st6⟩ := getS2 X4 hx hZ hown (host := "") (Or.inl (hw _ (List.mem_of_getElem? (i := 28) rfl))) Via.refl e4 (S_w0.ext O1.2) (g := (mkF m 26 #[.val (.int lev), .val .null, .val (.ref b1), .val (.int (5 : Int32)), .val (.int (1 : Int32)), .val (.ref w1)] [(.ref w1)])) rfl (hb hby d2_26)
  obtain ⟨cq7, kq7, q7a, q7b, q7c⟩ := isOf hZ e6 (E_w1.ext O1.2)
  obtain ⟨_, _, ⟨T7, L7, k7, n7⟩, -, X7, ⟨Lc7, hQ7, l7, y7, z7⟩, st7⟩ := X6.virtualBack hx (y := (⟨"com/example/demarcate/demarcate/Isolation", "jdbcLevel", "()I"⟩ : MethodName)) (z := (⟨"com/example/demarcate/demarcate/Isolation", "jdbcLevel", "()I"⟩ : MethodName)) hown (mvT hZ (hw _ (List.mem_of_getElem? (i := 29) rfl))) (mvT hZ (hw _ (List.mem_of_getElem? (i := 30) rfl))) (notFace_of_selects (args := #[]) (mvT hZ (hw _ (List.mem_of_getElem? (i := 32) rfl)))) (mvT hZ (hw _ (List.mem_of_getElem? (i := 32) rfl))) (mvT hZ (hw _ (List.mem_of_getElem? (i := 31) rfl))) (by decide) (backOf (W := 0) (jl1 l Z a0 hw [] w0 w1 w2 w3 w4 wV kV wE w1 T1.heap n0 O1 S_w0 S_w1 S_w2 S_w3 S_w4 E_w0 E_w1 E_w2 E_w3 E_w4 F_w1 F_w2 F_w3 F_w4 S_wV E_wV A_wV S_wE E_wE F_wE ne_w1_w0 ne_w2_w0 ne_w3_w0 ne_w4_w0   (E_w1.ext O1.2) (F_w1.ext O1.2)) hZ (hw _ (List.mem_of_getElem? (i := 33) rfl)) (hw _ (List.mem_of_getElem? (i := 6) rfl)) (by decide) (by decide)) q7a q7c (g := (mkF m 34 #[.val (.int lev), .val .null, .val (.ref b1), .val (.int (5 : Int32)), .val (.int (1 : Int32)), .val (.ref w1)] [(.ref w1)])) rfl (by rw [hml]; rfl) (Steps.refl _) (argsL := []) (rest := []) (lenOf pd_0 rfl) rfl (by show 2 * 0 + _ ≤ _; exact Nat.le_of_eq rfl) (hb hby d2_34) (fun _ _ => ⟨rfl, e6, (by decide : 1 + 0 ≤ _), (by decide : 5 + 0 ≤ _)⟩)
  dsimp only [Pt.U, Pt.locs, Pt.cells, Pt.slots] at X7 l7 y7 z7 st7 hQ7
  subst l7 y7 z7
  obtain ⟨rfl, N7q, e7⟩ := hQ7
  have N7 := Fr.app N1 N7q
  obtain ⟨cl8, Ar8, q8, S8, M8, H8, G8⟩ := id y1_1
  have in8 : ¬ ((2 : Int32) < 0 ∨ cl8.slots.size ≤ ((2 : Int32)).toNatClampNeg) := inb_of S8 ⟨by decide, by decide⟩
  have at8 : cl8.slots[((2 : Int32)).toNatClampNeg]? = some (.ref w2) := H8.at in8 rfl
  obtain ⟨T9, X9, e9, st9⟩ := getS2 X7 hx hZ hown (host := "") (Or.inl (hw _ (List.mem_of_getElem? (i := 28) rfl))) Via.refl e7 (S_w0.ext O1.2) (g := (mkF m 26 #[.val (.int lev), .val .null, .val (.ref b1), .val (.int (5 : Int32)), .val (.int (2 : Int32)), .val (.ref w2)] [(.ref w2)])) rfl (hb hby d2_26)
  obtain ⟨cq10, kq10, q10a, q10b, q10c⟩ := isOf hZ e9 (E_w2.ext O1.2)
  obtain ⟨_, _, ⟨T10, L10, k10, n10⟩, -, X10, ⟨Lc10, hQ10, l10, y10, z10⟩, st10⟩ := X9.virtualBack hx (y := (⟨"com/example/demarcate/demarcate/Isolation", "jdbcLevel", "()I"⟩ : MethodName)) (z := (⟨"com/example/demarcate/demarcate/Isolation", "jdbcLevel", "()I"⟩ : MethodName)) hown (mvT hZ (hw _ (List.mem_of_getElem? (i := 29) rfl))) (mvT hZ (hw _ (List.mem_of_getElem? (i := 30) rfl))) (notFace_of_selects (args := #[]) (mvT hZ (hw _ (List.mem_of_getElem? (i := 32) rfl)))) (mvT hZ (hw _ (List.mem_of_getElem? (i := 32) rfl))) (mvT hZ (hw _ (List.mem_of_getElem? (i := 31) rfl))) (by decide) (backOf (W := 0) (jl2 l Z a0 hw [] w0 w1 w2 w3 w4 wV kV wE w2 T1.heap n0 O1 S_w0 S_w1 S_w2 S_w3 S_w4 E_w0 E_w1 E_w2 E_w3 E_w4 F_w1 F_w2 F_w3 F_w4 S_wV E_wV A_wV S_wE E_wE F_wE ne_w1_w0 ne_w2_w0 ne_w3_w0 ne_w4_w0   (E_w2.ext O1.2) (F_w2.ext O1.2)) hZ (hw _ (List.mem_of_getElem? (i := 33) rfl)) (hw _ (List.mem_of_getElem? (i := 6) rfl)) (by decide) (by decide)) q10a q10c (g := (mkF m 34 #[.val (.int lev), .val .null, .val (.ref b1), .val (.int (5 : Int32)), .val (.int (2 : Int32)), .val (.ref w2)] [(.ref w2)])) rfl (by rw [hml]; rfl) (Steps.refl _) (argsL := []) (rest := []) (lenOf pd_0 rfl) rfl (by show 2 * 0 + _ ≤ _; exact Nat.le_of_eq rfl) (hb hby d2_34) (fun _ _ => ⟨rfl, e9, (by decide : 1 + 0 ≤ _), (by decide : 5 + 0 ≤ _)⟩)
  dsimp only [Pt.U, Pt.locs, Pt.cells, Pt.slots] at X10 l10 y10 z10 st10 hQ10
  subst l10 y10 z10
  obtain ⟨rfl, N10q, e10⟩ := hQ10
  have N10 := Fr.app N7 N10q
  obtain ⟨cl11, Ar11, q11, S11, M11, H11, G11⟩ := id y1_1
  have in11 : ¬ ((3 : Int32) < 0 ∨ cl11.slots.size ≤ ((3 : Int32)).toNatClampNeg) := inb_of S11 ⟨by decide, by decide⟩
  have at11 : cl11.slots[((3 : Int32)).toNatClampNeg]? = some (.ref w3) := H11.at in11 rfl
  obtain ⟨T12, X12, e12, st12⟩ := getS2 X10 hx hZ hown (host := "") (Or.inl (hw _ (List.mem_of_getElem? (i := 28) rfl))) Via.refl e10 (S_w0.ext O1.2) (g := (mkF m 26 #[.val (.int lev), .val .null, .val (.ref b1), .val (.int (5 : Int32)), .val (.int (3 : Int32)), .val (.ref w3)] [(.ref w3)])) rfl (hb hby d2_26)
  obtain ⟨cq13, kq13, q13a, q13b, q13c⟩ := isOf hZ e12 (E_w3.ext O1.2)
  obtain ⟨_, _, ⟨T13, L13, k13, n13⟩, -, X13, ⟨Lc13, hQ13, l13, y13, z13⟩, st13⟩ := X12.virtualBack hx (y := (⟨"com/example/demarcate/demarcate/Isolation", "jdbcLevel", "()I"⟩ : MethodName)) (z := (⟨"com/example/demarcate/demarcate/Isolation", "jdbcLevel", "()I"⟩ : MethodName)) hown (mvT hZ (hw _ (List.mem_of_getElem? (i := 29) rfl))) (mvT hZ (hw _ (List.mem_of_getElem? (i := 30) rfl))) (notFace_of_selects (args := #[]) (mvT hZ (hw _ (List.mem_of_getElem? (i := 32) rfl)))) (mvT hZ (hw _ (List.mem_of_getElem? (i := 32) rfl))) (mvT hZ (hw _ (List.mem_of_getElem? (i := 31) rfl))) (by decide) (backOf (W := 0) (jl3 l Z a0 hw [] w0 w1 w2 w3 w4 wV kV wE w3 T1.heap n0 O1 S_w0 S_w1 S_w2 S_w3 S_w4 E_w0 E_w1 E_w2 E_w3 E_w4 F_w1 F_w2 F_w3 F_w4 S_wV E_wV A_wV S_wE E_wE F_wE ne_w1_w0 ne_w2_w0 ne_w3_w0 ne_w4_w0   (E_w3.ext O1.2) (F_w3.ext O1.2)) hZ (hw _ (List.mem_of_getElem? (i := 33) rfl)) (hw _ (List.mem_of_getElem? (i := 6) rfl)) (by decide) (by decide)) q13a q13c (g := (mkF m 34 #[.val (.int lev), .val .null, .val (.ref b1), .val (.int (5 : Int32)), .val (.int (3 : Int32)), .val (.ref w3)] [(.ref w3)])) rfl (by rw [hml]; rfl) (Steps.refl _) (argsL := []) (rest := []) (lenOf pd_0 rfl) rfl (by show 2 * 0 + _ ≤ _; exact Nat.le_of_eq rfl) (hb hby d2_34) (fun _ _ => ⟨rfl, e12, (by decide : 1 + 0 ≤ _), (by decide : 5 + 0 ≤ _)⟩)
  dsimp only [Pt.U, Pt.locs, Pt.cells, Pt.slots] at X13 l13 y13 z13 st13 hQ13
  subst l13 y13 z13
  obtain ⟨rfl, N13q, e13⟩ := hQ13
  have N13 := Fr.app N10 N13q
  obtain ⟨cl14, Ar14, q14, S14, M14, H14, G14⟩ := id y1_1
  have in14 : ¬ ((4 : Int32) < 0 ∨ cl14.slots.size ≤ ((4 : Int32)).toNatClampNeg) := inb_of S14 ⟨by decide, by decide⟩
  have at14 : cl14.slots[((4 : Int32)).toNatClampNeg]? = some (.ref w4) := H14.at in14 rfl
  obtain ⟨T15, X15, e15, st15⟩ := getS2 X13 hx hZ hown (host := "") (Or.inl (hw _ (List.mem_of_getElem? (i := 28) rfl))) Via.refl e13 (S_w0.ext O1.2) (g := (mkF m 26 #[.val (.int lev), .val .null, .val (.ref b1), .val (.int (5 : Int32)), .val (.int (4 : Int32)), .val (.ref w4)] [(.ref w4)])) rfl (hb hby d2_26)
  obtain ⟨cq16, kq16, q16a, q16b, q16c⟩ := isOf hZ e15 (E_w4.ext O1.2)
  obtain ⟨_, _, ⟨T16, L16, k16, n16⟩, -, X16, ⟨Lc16, hQ16, l16, y16, z16⟩, st16⟩ := X15.virtualBack hx (y := (⟨"com/example/demarcate/demarcate/Isolation", "jdbcLevel", "()I"⟩ : MethodName)) (z := (⟨"com/example/demarcate/demarcate/Isolation", "jdbcLevel", "()I"⟩ : MethodName)) hown (mvT hZ (hw _ (List.mem_of_getElem? (i := 29) rfl))) (mvT hZ (hw _ (List.mem_of_getElem? (i := 30) rfl))) (notFace_of_selects (args := #[]) (mvT hZ (hw _ (List.mem_of_getElem? (i := 32) rfl)))) (mvT hZ (hw _ (List.mem_of_getElem? (i := 32) rfl))) (mvT hZ (hw _ (List.mem_of_getElem? (i := 31) rfl))) (by decide) (backOf (W := 0) (jl4 l Z a0 hw [] w0 w1 w2 w3 w4 wV kV wE w4 T1.heap n0 O1 S_w0 S_w1 S_w2 S_w3 S_w4 E_w0 E_w1 E_w2 E_w3 E_w4 F_w1 F_w2 F_w3 F_w4 S_wV E_wV A_wV S_wE E_wE F_wE ne_w1_w0 ne_w2_w0 ne_w3_w0 ne_w4_w0   (E_w4.ext O1.2) (F_w4.ext O1.2)) hZ (hw _ (List.mem_of_getElem? (i := 33) rfl)) (hw _ (List.mem_of_getElem? (i := 6) rfl)) (by decide) (by decide)) q16a q16c (g := (mkF m 34 #[.val (.int lev), .val .null, .val (.ref b1), .val (.int (5 : Int32)), .val (.int (4 : Int32)), .val (.ref w4)] [(.ref w4)])) rfl (by rw [hml]; rfl) (Steps.refl _) (argsL := []) (rest := []) (lenOf pd_0 rfl) rfl (by show 2 * 0 + _ ≤ _; exact Nat.le_of_eq rfl) (hb hby d2_34) (fun _ _ => ⟨rfl, e15, (by decide : 1 + 0 ≤ _), (by decide : 5 + 0 ≤ _)⟩)
  dsimp only [Pt.U, Pt.locs, Pt.cells, Pt.slots] at X16 l16 y16 z16 st16 hQ16
  subst l16 y16 z16
  obtain ⟨rfl, N16q, e16⟩ := hQ16
  have N16 := Fr.app N13 N16q
  obtain ⟨_, _, ⟨T17, L17, k17, n17⟩, -, X17, ⟨Lc17, hQ17, l17, y17, z17⟩, st17⟩ := Jvm.LawKit.callS X16 hx (y := (⟨"java/util/Optional", "ofNullable", "(Ljava/lang/Object;)Ljava/util/Optional;"⟩ : MethodName)) hown (mvT hZ (hw _ (List.mem_of_getElem? (i := 43) rfl))) (mvT hZ (hw _ (List.mem_of_getElem? (i := 44) rfl))) (mvT hZ (hw _ (List.mem_of_getElem? (i := 45) rfl))) (mvT hZ (hw _ (List.mem_of_getElem? (i := 46) rfl))) (by decide) (backOf (W := 0) (onS l Z a0 hw [] w0 w1 w2 w3 w4 wV kV wE w4 T1.heap n0 O1 S_w0 S_w1 S_w2 S_w3 S_w4 E_w0 E_w1 E_w2 E_w3 E_w4 F_w1 F_w2 F_w3 F_w4 S_wV E_wV A_wV S_wE E_wE F_wE ne_w1_w0 ne_w2_w0 ne_w3_w0 ne_w4_w0   ) hZ (hw _ (List.mem_of_getElem? (i := 46) rfl)) (hw _ (List.mem_of_getElem? (i := 45) rfl)) (by decide) (by decide)) (g := (mkF m 54 #[.val (.int lev), .val (.ref w4), .val (.ref b1), .val (.int (5 : Int32)), .val (.int (4 : Int32)), .val (.ref w4)] [(.ref w4)])) rfl (by rw [hml]; rfl) (argsL := [(.ref w4)]) (rest := []) (lenOf pd_3 rfl) rfl (by show 2 * 0 + _ ≤ _; exact Nat.le_of_eq rfl) (hb hby d2_54) (fun _ _ => ⟨rfl, e16, (by decide : 1 + 1 ≤ _), (by decide : 5 + 1 ≤ _)⟩)
  dsimp only [Pt.U, Pt.locs, Pt.cells, Pt.slots] at X17 l17 y17 z17 st17 hQ17
  subst l17 y17 z17
  obtain ⟨b17, rfl, N17q, K17q, fr17_b, y17_0, y17_1⟩ := hQ17
  have N17 := Fr.app N16 N17q
  have ne_b1_b17 : b1 ≠ b17 := Nat.ne_of_lt (Nat.lt_of_lt_of_le y1_0.lt fr17_b)
  have g_b17 : n0 ≤ b17 := Nat.le_trans Z1 fr17_b
  have sz_b17 : h0.size ≤ b17 := Nat.le_trans K1.1 fr17_b
  have Z17 : n0 ≤ T17.heap.size := Nat.le_trans Z1 K17q.1
  have K17 : Keep h0 T17.heap [] := K1.trans K17q all0
  have O17 : Old Z n0 T17.heap := O1.keep K17q all0
  have R18 : ∀ t, Steps p.tables e below (T17.setTop (mkF m 57 #[.val (.int lev), .val (.ref w4), .val (.ref b1), .val (.int (5 : Int32)), .val (.int (4 : Int32)), .val (.ref w4)] [(.ref b17)])) t → Steps p.tables e below (s₁.setTop (entryFrame m #[(.int lev)] 6)) t := by
    intro t k
    refine R0 t ?_
    show Steps p.tables e below (s₁.setTop (mkF m 0 #[.val (.int lev), .unset, .unset, .unset, .unset, .unset] [])) t
    refine XS.aconstNull X0.here hx rfl (hb hby d2_0) ?_
    show Steps p.tables e below (s₁.setTop (mkF m 1 #[.val (.int lev), .unset, .unset, .unset, .unset, .unset] [.null])) t
    refine XS.astoreN X0.here hx rfl (hb hby d2_1) rfl rfl (l' := #[.val (.int lev), .val .null, .unset, .unset, .unset, .unset]) rfl ?_
    show Steps p.tables e below (s₁.setTop (mkF m 2 #[.val (.int lev), .val .null, .unset, .unset, .unset, .unset] [])) t
    refine st1 _ ?_
    show Steps p.tables e below (T1.setTop (mkF m 5 #[.val (.int lev), .val .null, .unset, .unset, .unset, .unset] [(.ref b1)])) t
    refine XS.astoreN X1.here hx rfl (hb hby d2_5) rfl rfl (l' := #[.val (.int lev), .val .null, .val (.ref b1), .unset, .unset, .unset]) rfl ?_
    show Steps p.tables e below (T1.setTop (mkF m 6 #[.val (.int lev), .val .null, .val (.ref b1), .unset, .unset, .unset] [])) t
    refine XS.aloadN X1.here hx rfl (hb hby d2_6) rfl rfl ?_
    show Steps p.tables e below (T1.setTop (mkF m 7 #[.val (.int lev), .val .null, .val (.ref b1), .unset, .unset, .unset] [(.ref b1)])) t
    refine X1.arraylength hx Ar2.1 (State.isArrayOf_alike hZ.alike Ar2.2.1) (g := (mkF m 7 #[.val (.int lev), .val .null, .val (.ref b1), .unset, .unset, .unset] [(.ref b1)])) rfl rfl (hb hby d2_7) _ ?_
    rw [len_of S2 M2]
    show Steps p.tables e below (T1.setTop (mkF m 8 #[.val (.int lev), .val .null, .val (.ref b1), .unset, .unset, .unset] [(.int (5 : Int32))])) t
    refine XS.istoreN X1.here hx rfl (hb hby d2_8) rfl (l' := #[.val (.int lev), .val .null, .val (.ref b1), .val (.int (5 : Int32)), .unset, .unset]) rfl ?_
    show Steps p.tables e below (T1.setTop (mkF m 9 #[.val (.int lev), .val .null, .val (.ref b1), .val (.int (5 : Int32)), .unset, .unset] [])) t
    refine XS.iconst X1.here hx rfl (hb hby d2_9) ?_
    show Steps p.tables e below (T1.setTop (mkF m 10 #[.val (.int lev), .val .null, .val (.ref b1), .val (.int (5 : Int32)), .unset, .unset] [(.int (0 : Int32))])) t
    refine XS.istore X1.here hx rfl (hb hby d2_10) rfl (l' := #[.val (.int lev), .val .null, .val (.ref b1), .val (.int (5 : Int32)), .val (.int (0 : Int32)), .unset]) rfl ?_
    show Steps p.tables e below (T1.setTop (mkF m 12 #[.val (.int lev), .val .null, .val (.ref b1), .val (.int (5 : Int32)), .val (.int (0 : Int32)), .unset] [])) t
    refine XS.iload X1.here hx rfl (hb hby d2_12) rfl ?_
    show Steps p.tables e below (T1.setTop (mkF m 14 #[.val (.int lev), .val .null, .val (.ref b1), .val (.int (5 : Int32)), .val (.int (0 : Int32)), .unset] [(.int (0 : Int32))])) t
    refine XS.iloadN X1.here hx rfl (hb hby d2_14) rfl ?_
    show Steps p.tables e below (T1.setTop (mkF m 15 #[.val (.int lev), .val .null, .val (.ref b1), .val (.int (5 : Int32)), .val (.int (0 : Int32)), .unset] [(.int (5 : Int32)), (.int (0 : Int32))])) t
    refine XS.icmpNo X1.here hx rfl (hb hby d2_15) rfl (tlt ((by decide) : (0 : Int32) < (5 : Int32))).2.1 ?_
    show Steps p.tables e below (T1.setTop (mkF m 18 #[.val (.int lev), .val .null, .val (.ref b1), .val (.int (5 : Int32)), .val (.int (0 : Int32)), .unset] [])) t
    refine XS.aloadN X1.here hx rfl (hb hby d2_18) rfl rfl ?_
    show Steps p.tables e below (T1.setTop (mkF m 19 #[.val (.int lev), .val .null, .val (.ref b1), .val (.int (5 : Int32)), .val (.int (0 : Int32)), .unset] [(.ref b1)])) t
    refine XS.iload X1.here hx rfl (hb hby d2_19) rfl ?_
    show Steps p.tables e below (T1.setTop (mkF m 21 #[.val (.int lev), .val .null, .val (.ref b1), .val (.int (5 : Int32)), .val (.int (0 : Int32)), .unset] [(.int (0 : Int32)), (.ref b1)])) t
    refine X1.aaload hx (j := (0 : Int32)) (v := (.ref w0)) Ar3.1 (State.isArrayOf_alike hZ.alike Ar3.2.1) rfl Ar3.2.2 in3 at3 (g := (mkF m 21 #[.val (.int lev), .val .null, .val (.ref b1), .val (.int (5 : Int32)), .val (.int (0 : Int32)), .unset] [(.int (0 : Int32)), (.ref b1)])) rfl rfl (hb hby d2_21) _ ?_
    show Steps p.tables e below (T1.setTop (mkF m 22 #[.val (.int lev), .val .null, .val (.ref b1), .val (.int (5 : Int32)), .val (.int (0 : Int32)), .unset] [(.ref w0)])) t
    refine XS.astore X1.here hx rfl (hb hby d2_22) rfl rfl (l' := #[.val (.int lev), .val .null, .val (.ref b1), .val (.int (5 : Int32)), .val (.int (0 : Int32)), .val (.ref w0)]) rfl ?_
    show Steps p.tables e below (T1.setTop (mkF m 24 #[.val (.int lev), .val .null, .val (.ref b1), .val (.int (5 : Int32)), .val (.int (0 : Int32)), .val (.ref w0)] [])) t
    refine XS.aload X1.here hx rfl (hb hby d2_24) rfl rfl ?_
    show Steps p.tables e below (T1.setTop (mkF m 26 #[.val (.int lev), .val .null, .val (.ref b1), .val (.int (5 : Int32)), .val (.int (0 : Int32)), .val (.ref w0)] [(.ref w0)])) t
    refine st4 _ ?_
    show Steps p.tables e below (T4.setTop (mkF m 29 #[.val (.int lev), .val .null, .val (.ref b1), .val (.int (5 : Int32)), .val (.int (0 : Int32)), .val (.ref w0)] [(.ref w0), (.ref w0)])) t
    refine Jvm.RoadKit.acmp (g := (mkF m 29 #[.val (.int lev), .val .null, .val (.ref b1), .val (.int (5 : Int32)), .val (.int (0 : Int32)), .val (.ref w0)] [(.ref w0), (.ref w0)])) X4 hx rfl rfl rfl (pc0 := 29) (pc' := 47) (same := true) rfl (hb hby d2_29) rfl (decide_eq_true (congrArg Value.ref rfl)) (by decide) (by decide) ?_
    show Steps p.tables e below (T4.setTop (mkF m 47 #[.val (.int lev), .val .null, .val (.ref b1), .val (.int (5 : Int32)), .val (.int (0 : Int32)), .val (.ref w0)] [])) t
    refine XS.iinc X4.here hx rfl (hb hby d2_47) rfl (l' := #[.val (.int lev), .val .null, .val (.ref b1), .val (.int (5 : Int32)), .val (.int (1 : Int32)), .val (.ref w0)]) rfl ?_
    show Steps p.tables e below (T4.setTop (mkF m 50 #[.val (.int lev), .val .null, .val (.ref b1), .val (.int (5 : Int32)), .val (.int (1 : Int32)), .val (.ref w0)] [])) t
    refine XS.goto X4.here hx rfl (pc0 := 50) (pc' := 12) rfl (hb hby d2_50) (by decide) (by decide) ?_
    show Steps p.tables e below (T4.setTop (mkF m 12 #[.val (.int lev), .val .null, .val (.ref b1), .val (.int (5 : Int32)), .val (.int (1 : Int32)), .val (.ref w0)] [])) t
    refine XS.iload X4.here hx rfl (hb hby d2_12) rfl ?_
    show Steps p.tables e below (T4.setTop (mkF m 14 #[.val (.int lev), .val .null, .val (.ref b1), .val (.int (5 : Int32)), .val (.int (1 : Int32)), .val (.ref w0)] [(.int (1 : Int32))])) t
    refine XS.iloadN X4.here hx rfl (hb hby d2_14) rfl ?_
    show Steps p.tables e below (T4.setTop (mkF m 15 #[.val (.int lev), .val .null, .val (.ref b1), .val (.int (5 : Int32)), .val (.int (1 : Int32)), .val (.ref w0)] [(.int (5 : Int32)), (.int (1 : Int32))])) t
    refine XS.icmpNo X4.here hx rfl (hb hby d2_15) rfl (tlt ((by decide) : (1 : Int32) < (5 : Int32))).2.1 ?_
    show Steps p.tables e below (T4.setTop (mkF m 18 #[.val (.int lev), .val .null, .val (.ref b1), .val (.int (5 : Int32)), .val (.int (1 : Int32)), .val (.ref w0)] [])) t
    refine XS.aloadN X4.here hx rfl (hb hby d2_18) rfl rfl ?_
    show Steps p.tables e below (T4.setTop (mkF m 19 #[.val (.int lev), .val .null, .val (.ref b1), .val (.int (5 : Int32)), .val (.int (1 : Int32)), .val (.ref w0)] [(.ref b1)])) t
    refine XS.iload X4.here hx rfl (hb hby d2_19) rfl ?_
    show Steps p.tables e below (T4.setTop (mkF m 21 #[.val (.int lev), .val .null, .val (.ref b1), .val (.int (5 : Int32)), .val (.int (1 : Int32)), .val (.ref w0)] [(.int (1 : Int32)), (.ref b1)])) t
    refine X4.aaload hx (j := (1 : Int32)) (v := (.ref w1)) (by rw [e4]; exact Ar5.1) (State.isArrayOf_alike hZ.alike Ar5.2.1) rfl Ar5.2.2 in5 at5 (g := (mkF m 21 #[.val (.int lev), .val .null, .val (.ref b1), .val (.int (5 : Int32)), .val (.int (1 : Int32)), .val (.ref w0)] [(.int (1 : Int32)), (.ref b1)])) rfl rfl (hb hby d2_21) _ ?_
    show Steps p.tables e below (T4.setTop (mkF m 22 #[.val (.int lev), .val .null, .val (.ref b1), .val (.int (5 : Int32)), .val (.int (1 : Int32)), .val (.ref w0)] [(.ref w1)])) t
    refine XS.astore X4.here hx rfl (hb hby d2_22) rfl rfl (l' := #[.val (.int lev), .val .null, .val (.ref b1), .val (.int (5 : Int32)), .val (.int (1 : Int32)), .val (.ref w1)]) rfl ?_
    show Steps p.tables e below (T4.setTop (mkF m 24 #[.val (.int lev), .val .null, .val (.ref b1), .val (.int (5 : Int32)), .val (.int (1 : Int32)), .val (.ref w1)] [])) t
    refine XS.aload X4.here hx rfl (hb hby d2_24) rfl rfl ?_
    show Steps p.tables e below (T4.setTop (mkF m 26 #[.val (.int lev), .val .null, .val (.ref b1), .val (.int (5 : Int32)), .val (.int (1 : Int32)), .val (.ref w1)] [(.ref w1)])) t
    refine st6 _ ?_
    show Steps p.tables e below (T6.setTop (mkF m 29 #[.val (.int lev), .val .null, .val (.ref b1), .val (.int (5 : Int32)), .val (.int (1 : Int32)), .val (.ref w1)] [(.ref w0), (.ref w1)])) t
    refine Jvm.RoadKit.acmp (g := (mkF m 29 #[.val (.int lev), .val .null, .val (.ref b1), .val (.int (5 : Int32)), .val (.int (1 : Int32)), .val (.ref w1)] [(.ref w0), (.ref w1)])) X6 hx rfl rfl rfl (pc0 := 29) (pc' := 32) (same := false) rfl (hb hby d2_29) rfl (decide_eq_false (fun q => ne_w1_w0 (Value.ref.inj q))) (by decide) (by decide) ?_
    show Steps p.tables e below (T6.setTop (mkF m 32 #[.val (.int lev), .val .null, .val (.ref b1), .val (.int (5 : Int32)), .val (.int (1 : Int32)), .val (.ref w1)] [])) t
    refine XS.aload X6.here hx rfl (hb hby d2_32) rfl rfl ?_
    show Steps p.tables e below (T6.setTop (mkF m 34 #[.val (.int lev), .val .null, .val (.ref b1), .val (.int (5 : Int32)), .val (.int (1 : Int32)), .val (.ref w1)] [(.ref w1)])) t
    refine st7.trans ?_
    show Steps p.tables e below (T7.setTop (mkF m 37 #[.val (.int lev), .val .null, .val (.ref b1), .val (.int (5 : Int32)), .val (.int (1 : Int32)), .val (.ref w1)] [(.int (1 : Int32))])) t
    refine XS.iloadN X7.here hx rfl (hb hby d2_37) rfl ?_
    show Steps p.tables e below (T7.setTop (mkF m 38 #[.val (.int lev), .val .null, .val (.ref b1), .val (.int (5 : Int32)), .val (.int (1 : Int32)), .val (.ref w1)] [(.int lev), (.int (1 : Int32))])) t
    refine XS.icmpYes X7.here hx rfl (pc0 := 38) (pc' := 47) rfl (hb hby d2_38) rfl (feq (hq0 : ¬ ((1 : Int32) = lev))).2 (by decide) (by decide) ?_
    show Steps p.tables e below (T7.setTop (mkF m 47 #[.val (.int lev), .val .null, .val (.ref b1), .val (.int (5 : Int32)), .val (.int (1 : Int32)), .val (.ref w1)] [])) t
    refine XS.iinc X7.here hx rfl (hb hby d2_47) rfl (l' := #[.val (.int lev), .val .null, .val (.ref b1), .val (.int (5 : Int32)), .val (.int (2 : Int32)), .val (.ref w1)]) rfl ?_
    show Steps p.tables e below (T7.setTop (mkF m 50 #[.val (.int lev), .val .null, .val (.ref b1), .val (.int (5 : Int32)), .val (.int (2 : Int32)), .val (.ref w1)] [])) t
    refine XS.goto X7.here hx rfl (pc0 := 50) (pc' := 12) rfl (hb hby d2_50) (by decide) (by decide) ?_
    show Steps p.tables e below (T7.setTop (mkF m 12 #[.val (.int lev), .val .null, .val (.ref b1), .val (.int (5 : Int32)), .val (.int (2 : Int32)), .val (.ref w1)] [])) t
    refine XS.iload X7.here hx rfl (hb hby d2_12) rfl ?_
    show Steps p.tables e below (T7.setTop (mkF m 14 #[.val (.int lev), .val .null, .val (.ref b1), .val (.int (5 : Int32)), .val (.int (2 : Int32)), .val (.ref w1)] [(.int (2 : Int32))])) t
    refine XS.iloadN X7.here hx rfl (hb hby d2_14) rfl ?_
    show Steps p.tables e below (T7.setTop (mkF m 15 #[.val (.int lev), .val .null, .val (.ref b1), .val (.int (5 : Int32)), .val (.int (2 : Int32)), .val (.ref w1)] [(.int (5 : Int32)), (.int (2 : Int32))])) t
    refine XS.icmpNo X7.here hx rfl (hb hby d2_15) rfl (tlt ((by decide) : (2 : Int32) < (5 : Int32))).2.1 ?_
    show Steps p.tables e below (T7.setTop (mkF m 18 #[.val (.int lev), .val .null, .val (.ref b1), .val (.int (5 : Int32)), .val (.int (2 : Int32)), .val (.ref w1)] [])) t
    refine XS.aloadN X7.here hx rfl (hb hby d2_18) rfl rfl ?_
    show Steps p.tables e below (T7.setTop (mkF m 19 #[.val (.int lev), .val .null, .val (.ref b1), .val (.int (5 : Int32)), .val (.int (2 : Int32)), .val (.ref w1)] [(.ref b1)])) t
    refine XS.iload X7.here hx rfl (hb hby d2_19) rfl ?_
    show Steps p.tables e below (T7.setTop (mkF m 21 #[.val (.int lev), .val .null, .val (.ref b1), .val (.int (5 : Int32)), .val (.int (2 : Int32)), .val (.ref w1)] [(.int (2 : Int32)), (.ref b1)])) t
    refine X7.aaload hx (j := (2 : Int32)) (v := (.ref w2)) (by rw [e7]; exact Ar8.1) (State.isArrayOf_alike hZ.alike Ar8.2.1) rfl Ar8.2.2 in8 at8 (g := (mkF m 21 #[.val (.int lev), .val .null, .val (.ref b1), .val (.int (5 : Int32)), .val (.int (2 : Int32)), .val (.ref w1)] [(.int (2 : Int32)), (.ref b1)])) rfl rfl (hb hby d2_21) _ ?_
    show Steps p.tables e below (T7.setTop (mkF m 22 #[.val (.int lev), .val .null, .val (.ref b1), .val (.int (5 : Int32)), .val (.int (2 : Int32)), .val (.ref w1)] [(.ref w2)])) t
    refine XS.astore X7.here hx rfl (hb hby d2_22) rfl rfl (l' := #[.val (.int lev), .val .null, .val (.ref b1), .val (.int (5 : Int32)), .val (.int (2 : Int32)), .val (.ref w2)]) rfl ?_
    show Steps p.tables e below (T7.setTop (mkF m 24 #[.val (.int lev), .val .null, .val (.ref b1), .val (.int (5 : Int32)), .val (.int (2 : Int32)), .val (.ref w2)] [])) t
    refine XS.aload X7.here hx rfl (hb hby d2_24) rfl rfl ?_
    show Steps p.tables e below (T7.setTop (mkF m 26 #[.val (.int lev), .val .null, .val (.ref b1), .val (.int (5 : Int32)), .val (.int (2 : Int32)), .val (.ref w2)] [(.ref w2)])) t
    refine st9 _ ?_
    show Steps p.tables e below (T9.setTop (mkF m 29 #[.val (.int lev), .val .null, .val (.ref b1), .val (.int (5 : Int32)), .val (.int (2 : Int32)), .val (.ref w2)] [(.ref w0), (.ref w2)])) t
    refine Jvm.RoadKit.acmp (g := (mkF m 29 #[.val (.int lev), .val .null, .val (.ref b1), .val (.int (5 : Int32)), .val (.int (2 : Int32)), .val (.ref w2)] [(.ref w0), (.ref w2)])) X9 hx rfl rfl rfl (pc0 := 29) (pc' := 32) (same := false) rfl (hb hby d2_29) rfl (decide_eq_false (fun q => ne_w2_w0 (Value.ref.inj q))) (by decide) (by decide) ?_
    show Steps p.tables e below (T9.setTop (mkF m 32 #[.val (.int lev), .val .null, .val (.ref b1), .val (.int (5 : Int32)), .val (.int (2 : Int32)), .val (.ref w2)] [])) t
    refine XS.aload X9.here hx rfl (hb hby d2_32) rfl rfl ?_
    show Steps p.tables e below (T9.setTop (mkF m 34 #[.val (.int lev), .val .null, .val (.ref b1), .val (.int (5 : Int32)), .val (.int (2 : Int32)), .val (.ref w2)] [(.ref w2)])) t
    refine st10.trans ?_
    show Steps p.tables e below (T10.setTop (mkF m 37 #[.val (.int lev), .val .null, .val (.ref b1), .val (.int (5 : Int32)), .val (.int (2 : Int32)), .val (.ref w2)] [(.int (2 : Int32))])) t
    refine XS.iloadN X10.here hx rfl (hb hby d2_37) rfl ?_
    show Steps p.tables e below (T10.setTop (mkF m 38 #[.val (.int lev), .val .null, .val (.ref b1), .val (.int (5 : Int32)), .val (.int (2 : Int32)), .val (.ref w2)] [(.int lev), (.int (2 : Int32))])) t
    refine XS.icmpYes X10.here hx rfl (pc0 := 38) (pc' := 47) rfl (hb hby d2_38) rfl (feq (hq1 : ¬ ((2 : Int32) = lev))).2 (by decide) (by decide) ?_
    show Steps p.tables e below (T10.setTop (mkF m 47 #[.val (.int lev), .val .null, .val (.ref b1), .val (.int (5 : Int32)), .val (.int (2 : Int32)), .val (.ref w2)] [])) t
    refine XS.iinc X10.here hx rfl (hb hby d2_47) rfl (l' := #[.val (.int lev), .val .null, .val (.ref b1), .val (.int (5 : Int32)), .val (.int (3 : Int32)), .val (.ref w2)]) rfl ?_
    show Steps p.tables e below (T10.setTop (mkF m 50 #[.val (.int lev), .val .null, .val (.ref b1), .val (.int (5 : Int32)), .val (.int (3 : Int32)), .val (.ref w2)] [])) t
    refine XS.goto X10.here hx rfl (pc0 := 50) (pc' := 12) rfl (hb hby d2_50) (by decide) (by decide) ?_
    show Steps p.tables e below (T10.setTop (mkF m 12 #[.val (.int lev), .val .null, .val (.ref b1), .val (.int (5 : Int32)), .val (.int (3 : Int32)), .val (.ref w2)] [])) t
    refine XS.iload X10.here hx rfl (hb hby d2_12) rfl ?_
    show Steps p.tables e below (T10.setTop (mkF m 14 #[.val (.int lev), .val .null, .val (.ref b1), .val (.int (5 : Int32)), .val (.int (3 : Int32)), .val (.ref w2)] [(.int (3 : Int32))])) t
    refine XS.iloadN X10.here hx rfl (hb hby d2_14) rfl ?_
    show Steps p.tables e below (T10.setTop (mkF m 15 #[.val (.int lev), .val .null, .val (.ref b1), .val (.int (5 : Int32)), .val (.int (3 : Int32)), .val (.ref w2)] [(.int (5 : Int32)), (.int (3 : Int32))])) t
    refine XS.icmpNo X10.here hx rfl (hb hby d2_15) rfl (tlt ((by decide) : (3 : Int32) < (5 : Int32))).2.1 ?_
    show Steps p.tables e below (T10.setTop (mkF m 18 #[.val (.int lev), .val .null, .val (.ref b1), .val (.int (5 : Int32)), .val (.int (3 : Int32)), .val (.ref w2)] [])) t
    refine XS.aloadN X10.here hx rfl (hb hby d2_18) rfl rfl ?_
    show Steps p.tables e below (T10.setTop (mkF m 19 #[.val (.int lev), .val .null, .val (.ref b1), .val (.int (5 : Int32)), .val (.int (3 : Int32)), .val (.ref w2)] [(.ref b1)])) t
    refine XS.iload X10.here hx rfl (hb hby d2_19) rfl ?_
    show Steps p.tables e below (T10.setTop (mkF m 21 #[.val (.int lev), .val .null, .val (.ref b1), .val (.int (5 : Int32)), .val (.int (3 : Int32)), .val (.ref w2)] [(.int (3 : Int32)), (.ref b1)])) t
    refine X10.aaload hx (j := (3 : Int32)) (v := (.ref w3)) (by rw [e10]; exact Ar11.1) (State.isArrayOf_alike hZ.alike Ar11.2.1) rfl Ar11.2.2 in11 at11 (g := (mkF m 21 #[.val (.int lev), .val .null, .val (.ref b1), .val (.int (5 : Int32)), .val (.int (3 : Int32)), .val (.ref w2)] [(.int (3 : Int32)), (.ref b1)])) rfl rfl (hb hby d2_21) _ ?_
    show Steps p.tables e below (T10.setTop (mkF m 22 #[.val (.int lev), .val .null, .val (.ref b1), .val (.int (5 : Int32)), .val (.int (3 : Int32)), .val (.ref w2)] [(.ref w3)])) t
    refine XS.astore X10.here hx rfl (hb hby d2_22) rfl rfl (l' := #[.val (.int lev), .val .null, .val (.ref b1), .val (.int (5 : Int32)), .val (.int (3 : Int32)), .val (.ref w3)]) rfl ?_
    show Steps p.tables e below (T10.setTop (mkF m 24 #[.val (.int lev), .val .null, .val (.ref b1), .val (.int (5 : Int32)), .val (.int (3 : Int32)), .val (.ref w3)] [])) t
    refine XS.aload X10.here hx rfl (hb hby d2_24) rfl rfl ?_
    show Steps p.tables e below (T10.setTop (mkF m 26 #[.val (.int lev), .val .null, .val (.ref b1), .val (.int (5 : Int32)), .val (.int (3 : Int32)), .val (.ref w3)] [(.ref w3)])) t
    refine st12 _ ?_
    show Steps p.tables e below (T12.setTop (mkF m 29 #[.val (.int lev), .val .null, .val (.ref b1), .val (.int (5 : Int32)), .val (.int (3 : Int32)), .val (.ref w3)] [(.ref w0), (.ref w3)])) t
    refine Jvm.RoadKit.acmp (g := (mkF m 29 #[.val (.int lev), .val .null, .val (.ref b1), .val (.int (5 : Int32)), .val (.int (3 : Int32)), .val (.ref w3)] [(.ref w0), (.ref w3)])) X12 hx rfl rfl rfl (pc0 := 29) (pc' := 32) (same := false) rfl (hb hby d2_29) rfl (decide_eq_false (fun q => ne_w3_w0 (Value.ref.inj q))) (by decide) (by decide) ?_
    show Steps p.tables e below (T12.setTop (mkF m 32 #[.val (.int lev), .val .null, .val (.ref b1), .val (.int (5 : Int32)), .val (.int (3 : Int32)), .val (.ref w3)] [])) t
    refine XS.aload X12.here hx rfl (hb hby d2_32) rfl rfl ?_
    show Steps p.tables e below (T12.setTop (mkF m 34 #[.val (.int lev), .val .null, .val (.ref b1), .val (.int (5 : Int32)), .val (.int (3 : Int32)), .val (.ref w3)] [(.ref w3)])) t
    refine st13.trans ?_
    show Steps p.tables e below (T13.setTop (mkF m 37 #[.val (.int lev), .val .null, .val (.ref b1), .val (.int (5 : Int32)), .val (.int (3 : Int32)), .val (.ref w3)] [(.int (4 : Int32))])) t
    refine XS.iloadN X13.here hx rfl (hb hby d2_37) rfl ?_
    show Steps p.tables e below (T13.setTop (mkF m 38 #[.val (.int lev), .val .null, .val (.ref b1), .val (.int (5 : Int32)), .val (.int (3 : Int32)), .val (.ref w3)] [(.int lev), (.int (4 : Int32))])) t
    refine XS.icmpYes X13.here hx rfl (pc0 := 38) (pc' := 47) rfl (hb hby d2_38) rfl (feq (hq2 : ¬ ((4 : Int32) = lev))).2 (by decide) (by decide) ?_
    show Steps p.tables e below (T13.setTop (mkF m 47 #[.val (.int lev), .val .null, .val (.ref b1), .val (.int (5 : Int32)), .val (.int (3 : Int32)), .val (.ref w3)] [])) t
    refine XS.iinc X13.here hx rfl (hb hby d2_47) rfl (l' := #[.val (.int lev), .val .null, .val (.ref b1), .val (.int (5 : Int32)), .val (.int (4 : Int32)), .val (.ref w3)]) rfl ?_
    show Steps p.tables e below (T13.setTop (mkF m 50 #[.val (.int lev), .val .null, .val (.ref b1), .val (.int (5 : Int32)), .val (.int (4 : Int32)), .val (.ref w3)] [])) t
    refine XS.goto X13.here hx rfl (pc0 := 50) (pc' := 12) rfl (hb hby d2_50) (by decide) (by decide) ?_
    show Steps p.tables e below (T13.setTop (mkF m 12 #[.val (.int lev), .val .null, .val (.ref b1), .val (.int (5 : Int32)), .val (.int (4 : Int32)), .val (.ref w3)] [])) t
    refine XS.iload X13.here hx rfl (hb hby d2_12) rfl ?_
    show Steps p.tables e below (T13.setTop (mkF m 14 #[.val (.int lev), .val .null, .val (.ref b1), .val (.int (5 : Int32)), .val (.int (4 : Int32)), .val (.ref w3)] [(.int (4 : Int32))])) t
    refine XS.iloadN X13.here hx rfl (hb hby d2_14) rfl ?_
    show Steps p.tables e below (T13.setTop (mkF m 15 #[.val (.int lev), .val .null, .val (.ref b1), .val (.int (5 : Int32)), .val (.int (4 : Int32)), .val (.ref w3)] [(.int (5 : Int32)), (.int (4 : Int32))])) t
    refine XS.icmpNo X13.here hx rfl (hb hby d2_15) rfl (tlt ((by decide) : (4 : Int32) < (5 : Int32))).2.1 ?_
    show Steps p.tables e below (T13.setTop (mkF m 18 #[.val (.int lev), .val .null, .val (.ref b1), .val (.int (5 : Int32)), .val (.int (4 : Int32)), .val (.ref w3)] [])) t
    refine XS.aloadN X13.here hx rfl (hb hby d2_18) rfl rfl ?_
    show Steps p.tables e below (T13.setTop (mkF m 19 #[.val (.int lev), .val .null, .val (.ref b1), .val (.int (5 : Int32)), .val (.int (4 : Int32)), .val (.ref w3)] [(.ref b1)])) t
    refine XS.iload X13.here hx rfl (hb hby d2_19) rfl ?_
    show Steps p.tables e below (T13.setTop (mkF m 21 #[.val (.int lev), .val .null, .val (.ref b1), .val (.int (5 : Int32)), .val (.int (4 : Int32)), .val (.ref w3)] [(.int (4 : Int32)), (.ref b1)])) t
    refine X13.aaload hx (j := (4 : Int32)) (v := (.ref w4)) (by rw [e13]; exact Ar14.1) (State.isArrayOf_alike hZ.alike Ar14.2.1) rfl Ar14.2.2 in14 at14 (g := (mkF m 21 #[.val (.int lev), .val .null, .val (.ref b1), .val (.int (5 : Int32)), .val (.int (4 : Int32)), .val (.ref w3)] [(.int (4 : Int32)), (.ref b1)])) rfl rfl (hb hby d2_21) _ ?_
    show Steps p.tables e below (T13.setTop (mkF m 22 #[.val (.int lev), .val .null, .val (.ref b1), .val (.int (5 : Int32)), .val (.int (4 : Int32)), .val (.ref w3)] [(.ref w4)])) t
    refine XS.astore X13.here hx rfl (hb hby d2_22) rfl rfl (l' := #[.val (.int lev), .val .null, .val (.ref b1), .val (.int (5 : Int32)), .val (.int (4 : Int32)), .val (.ref w4)]) rfl ?_
    show Steps p.tables e below (T13.setTop (mkF m 24 #[.val (.int lev), .val .null, .val (.ref b1), .val (.int (5 : Int32)), .val (.int (4 : Int32)), .val (.ref w4)] [])) t
    refine XS.aload X13.here hx rfl (hb hby d2_24) rfl rfl ?_
    show Steps p.tables e below (T13.setTop (mkF m 26 #[.val (.int lev), .val .null, .val (.ref b1), .val (.int (5 : Int32)), .val (.int (4 : Int32)), .val (.ref w4)] [(.ref w4)])) t
    refine st15 _ ?_
    show Steps p.tables e below (T15.setTop (mkF m 29 #[.val (.int lev), .val .null, .val (.ref b1), .val (.int (5 : Int32)), .val (.int (4 : Int32)), .val (.ref w4)] [(.ref w0), (.ref w4)])) t
    refine Jvm.RoadKit.acmp (g := (mkF m 29 #[.val (.int lev), .val .null, .val (.ref b1), .val (.int (5 : Int32)), .val (.int (4 : Int32)), .val (.ref w4)] [(.ref w0), (.ref w4)])) X15 hx rfl rfl rfl (pc0 := 29) (pc' := 32) (same := false) rfl (hb hby d2_29) rfl (decide_eq_false (fun q => ne_w4_w0 (Value.ref.inj q))) (by decide) (by decide) ?_
    show Steps p.tables e below (T15.setTop (mkF m 32 #[.val (.int lev), .val .null, .val (.ref b1), .val (.int (5 : Int32)), .val (.int (4 : Int32)), .val (.ref w4)] [])) t
    refine XS.aload X15.here hx rfl (hb hby d2_32) rfl rfl ?_
    show Steps p.tables e below (T15.setTop (mkF m 34 #[.val (.int lev), .val .null, .val (.ref b1), .val (.int (5 : Int32)), .val (.int (4 : Int32)), .val (.ref w4)] [(.ref w4)])) t
    refine st16.trans ?_
    show Steps p.tables e below (T16.setTop (mkF m 37 #[.val (.int lev), .val .null, .val (.ref b1), .val (.int (5 : Int32)), .val (.int (4 : Int32)), .val (.ref w4)] [(.int (8 : Int32))])) t
    refine XS.iloadN X16.here hx rfl (hb hby d2_37) rfl ?_
    show Steps p.tables e below (T16.setTop (mkF m 38 #[.val (.int lev), .val .null, .val (.ref b1), .val (.int (5 : Int32)), .val (.int (4 : Int32)), .val (.ref w4)] [(.int lev), (.int (8 : Int32))])) t
    refine XS.icmpNo X16.here hx rfl (hb hby d2_38) rfl (teq (hq3 : (8 : Int32) = lev)).2 ?_
    show Steps p.tables e below (T16.setTop (mkF m 41 #[.val (.int lev), .val .null, .val (.ref b1), .val (.int (5 : Int32)), .val (.int (4 : Int32)), .val (.ref w4)] [])) t
    refine XS.aload X16.here hx rfl (hb hby d2_41) rfl rfl ?_
    show Steps p.tables e below (T16.setTop (mkF m 43 #[.val (.int lev), .val .null, .val (.ref b1), .val (.int (5 : Int32)), .val (.int (4 : Int32)), .val (.ref w4)] [(.ref w4)])) t
    refine XS.astoreN X16.here hx rfl (hb hby d2_43) rfl rfl (l' := #[.val (.int lev), .val (.ref w4), .val (.ref b1), .val (.int (5 : Int32)), .val (.int (4 : Int32)), .val (.ref w4)]) rfl ?_
    show Steps p.tables e below (T16.setTop (mkF m 44 #[.val (.int lev), .val (.ref w4), .val (.ref b1), .val (.int (5 : Int32)), .val (.int (4 : Int32)), .val (.ref w4)] [])) t
    refine XS.goto X16.here hx rfl (pc0 := 44) (pc' := 53) rfl (hb hby d2_44) (by decide) (by decide) ?_
    show Steps p.tables e below (T16.setTop (mkF m 53 #[.val (.int lev), .val (.ref w4), .val (.ref b1), .val (.int (5 : Int32)), .val (.int (4 : Int32)), .val (.ref w4)] [])) t
    refine XS.aloadN X16.here hx rfl (hb hby d2_53) rfl rfl ?_
    show Steps p.tables e below (T16.setTop (mkF m 54 #[.val (.int lev), .val (.ref w4), .val (.ref b1), .val (.int (5 : Int32)), .val (.int (4 : Int32)), .val (.ref w4)] [(.ref w4)])) t
    refine st17 _ ?_
    exact k
  obtain ⟨fs, hr, hrun, hended, hW, hsame⟩ := X17.leave (v := some (.ref b17)) (fun h => by rw [Bd.returns] at h; cases h)
  refine ⟨_, _, R18 _ ?_, hrun, hended, _, _, rfl, ?_, ⟨_, rfl⟩, hW, hsame.mono (by decide) (by decide)⟩
  · show Steps p.tables e below (T17.setTop (mkF m 57 #[.val (.int lev), .val (.ref w4), .val (.ref b1), .val (.int (5 : Int32)), .val (.int (4 : Int32)), .val (.ref w4)] [(.ref b17)])) _
    exact retOut X17 hx Bd.returns rfl (Or.inr (Or.inr (Or.inr (Or.inr ⟨rfl, rfl, rfl⟩)))) (hb hby d2_57) hr
  · show Q_oj3 Z w0 w1 w2 w3 w4 wV kV wE lev h0 n0 _ T17.heap _
    exact ⟨b17, rfl, N17, K17, y17_0, y17_1⟩
theorem d1_37 : decode method_2_code 37 = .ok (.aconst_null, 1) := by decide +kernel
theorem d1_38 : decode method_2_code 38 = .ok (.areturn, 1) := by decide +kernel
theorem ef_exp4 (m : MethodId) (lev : Int32) : entryFrame m #[(.int lev)] 1 = mkF m 0 #[.val (.int lev)] [] := by first | (simp [entryFrame, mkF, argsToLocals, Value.category]; done) | rfl
def Q_exp4 (Z : State) (w0 : Addr) (w1 : Addr) (w2 : Addr) (w3 : Addr) (w4 : Addr) (wV : Addr) (kV : ClassId) (wE : Addr) (lev : Int32) (h0 : Heap) (n0 : Nat) (vv_ : Option Value) (hh_ : Heap) (LL_ : List Loc) : Prop := vv_ = some .null ∧ (Fr n0 LL_) ∧ (hh_ = h0)
set_option maxRecDepth 65536 in
set_option maxHeartbeats 40000000 in
theorem exp4 (l : Launch) (Z : State) (a0 : Array Value) (hw : ∀ d ∈ tables_1, d.before a0 Z = true) (ws : List Jvm.Cond) (w0 : Addr) (w1 : Addr) (w2 : Addr) (w3 : Addr) (w4 : Addr) (wV : Addr) (kV : ClassId) (wE : Addr) (lev : Int32) (h0 : Heap) (n0 : Nat) (O0 : Old Z n0 h0) (S_w0 : Sta Z Z.heap "com/example/demarcate/demarcate/Isolation" "DEFAULT" "Lcom/example/demarcate/demarcate/Isolation;" (.ref w0)) (S_w1 : Sta Z Z.heap "com/example/demarcate/demarcate/Isolation" "READ_UNCOMMITTED" "Lcom/example/demarcate/demarcate/Isolation;" (.ref w1)) (S_w2 : Sta Z Z.heap "com/example/demarcate/demarcate/Isolation" "READ_COMMITTED" "Lcom/example/demarcate/demarcate/Isolation;" (.ref w2)) (S_w3 : Sta Z Z.heap "com/example/demarcate/demarcate/Isolation" "REPEATABLE_READ" "Lcom/example/demarcate/demarcate/Isolation;" (.ref w3)) (S_w4 : Sta Z Z.heap "com/example/demarcate/demarcate/Isolation" "SERIALIZABLE" "Lcom/example/demarcate/demarcate/Isolation;" (.ref w4)) (E_w0 : Exa Z Z.heap w0 "com/example/demarcate/demarcate/Isolation") (E_w1 : Exa Z Z.heap w1 "com/example/demarcate/demarcate/Isolation") (E_w2 : Exa Z Z.heap w2 "com/example/demarcate/demarcate/Isolation") (E_w3 : Exa Z Z.heap w3 "com/example/demarcate/demarcate/Isolation") (E_w4 : Exa Z Z.heap w4 "com/example/demarcate/demarcate/Isolation") (F_w1 : Fld Z Z.heap w1 "java/lang/Enum" "ordinal" "I" (.int (1 : Int32))) (F_w2 : Fld Z Z.heap w2 "java/lang/Enum" "ordinal" "I" (.int (2 : Int32))) (F_w3 : Fld Z Z.heap w3 "java/lang/Enum" "ordinal" "I" (.int (3 : Int32))) (F_w4 : Fld Z Z.heap w4 "java/lang/Enum" "ordinal" "I" (.int (4 : Int32))) (S_wV : Sta Z Z.heap "com/example/demarcate/demarcate/Isolation" "$VALUES" "[Lcom/example/demarcate/demarcate/Isolation;" (.ref wV)) (E_wV : Exa Z Z.heap wV "[Lcom/example/demarcate/demarcate/Isolation;") (A_wV : Arv Z Z.heap wV kV (.object "com/example/demarcate/demarcate/Isolation") (5 : Int32) [(.ref w0), (.ref w1), (.ref w2), (.ref w3), (.ref w4)] .null) (S_wE : Sta Z Z.heap "java/util/Optional" "EMPTY" "Ljava/util/Optional;" (.ref wE)) (E_wE : Exa Z Z.heap wE "java/util/Optional") (F_wE : Fld Z Z.heap wE "java/util/Optional" "value" "Ljava/lang/Object;" .null) (ne_w1_w0 : w1 ≠ w0) (ne_w2_w0 : w2 ≠ w0) (ne_w3_w0 : w3 ≠ w0) (ne_w4_w0 : w4 ≠ w0) (hq0 : ¬ (lev = (1 : Int32))) (hq1 : ¬ (lev = (2 : Int32))) (hq2 : ¬ (lev = (4 : Int32))) (hq3 : ¬ (lev = (8 : Int32))) :
    MetFree l (⟨"com/example/demarcate/demarcate/IsolationOfJdbcLevelPinLaw", "expected", "(I)Lcom/example/demarcate/demarcate/Isolation;"⟩ : MethodName) (head1 (Jvm.Cond.code (⟨"com/example/demarcate/demarcate/IsolationOfJdbcLevelPinLaw", "expected", "(I)Lcom/example/demarcate/demarcate/Isolation;"⟩ : MethodName) method_2_code 1 (some (.object "com/example/demarcate/demarcate/Isolation")) :: ws) ({ frames := 0, cells := 0, slots := 0, locals := 0 } : Room)) (fun aa_ U_ => aa_ = #[(.int lev)] ∧ Z.Warmed39 U_.vm ∧ U_.heap = h0) (fun _ _ _ _ _ => True) (fun _ U_ oo_ V_ => ∃ vv_ LL_, oo_ = .returned vv_ ∧ Q_exp4 Z w0 w1 w2 w3 w4 wV kV wE lev h0 n0 vv_ V_.heap LL_ ∧ FrameEnd U_ oo_ V_ LL_ ({ frames := 0, cells := 0, slots := 0, locals := 0 } : Room).cells ({ frames := 0, cells := 0, slots := 0, locals := 0 } : Room).slots) := by
  refine MetFree.of_bodySF (plainFor_of_name pn_com_example_demarcate_demarcate_IsolationOfJdbcLevelPinLaw) hisR ?_
  intro p e s m args below meth c s₁ Bd hml0 hP hK
  obtain ⟨rfl, hZ, hh⟩ := hP
  have hx := Bd.exec
  have hby := Bd.bytes
  have hml : c.maxLocals = 1 := hml0
  have hown : s.vm.findClass "com/example/demarcate/demarcate/IsolationOfJdbcLevelPinLaw" = some m.cls := findClass_of_methodNamed Bd.named
  have hnm := (name_of_methodNamed Bd.named Bd.method).1
  have X0 : Stand p l e ({ frames := 0, cells := 0, slots := 0, locals := 0 } : Room) s m #[(.int lev)] below meth c s₁ [] 0 0 := Stand.of_body Bd
  have e0 : s₁.heap = h0 := by rw [← hh, Bd.state]; rfl
  have N0 := Fr.nil n0
  have Z0 : n0 ≤ h0.size := O0.1 ▸ O0.2.1
  have hk0 := Nat.zero_le h0.size
  have K0 : Keep h0 h0 [] := Keep.refl _ _
  have R0 : ∀ t, Steps p.tables e below (s₁.setTop (mkF m 0 #[.val (.int lev)] [])) t → Steps p.tables e below (s₁.setTop (entryFrame m #[(.int lev)] 1)) t := fun t k => castTop (ef_exp4 m lev) k
  have R1 : ∀ t, Steps p.tables e below (s₁.setTop (mkF m 38 #[.val (.int lev)] [.null])) t → Steps p.tables e below (s₁.setTop (entryFrame m #[(.int lev)] 1)) t := by
    intro t k
    refine R0 t ?_
    show Steps p.tables e below (s₁.setTop (mkF m 0 #[.val (.int lev)] [])) t
    refine XS.iloadN X0.here hx rfl (hb hby d1_0) rfl ?_
    show Steps p.tables e below (s₁.setTop (mkF m 1 #[.val (.int lev)] [(.int lev)])) t
    refine XS.iconst X0.here hx rfl (hb hby d1_1) ?_
    show Steps p.tables e below (s₁.setTop (mkF m 2 #[.val (.int lev)] [(.int (1 : Int32)), (.int lev)])) t
    refine XS.icmpYes X0.here hx rfl (pc0 := 2) (pc' := 9) rfl (hb hby d1_2) rfl (feq (hq0 : ¬ (lev = (1 : Int32)))).2 (by decide) (by decide) ?_
    show Steps p.tables e below (s₁.setTop (mkF m 9 #[.val (.int lev)] [])) t
    refine XS.iloadN X0.here hx rfl (hb hby d1_9) rfl ?_
    show Steps p.tables e below (s₁.setTop (mkF m 10 #[.val (.int lev)] [(.int lev)])) t
    refine XS.iconst X0.here hx rfl (hb hby d1_10) ?_
    show Steps p.tables e below (s₁.setTop (mkF m 11 #[.val (.int lev)] [(.int (2 : Int32)), (.int lev)])) t
    refine XS.icmpYes X0.here hx rfl (pc0 := 11) (pc' := 18) rfl (hb hby d1_11) rfl (feq (hq1 : ¬ (lev = (2 : Int32)))).2 (by decide) (by decide) ?_
    show Steps p.tables e below (s₁.setTop (mkF m 18 #[.val (.int lev)] [])) t
    refine XS.iloadN X0.here hx rfl (hb hby d1_18) rfl ?_
    show Steps p.tables e below (s₁.setTop (mkF m 19 #[.val (.int lev)] [(.int lev)])) t
    refine XS.iconst X0.here hx rfl (hb hby d1_19) ?_
    show Steps p.tables e below (s₁.setTop (mkF m 20 #[.val (.int lev)] [(.int (4 : Int32)), (.int lev)])) t
    refine XS.icmpYes X0.here hx rfl (pc0 := 20) (pc' := 27) rfl (hb hby d1_20) rfl (feq (hq2 : ¬ (lev = (4 : Int32)))).2 (by decide) (by decide) ?_
    show Steps p.tables e below (s₁.setTop (mkF m 27 #[.val (.int lev)] [])) t
    refine XS.iloadN X0.here hx rfl (hb hby d1_27) rfl ?_
    show Steps p.tables e below (s₁.setTop (mkF m 28 #[.val (.int lev)] [(.int lev)])) t
    refine XS.bipush X0.here hx rfl (hb hby d1_28) ?_
    show Steps p.tables e below (s₁.setTop (mkF m 30 #[.val (.int lev)] [(.int (8 : Int32)), (.int lev)])) t
    refine XS.icmpYes X0.here hx rfl (pc0 := 30) (pc' := 37) rfl (hb hby d1_30) rfl (feq (hq3 : ¬ (lev = (8 : Int32)))).2 (by decide) (by decide) ?_
    show Steps p.tables e below (s₁.setTop (mkF m 37 #[.val (.int lev)] [])) t
    refine XS.aconstNull X0.here hx rfl (hb hby d1_37) ?_
    exact k
  obtain ⟨fs, hr, hrun, hended, hW, hsame⟩ := X0.leave (v := some .null) (fun h => by rw [Bd.returns] at h; cases h)
  refine ⟨_, _, R1 _ ?_, hrun, hended, _, _, rfl, ?_, ⟨_, rfl⟩, hW, hsame.mono (by decide) (by decide)⟩
  · show Steps p.tables e below (s₁.setTop (mkF m 38 #[.val (.int lev)] [.null])) _
    exact retOut X0 hx Bd.returns rfl (Or.inr (Or.inr (Or.inr (Or.inr ⟨rfl, rfl, rfl⟩)))) (hb hby d1_38) hr
  · show Q_exp4 Z w0 w1 w2 w3 w4 wV kV wE lev h0 n0 _ s₁.heap _
    rw [e0]
    exact ⟨rfl, N0, rfl⟩
theorem ef_oj4 (m : MethodId) (lev : Int32) : entryFrame m #[(.int lev)] 6 = mkF m 0 #[.val (.int lev), .unset, .unset, .unset, .unset, .unset] [] := by first | (simp [entryFrame, mkF, argsToLocals, Value.category]; done) | rfl
def Q_oj4 (Z : State) (w0 : Addr) (w1 : Addr) (w2 : Addr) (w3 : Addr) (w4 : Addr) (wV : Addr) (kV : ClassId) (wE : Addr) (lev : Int32) (h0 : Heap) (n0 : Nat) (vv_ : Option Value) (hh_ : Heap) (LL_ : List Loc) : Prop := vv_ = some (.ref wE) ∧ (Fr n0 LL_) ∧ (Keep h0 hh_ [])
set_option maxRecDepth 65536 in
set_option maxHeartbeats 40000000 in
theorem oj4 (l : Launch) (Z : State) (a0 : Array Value) (hw : ∀ d ∈ tables_1, d.before a0 Z = true) (ws : List Jvm.Cond) (w0 : Addr) (w1 : Addr) (w2 : Addr) (w3 : Addr) (w4 : Addr) (wV : Addr) (kV : ClassId) (wE : Addr) (lev : Int32) (h0 : Heap) (n0 : Nat) (O0 : Old Z n0 h0) (S_w0 : Sta Z Z.heap "com/example/demarcate/demarcate/Isolation" "DEFAULT" "Lcom/example/demarcate/demarcate/Isolation;" (.ref w0)) (S_w1 : Sta Z Z.heap "com/example/demarcate/demarcate/Isolation" "READ_UNCOMMITTED" "Lcom/example/demarcate/demarcate/Isolation;" (.ref w1)) (S_w2 : Sta Z Z.heap "com/example/demarcate/demarcate/Isolation" "READ_COMMITTED" "Lcom/example/demarcate/demarcate/Isolation;" (.ref w2)) (S_w3 : Sta Z Z.heap "com/example/demarcate/demarcate/Isolation" "REPEATABLE_READ" "Lcom/example/demarcate/demarcate/Isolation;" (.ref w3)) (S_w4 : Sta Z Z.heap "com/example/demarcate/demarcate/Isolation" "SERIALIZABLE" "Lcom/example/demarcate/demarcate/Isolation;" (.ref w4)) (E_w0 : Exa Z Z.heap w0 "com/example/demarcate/demarcate/Isolation") (E_w1 : Exa Z Z.heap w1 "com/example/demarcate/demarcate/Isolation") (E_w2 : Exa Z Z.heap w2 "com/example/demarcate/demarcate/Isolation") (E_w3 : Exa Z Z.heap w3 "com/example/demarcate/demarcate/Isolation") (E_w4 : Exa Z Z.heap w4 "com/example/demarcate/demarcate/Isolation") (F_w1 : Fld Z Z.heap w1 "java/lang/Enum" "ordinal" "I" (.int (1 : Int32))) (F_w2 : Fld Z Z.heap w2 "java/lang/Enum" "ordinal" "I" (.int (2 : Int32))) (F_w3 : Fld Z Z.heap w3 "java/lang/Enum" "ordinal" "I" (.int (3 : Int32))) (F_w4 : Fld Z Z.heap w4 "java/lang/Enum" "ordinal" "I" (.int (4 : Int32))) (S_wV : Sta Z Z.heap "com/example/demarcate/demarcate/Isolation" "$VALUES" "[Lcom/example/demarcate/demarcate/Isolation;" (.ref wV)) (E_wV : Exa Z Z.heap wV "[Lcom/example/demarcate/demarcate/Isolation;") (A_wV : Arv Z Z.heap wV kV (.object "com/example/demarcate/demarcate/Isolation") (5 : Int32) [(.ref w0), (.ref w1), (.ref w2), (.ref w3), (.ref w4)] .null) (S_wE : Sta Z Z.heap "java/util/Optional" "EMPTY" "Ljava/util/Optional;" (.ref wE)) (E_wE : Exa Z Z.heap wE "java/util/Optional") (F_wE : Fld Z Z.heap wE "java/util/Optional" "value" "Ljava/lang/Object;" .null) (ne_w1_w0 : w1 ≠ w0) (ne_w2_w0 : w2 ≠ w0) (ne_w3_w0 : w3 ≠ w0) (ne_w4_w0 : w4 ≠ w0) (hq0 : ¬ ((1 : Int32) = lev)) (hq1 : ¬ ((2 : Int32) = lev)) (hq2 : ¬ ((4 : Int32) = lev)) (hq3 : ¬ ((8 : Int32) = lev)) :
    MetFree l (⟨"com/example/demarcate/demarcate/Isolation", "ofJdbcLevel", "(I)Ljava/util/Optional;"⟩ : MethodName) (head1 (Jvm.Cond.code (⟨"com/example/demarcate/demarcate/Isolation", "ofJdbcLevel", "(I)Ljava/util/Optional;"⟩ : MethodName) prog_11_method_5_code 6 (some (.object "java/util/Optional")) :: ws) ({ frames := 2, cells := 1, slots := 5, locals := 25 } : Room)) (fun aa_ U_ => aa_ = #[(.int lev)] ∧ Z.Warmed39 U_.vm ∧ U_.heap = h0) (fun _ _ _ _ _ => True) (fun _ U_ oo_ V_ => ∃ vv_ LL_, oo_ = .returned vv_ ∧ Q_oj4 Z w0 w1 w2 w3 w4 wV kV wE lev h0 n0 vv_ V_.heap LL_ ∧ FrameEnd U_ oo_ V_ LL_ ({ frames := 2, cells := 1, slots := 5, locals := 25 } : Room).cells ({ frames := 2, cells := 1, slots := 5, locals := 25 } : Room).slots) := by
  refine MetFree.of_bodySF (plainFor_of_name pn_com_example_demarcate_demarcate_Isolation) hisR ?_
  intro p e s m args below meth c s₁ Bd hml0 hP hK
  obtain ⟨rfl, hZ, hh⟩ := hP
  have hx := Bd.exec
  have hby := Bd.bytes
  have hml : c.maxLocals = 6 := hml0
  have hown : s.vm.findClass "com/example/demarcate/demarcate/Isolation" = some m.cls := findClass_of_methodNamed Bd.named
  have hnm := (name_of_methodNamed Bd.named Bd.method).1
  have X0 : Stand p l e ({ frames := 2, cells := 1, slots := 5, locals := 25 } : Room) s m #[(.int lev)] below meth c s₁ [] 0 0 := Stand.of_body Bd
  have e0 : s₁.heap = h0 := by rw [← hh, Bd.state]; rfl
  have N0 := Fr.nil n0
  have Z0 : n0 ≤ h0.size := O0.1 ▸ O0.2.1
  have hk0 := Nat.zero_le h0.size
  have K0 : Keep h0 h0 [] := Keep.refl _ _
  have R0 : ∀ t, Steps p.tables e below (s₁.setTop (mkF m 0 #[.val (.int lev), .unset, .unset, .unset, .unset, .unset] [])) t → Steps p.tables e below (s₁.setTop (entryFrame m #[(.int lev)] 6)) t := fun t k => castTop (ef_oj4 m lev) k
  obtain ⟨_, _, ⟨T1, L1, k1, n1⟩, -, X1, ⟨Lc1, hQ1, l1, y1, z1⟩, st1⟩ := Jvm.LawKit.callS X0 hx (y := (⟨"com/example/demarcate/demarcate/Isolation", "values", "()[Lcom/example/demarcate/demarcate/Isolation;"⟩ : MethodName)) hown (mvT hZ (hw _ (List.mem_of_getElem? (i := 8) rfl))) (mvT hZ (hw _ (List.mem_of_getElem? (i := 9) rfl))) (mvT hZ (hw _ (List.mem_of_getElem? (i := 6) rfl))) (mvT hZ (hw _ (List.mem_of_getElem? (i := 10) rfl))) (by decide) (backOf (W := 0) (values l Z a0 hw [] w0 w1 w2 w3 w4 wV kV wE  h0 n0 O0 S_w0 S_w1 S_w2 S_w3 S_w4 E_w0 E_w1 E_w2 E_w3 E_w4 F_w1 F_w2 F_w3 F_w4 S_wV E_wV A_wV S_wE E_wE F_wE ne_w1_w0 ne_w2_w0 ne_w3_w0 ne_w4_w0   ) hZ (hw _ (List.mem_of_getElem? (i := 10) rfl)) (hw _ (List.mem_of_getElem? (i := 6) rfl)) (by decide) (by decide)) (g := (mkF m 2 #[.val (.int lev), .val .null, .unset, .unset, .unset, .unset] [])) rfl (by rw [hml]; rfl) (argsL := []) (rest := []) (lenOf pd_2 rfl) rfl (by show 2 * 0 + _ ≤ _; exact Nat.le_of_eq rfl) (hb hby d2_2) (fun _ _ => ⟨rfl, e0, (by decide : 0 + 1 ≤ _), (by decide : 0 + 5 ≤ _)⟩)
  dsimp only [Pt.U, Pt.locs, Pt.cells, Pt.slots] at X1 l1 y1 z1 st1 hQ1
  subst l1 y1 z1
  obtain ⟨b1, rfl, N1q, K1q, fr1_b, y1_0, y1_1⟩ := hQ1
  have N1 := Fr.app N0 N1q
  have g_b1 : n0 ≤ b1 := Nat.le_trans Z0 fr1_b
  have sz_b1 : h0.size ≤ b1 := Nat.le_trans K0.1 fr1_b
  have Z1 : n0 ≤ T1.heap.size := Nat.le_trans Z0 K1q.1
  have K1 : Keep h0 T1.heap [] := K0.trans K1q all0
  have O1 : Old Z n0 T1.heap := O0.keep K1q all0
  obtain ⟨cl2, Ar2, -, S2, M2, -, -⟩ := id y1_1
  obtain ⟨cl3, Ar3, q3, S3, M3, H3, G3⟩ := id y1_1
  have in3 : ¬ ((0 : Int32) < 0 ∨ cl3.slots.size ≤ ((0 : Int32)).toNatClampNeg) := inb_of S3 ⟨by decide, by decide⟩
  have at3 : cl3.slots[((0 : Int32)).toNatClampNeg]? = some (.ref w0) := H3.at in3 rfl
  obtain ⟨T4, X4, e4, st4⟩ := getS2 X1 hx hZ hown (host := "") (Or.inl (hw _ (List.mem_of_getElem? (i := 28) rfl))) Via.refl rfl (S_w0.ext O1.2) (g := (mkF m 26 #[.val (.int lev), .val .null, .val (.ref b1), .val (.int (5 : Int32)), .val (.int (0 : Int32)), .val (.ref w0)] [(.ref w0)])) rfl (hb hby d2_26)
  obtain ⟨cl5, Ar5, q5, S5, M5, H5, G5⟩ := id y1_1
  have in5 : ¬ ((1 : Int32) < 0 ∨ cl5.slots.size ≤ ((1 : Int32)).toNatClampNeg) := inb_of S5 ⟨by decide, by decide⟩
  have at5 : cl5.slots[((1 : Int32)).toNatClampNeg]? = some (.ref w1) := H5.at in5 rfl
  obtain ⟨T6, X6, e6, st6⟩ := getS2 X4 hx hZ hown (host := "") (Or.inl (hw _ (List.mem_of_getElem? (i := 28) rfl))) Via.refl e4 (S_w0.ext O1.2) (g := (mkF m 26 #[.val (.int lev), .val .null, .val (.ref b1), .val (.int (5 : Int32)), .val (.int (1 : Int32)), .val (.ref w1)] [(.ref w1)])) rfl (hb hby d2_26)
  obtain ⟨cq7, kq7, q7a, q7b, q7c⟩ := isOf hZ e6 (E_w1.ext O1.2)
  obtain ⟨_, _, ⟨T7, L7, k7, n7⟩, -, X7, ⟨Lc7, hQ7, l7, y7, z7⟩, st7⟩ := X6.virtualBack hx (y := (⟨"com/example/demarcate/demarcate/Isolation", "jdbcLevel", "()I"⟩ : MethodName)) (z := (⟨"com/example/demarcate/demarcate/Isolation", "jdbcLevel", "()I"⟩ : MethodName)) hown (mvT hZ (hw _ (List.mem_of_getElem? (i := 29) rfl))) (mvT hZ (hw _ (List.mem_of_getElem? (i := 30) rfl))) (notFace_of_selects (args := #[]) (mvT hZ (hw _ (List.mem_of_getElem? (i := 32) rfl)))) (mvT hZ (hw _ (List.mem_of_getElem? (i := 32) rfl))) (mvT hZ (hw _ (List.mem_of_getElem? (i := 31) rfl))) (by decide) (backOf (W := 0) (jl1 l Z a0 hw [] w0 w1 w2 w3 w4 wV kV wE w1 T1.heap n0 O1 S_w0 S_w1 S_w2 S_w3 S_w4 E_w0 E_w1 E_w2 E_w3 E_w4 F_w1 F_w2 F_w3 F_w4 S_wV E_wV A_wV S_wE E_wE F_wE ne_w1_w0 ne_w2_w0 ne_w3_w0 ne_w4_w0   (E_w1.ext O1.2) (F_w1.ext O1.2)) hZ (hw _ (List.mem_of_getElem? (i := 33) rfl)) (hw _ (List.mem_of_getElem? (i := 6) rfl)) (by decide) (by decide)) q7a q7c (g := (mkF m 34 #[.val (.int lev), .val .null, .val (.ref b1), .val (.int (5 : Int32)), .val (.int (1 : Int32)), .val (.ref w1)] [(.ref w1)])) rfl (by rw [hml]; rfl) (Steps.refl _) (argsL := []) (rest := []) (lenOf pd_0 rfl) rfl (by show 2 * 0 + _ ≤ _; exact Nat.le_of_eq rfl) (hb hby d2_34) (fun _ _ => ⟨rfl, e6, (by decide : 1 + 0 ≤ _), (by decide : 5 + 0 ≤ _)⟩)
  dsimp only [Pt.U, Pt.locs, Pt.cells, Pt.slots] at X7 l7 y7 z7 st7 hQ7
  subst l7 y7 z7
  obtain ⟨rfl, N7q, e7⟩ := hQ7
  have N7 := Fr.app N1 N7q
  obtain ⟨cl8, Ar8, q8, S8, M8, H8, G8⟩ := id y1_1
  have in8 : ¬ ((2 : Int32) < 0 ∨ cl8.slots.size ≤ ((2 : Int32)).toNatClampNeg) := inb_of S8 ⟨by decide, by decide⟩
  have at8 : cl8.slots[((2 : Int32)).toNatClampNeg]? = some (.ref w2) := H8.at in8 rfl
  obtain ⟨T9, X9, e9, st9⟩ := getS2 X7 hx hZ hown (host := "") (Or.inl (hw _ (List.mem_of_getElem? (i := 28) rfl))) Via.refl e7 (S_w0.ext O1.2) (g := (mkF m 26 #[.val (.int lev), .val .null, .val (.ref b1), .val (.int (5 : Int32)), .val (.int (2 : Int32)), .val (.ref w2)] [(.ref w2)])) rfl (hb hby d2_26)
  obtain ⟨cq10, kq10, q10a, q10b, q10c⟩ := isOf hZ e9 (E_w2.ext O1.2)
  obtain ⟨_, _, ⟨T10, L10, k10, n10⟩, -, X10, ⟨Lc10, hQ10, l10, y10, z10⟩, st10⟩ := X9.virtualBack hx (y := (⟨"com/example/demarcate/demarcate/Isolation", "jdbcLevel", "()I"⟩ : MethodName)) (z := (⟨"com/example/demarcate/demarcate/Isolation", "jdbcLevel", "()I"⟩ : MethodName)) hown (mvT hZ (hw _ (List.mem_of_getElem? (i := 29) rfl))) (mvT hZ (hw _ (List.mem_of_getElem? (i := 30) rfl))) (notFace_of_selects (args := #[]) (mvT hZ (hw _ (List.mem_of_getElem? (i := 32) rfl)))) (mvT hZ (hw _ (List.mem_of_getElem? (i := 32) rfl))) (mvT hZ (hw _ (List.mem_of_getElem? (i := 31) rfl))) (by decide) (backOf (W := 0) (jl2 l Z a0 hw [] w0 w1 w2 w3 w4 wV kV wE w2 T1.heap n0 O1 S_w0 S_w1 S_w2 S_w3 S_w4 E_w0 E_w1 E_w2 E_w3 E_w4 F_w1 F_w2 F_w3 F_w4 S_wV E_wV A_wV S_wE E_wE F_wE ne_w1_w0 ne_w2_w0 ne_w3_w0 ne_w4_w0   (E_w2.ext O1.2) (F_w2.ext O1.2)) hZ (hw _ (List.mem_of_getElem? (i := 33) rfl)) (hw _ (List.mem_of_getElem? (i := 6) rfl)) (by decide) (by decide)) q10a q10c (g := (mkF m 34 #[.val (.int lev), .val .null, .val (.ref b1), .val (.int (5 : Int32)), .val (.int (2 : Int32)), .val (.ref w2)] [(.ref w2)])) rfl (by rw [hml]; rfl) (Steps.refl _) (argsL := []) (rest := []) (lenOf pd_0 rfl) rfl (by show 2 * 0 + _ ≤ _; exact Nat.le_of_eq rfl) (hb hby d2_34) (fun _ _ => ⟨rfl, e9, (by decide : 1 + 0 ≤ _), (by decide : 5 + 0 ≤ _)⟩)
  dsimp only [Pt.U, Pt.locs, Pt.cells, Pt.slots] at X10 l10 y10 z10 st10 hQ10
  subst l10 y10 z10
  obtain ⟨rfl, N10q, e10⟩ := hQ10
  have N10 := Fr.app N7 N10q
  obtain ⟨cl11, Ar11, q11, S11, M11, H11, G11⟩ := id y1_1
  have in11 : ¬ ((3 : Int32) < 0 ∨ cl11.slots.size ≤ ((3 : Int32)).toNatClampNeg) := inb_of S11 ⟨by decide, by decide⟩
  have at11 : cl11.slots[((3 : Int32)).toNatClampNeg]? = some (.ref w3) := H11.at in11 rfl
  obtain ⟨T12, X12, e12, st12⟩ := getS2 X10 hx hZ hown (host := "") (Or.inl (hw _ (List.mem_of_getElem? (i := 28) rfl))) Via.refl e10 (S_w0.ext O1.2) (g := (mkF m 26 #[.val (.int lev), .val .null, .val (.ref b1), .val (.int (5 : Int32)), .val (.int (3 : Int32)), .val (.ref w3)] [(.ref w3)])) rfl (hb hby d2_26)
  obtain ⟨cq13, kq13, q13a, q13b, q13c⟩ := isOf hZ e12 (E_w3.ext O1.2)
  obtain ⟨_, _, ⟨T13, L13, k13, n13⟩, -, X13, ⟨Lc13, hQ13, l13, y13, z13⟩, st13⟩ := X12.virtualBack hx (y := (⟨"com/example/demarcate/demarcate/Isolation", "jdbcLevel", "()I"⟩ : MethodName)) (z := (⟨"com/example/demarcate/demarcate/Isolation", "jdbcLevel", "()I"⟩ : MethodName)) hown (mvT hZ (hw _ (List.mem_of_getElem? (i := 29) rfl))) (mvT hZ (hw _ (List.mem_of_getElem? (i := 30) rfl))) (notFace_of_selects (args := #[]) (mvT hZ (hw _ (List.mem_of_getElem? (i := 32) rfl)))) (mvT hZ (hw _ (List.mem_of_getElem? (i := 32) rfl))) (mvT hZ (hw _ (List.mem_of_getElem? (i := 31) rfl))) (by decide) (backOf (W := 0) (jl3 l Z a0 hw [] w0 w1 w2 w3 w4 wV kV wE w3 T1.heap n0 O1 S_w0 S_w1 S_w2 S_w3 S_w4 E_w0 E_w1 E_w2 E_w3 E_w4 F_w1 F_w2 F_w3 F_w4 S_wV E_wV A_wV S_wE E_wE F_wE ne_w1_w0 ne_w2_w0 ne_w3_w0 ne_w4_w0   (E_w3.ext O1.2) (F_w3.ext O1.2)) hZ (hw _ (List.mem_of_getElem? (i := 33) rfl)) (hw _ (List.mem_of_getElem? (i := 6) rfl)) (by decide) (by decide)) q13a q13c (g := (mkF m 34 #[.val (.int lev), .val .null, .val (.ref b1), .val (.int (5 : Int32)), .val (.int (3 : Int32)), .val (.ref w3)] [(.ref w3)])) rfl (by rw [hml]; rfl) (Steps.refl _) (argsL := []) (rest := []) (lenOf pd_0 rfl) rfl (by show 2 * 0 + _ ≤ _; exact Nat.le_of_eq rfl) (hb hby d2_34) (fun _ _ => ⟨rfl, e12, (by decide : 1 + 0 ≤ _), (by decide : 5 + 0 ≤ _)⟩)
  dsimp only [Pt.U, Pt.locs, Pt.cells, Pt.slots] at X13 l13 y13 z13 st13 hQ13
  subst l13 y13 z13
  obtain ⟨rfl, N13q, e13⟩ := hQ13
  have N13 := Fr.app N10 N13q
  obtain ⟨cl14, Ar14, q14, S14, M14, H14, G14⟩ := id y1_1
  have in14 : ¬ ((4 : Int32) < 0 ∨ cl14.slots.size ≤ ((4 : Int32)).toNatClampNeg) := inb_of S14 ⟨by decide, by decide⟩
  have at14 : cl14.slots[((4 : Int32)).toNatClampNeg]? = some (.ref w4) := H14.at in14 rfl
  obtain ⟨T15, X15, e15, st15⟩ := getS2 X13 hx hZ hown (host := "") (Or.inl (hw _ (List.mem_of_getElem? (i := 28) rfl))) Via.refl e13 (S_w0.ext O1.2) (g := (mkF m 26 #[.val (.int lev), .val .null, .val (.ref b1), .val (.int (5 : Int32)), .val (.int (4 : Int32)), .val (.ref w4)] [(.ref w4)])) rfl (hb hby d2_26)
  obtain ⟨cq16, kq16, q16a, q16b, q16c⟩ := isOf hZ e15 (E_w4.ext O1.2)
  obtain ⟨_, _, ⟨T16, L16, k16, n16⟩, -, X16, ⟨Lc16, hQ16, l16, y16, z16⟩, st16⟩ := X15.virtualBack hx (y := (⟨"com/example/demarcate/demarcate/Isolation", "jdbcLevel", "()I"⟩ : MethodName)) (z := (⟨"com/example/demarcate/demarcate/Isolation", "jdbcLevel", "()I"⟩ : MethodName)) hown (mvT hZ (hw _ (List.mem_of_getElem? (i := 29) rfl))) (mvT hZ (hw _ (List.mem_of_getElem? (i := 30) rfl))) (notFace_of_selects (args := #[]) (mvT hZ (hw _ (List.mem_of_getElem? (i := 32) rfl)))) (mvT hZ (hw _ (List.mem_of_getElem? (i := 32) rfl))) (mvT hZ (hw _ (List.mem_of_getElem? (i := 31) rfl))) (by decide) (backOf (W := 0) (jl4 l Z a0 hw [] w0 w1 w2 w3 w4 wV kV wE w4 T1.heap n0 O1 S_w0 S_w1 S_w2 S_w3 S_w4 E_w0 E_w1 E_w2 E_w3 E_w4 F_w1 F_w2 F_w3 F_w4 S_wV E_wV A_wV S_wE E_wE F_wE ne_w1_w0 ne_w2_w0 ne_w3_w0 ne_w4_w0   (E_w4.ext O1.2) (F_w4.ext O1.2)) hZ (hw _ (List.mem_of_getElem? (i := 33) rfl)) (hw _ (List.mem_of_getElem? (i := 6) rfl)) (by decide) (by decide)) q16a q16c (g := (mkF m 34 #[.val (.int lev), .val .null, .val (.ref b1), .val (.int (5 : Int32)), .val (.int (4 : Int32)), .val (.ref w4)] [(.ref w4)])) rfl (by rw [hml]; rfl) (Steps.refl _) (argsL := []) (rest := []) (lenOf pd_0 rfl) rfl (by show 2 * 0 + _ ≤ _; exact Nat.le_of_eq rfl) (hb hby d2_34) (fun _ _ => ⟨rfl, e15, (by decide : 1 + 0 ≤ _), (by decide : 5 + 0 ≤ _)⟩)
  dsimp only [Pt.U, Pt.locs, Pt.cells, Pt.slots] at X16 l16 y16 z16 st16 hQ16
  subst l16 y16 z16
  obtain ⟨rfl, N16q, e16⟩ := hQ16
  have N16 := Fr.app N13 N16q
  obtain ⟨_, _, ⟨T17, L17, k17, n17⟩, -, X17, ⟨Lc17, hQ17, l17, y17, z17⟩, st17⟩ := Jvm.LawKit.callS X16 hx (y := (⟨"java/util/Optional", "ofNullable", "(Ljava/lang/Object;)Ljava/util/Optional;"⟩ : MethodName)) hown (mvT hZ (hw _ (List.mem_of_getElem? (i := 43) rfl))) (mvT hZ (hw _ (List.mem_of_getElem? (i := 44) rfl))) (mvT hZ (hw _ (List.mem_of_getElem? (i := 45) rfl))) (mvT hZ (hw _ (List.mem_of_getElem? (i := 46) rfl))) (by decide) (backOf (W := 0) (onN l Z a0 hw [] w0 w1 w2 w3 w4 wV kV wE  T1.heap n0 O1 S_w0 S_w1 S_w2 S_w3 S_w4 E_w0 E_w1 E_w2 E_w3 E_w4 F_w1 F_w2 F_w3 F_w4 S_wV E_wV A_wV S_wE E_wE F_wE ne_w1_w0 ne_w2_w0 ne_w3_w0 ne_w4_w0   ) hZ (hw _ (List.mem_of_getElem? (i := 46) rfl)) (hw _ (List.mem_of_getElem? (i := 45) rfl)) (by decide) (by decide)) (g := (mkF m 54 #[.val (.int lev), .val .null, .val (.ref b1), .val (.int (5 : Int32)), .val (.int (5 : Int32)), .val (.ref w4)] [.null])) rfl (by rw [hml]; rfl) (argsL := [.null]) (rest := []) (lenOf pd_3 rfl) rfl (by show 2 * 0 + _ ≤ _; exact Nat.le_of_eq rfl) (hb hby d2_54) (fun _ _ => ⟨rfl, e16, (by decide : 1 + 0 ≤ _), (by decide : 5 + 0 ≤ _)⟩)
  dsimp only [Pt.U, Pt.locs, Pt.cells, Pt.slots] at X17 l17 y17 z17 st17 hQ17
  subst l17 y17 z17
  obtain ⟨rfl, N17q, e17⟩ := hQ17
  have N17 := Fr.app N16 N17q
  have R18 : ∀ t, Steps p.tables e below (T17.setTop (mkF m 57 #[.val (.int lev), .val .null, .val (.ref b1), .val (.int (5 : Int32)), .val (.int (5 : Int32)), .val (.ref w4)] [(.ref wE)])) t → Steps p.tables e below (s₁.setTop (entryFrame m #[(.int lev)] 6)) t := by
    intro t k
    refine R0 t ?_
    show Steps p.tables e below (s₁.setTop (mkF m 0 #[.val (.int lev), .unset, .unset, .unset, .unset, .unset] [])) t
    refine XS.aconstNull X0.here hx rfl (hb hby d2_0) ?_
    show Steps p.tables e below (s₁.setTop (mkF m 1 #[.val (.int lev), .unset, .unset, .unset, .unset, .unset] [.null])) t
    refine XS.astoreN X0.here hx rfl (hb hby d2_1) rfl rfl (l' := #[.val (.int lev), .val .null, .unset, .unset, .unset, .unset]) rfl ?_
    show Steps p.tables e below (s₁.setTop (mkF m 2 #[.val (.int lev), .val .null, .unset, .unset, .unset, .unset] [])) t
    refine st1 _ ?_
    show Steps p.tables e below (T1.setTop (mkF m 5 #[.val (.int lev), .val .null, .unset, .unset, .unset, .unset] [(.ref b1)])) t
    refine XS.astoreN X1.here hx rfl (hb hby d2_5) rfl rfl (l' := #[.val (.int lev), .val .null, .val (.ref b1), .unset, .unset, .unset]) rfl ?_
    show Steps p.tables e below (T1.setTop (mkF m 6 #[.val (.int lev), .val .null, .val (.ref b1), .unset, .unset, .unset] [])) t
    refine XS.aloadN X1.here hx rfl (hb hby d2_6) rfl rfl ?_
    show Steps p.tables e below (T1.setTop (mkF m 7 #[.val (.int lev), .val .null, .val (.ref b1), .unset, .unset, .unset] [(.ref b1)])) t
    refine X1.arraylength hx Ar2.1 (State.isArrayOf_alike hZ.alike Ar2.2.1) (g := (mkF m 7 #[.val (.int lev), .val .null, .val (.ref b1), .unset, .unset, .unset] [(.ref b1)])) rfl rfl (hb hby d2_7) _ ?_
    rw [len_of S2 M2]
    show Steps p.tables e below (T1.setTop (mkF m 8 #[.val (.int lev), .val .null, .val (.ref b1), .unset, .unset, .unset] [(.int (5 : Int32))])) t
    refine XS.istoreN X1.here hx rfl (hb hby d2_8) rfl (l' := #[.val (.int lev), .val .null, .val (.ref b1), .val (.int (5 : Int32)), .unset, .unset]) rfl ?_
    show Steps p.tables e below (T1.setTop (mkF m 9 #[.val (.int lev), .val .null, .val (.ref b1), .val (.int (5 : Int32)), .unset, .unset] [])) t
    refine XS.iconst X1.here hx rfl (hb hby d2_9) ?_
    show Steps p.tables e below (T1.setTop (mkF m 10 #[.val (.int lev), .val .null, .val (.ref b1), .val (.int (5 : Int32)), .unset, .unset] [(.int (0 : Int32))])) t
    refine XS.istore X1.here hx rfl (hb hby d2_10) rfl (l' := #[.val (.int lev), .val .null, .val (.ref b1), .val (.int (5 : Int32)), .val (.int (0 : Int32)), .unset]) rfl ?_
    show Steps p.tables e below (T1.setTop (mkF m 12 #[.val (.int lev), .val .null, .val (.ref b1), .val (.int (5 : Int32)), .val (.int (0 : Int32)), .unset] [])) t
    refine XS.iload X1.here hx rfl (hb hby d2_12) rfl ?_
    show Steps p.tables e below (T1.setTop (mkF m 14 #[.val (.int lev), .val .null, .val (.ref b1), .val (.int (5 : Int32)), .val (.int (0 : Int32)), .unset] [(.int (0 : Int32))])) t
    refine XS.iloadN X1.here hx rfl (hb hby d2_14) rfl ?_
    show Steps p.tables e below (T1.setTop (mkF m 15 #[.val (.int lev), .val .null, .val (.ref b1), .val (.int (5 : Int32)), .val (.int (0 : Int32)), .unset] [(.int (5 : Int32)), (.int (0 : Int32))])) t
    refine XS.icmpNo X1.here hx rfl (hb hby d2_15) rfl (tlt ((by decide) : (0 : Int32) < (5 : Int32))).2.1 ?_
    show Steps p.tables e below (T1.setTop (mkF m 18 #[.val (.int lev), .val .null, .val (.ref b1), .val (.int (5 : Int32)), .val (.int (0 : Int32)), .unset] [])) t
    refine XS.aloadN X1.here hx rfl (hb hby d2_18) rfl rfl ?_
    show Steps p.tables e below (T1.setTop (mkF m 19 #[.val (.int lev), .val .null, .val (.ref b1), .val (.int (5 : Int32)), .val (.int (0 : Int32)), .unset] [(.ref b1)])) t
    refine XS.iload X1.here hx rfl (hb hby d2_19) rfl ?_
    show Steps p.tables e below (T1.setTop (mkF m 21 #[.val (.int lev), .val .null, .val (.ref b1), .val (.int (5 : Int32)), .val (.int (0 : Int32)), .unset] [(.int (0 : Int32)), (.ref b1)])) t
    refine X1.aaload hx (j := (0 : Int32)) (v := (.ref w0)) Ar3.1 (State.isArrayOf_alike hZ.alike Ar3.2.1) rfl Ar3.2.2 in3 at3 (g := (mkF m 21 #[.val (.int lev), .val .null, .val (.ref b1), .val (.int (5 : Int32)), .val (.int (0 : Int32)), .unset] [(.int (0 : Int32)), (.ref b1)])) rfl rfl (hb hby d2_21) _ ?_
    show Steps p.tables e below (T1.setTop (mkF m 22 #[.val (.int lev), .val .null, .val (.ref b1), .val (.int (5 : Int32)), .val (.int (0 : Int32)), .unset] [(.ref w0)])) t
    refine XS.astore X1.here hx rfl (hb hby d2_22) rfl rfl (l' := #[.val (.int lev), .val .null, .val (.ref b1), .val (.int (5 : Int32)), .val (.int (0 : Int32)), .val (.ref w0)]) rfl ?_
    show Steps p.tables e below (T1.setTop (mkF m 24 #[.val (.int lev), .val .null, .val (.ref b1), .val (.int (5 : Int32)), .val (.int (0 : Int32)), .val (.ref w0)] [])) t
    refine XS.aload X1.here hx rfl (hb hby d2_24) rfl rfl ?_
    show Steps p.tables e below (T1.setTop (mkF m 26 #[.val (.int lev), .val .null, .val (.ref b1), .val (.int (5 : Int32)), .val (.int (0 : Int32)), .val (.ref w0)] [(.ref w0)])) t
    refine st4 _ ?_
    show Steps p.tables e below (T4.setTop (mkF m 29 #[.val (.int lev), .val .null, .val (.ref b1), .val (.int (5 : Int32)), .val (.int (0 : Int32)), .val (.ref w0)] [(.ref w0), (.ref w0)])) t
    refine Jvm.RoadKit.acmp (g := (mkF m 29 #[.val (.int lev), .val .null, .val (.ref b1), .val (.int (5 : Int32)), .val (.int (0 : Int32)), .val (.ref w0)] [(.ref w0), (.ref w0)])) X4 hx rfl rfl rfl (pc0 := 29) (pc' := 47) (same := true) rfl (hb hby d2_29) rfl (decide_eq_true (congrArg Value.ref rfl)) (by decide) (by decide) ?_
    show Steps p.tables e below (T4.setTop (mkF m 47 #[.val (.int lev), .val .null, .val (.ref b1), .val (.int (5 : Int32)), .val (.int (0 : Int32)), .val (.ref w0)] [])) t
    refine XS.iinc X4.here hx rfl (hb hby d2_47) rfl (l' := #[.val (.int lev), .val .null, .val (.ref b1), .val (.int (5 : Int32)), .val (.int (1 : Int32)), .val (.ref w0)]) rfl ?_
    show Steps p.tables e below (T4.setTop (mkF m 50 #[.val (.int lev), .val .null, .val (.ref b1), .val (.int (5 : Int32)), .val (.int (1 : Int32)), .val (.ref w0)] [])) t
    refine XS.goto X4.here hx rfl (pc0 := 50) (pc' := 12) rfl (hb hby d2_50) (by decide) (by decide) ?_
    show Steps p.tables e below (T4.setTop (mkF m 12 #[.val (.int lev), .val .null, .val (.ref b1), .val (.int (5 : Int32)), .val (.int (1 : Int32)), .val (.ref w0)] [])) t
    refine XS.iload X4.here hx rfl (hb hby d2_12) rfl ?_
    show Steps p.tables e below (T4.setTop (mkF m 14 #[.val (.int lev), .val .null, .val (.ref b1), .val (.int (5 : Int32)), .val (.int (1 : Int32)), .val (.ref w0)] [(.int (1 : Int32))])) t
    refine XS.iloadN X4.here hx rfl (hb hby d2_14) rfl ?_
    show Steps p.tables e below (T4.setTop (mkF m 15 #[.val (.int lev), .val .null, .val (.ref b1), .val (.int (5 : Int32)), .val (.int (1 : Int32)), .val (.ref w0)] [(.int (5 : Int32)), (.int (1 : Int32))])) t
    refine XS.icmpNo X4.here hx rfl (hb hby d2_15) rfl (tlt ((by decide) : (1 : Int32) < (5 : Int32))).2.1 ?_
    show Steps p.tables e below (T4.setTop (mkF m 18 #[.val (.int lev), .val .null, .val (.ref b1), .val (.int (5 : Int32)), .val (.int (1 : Int32)), .val (.ref w0)] [])) t
    refine XS.aloadN X4.here hx rfl (hb hby d2_18) rfl rfl ?_
    show Steps p.tables e below (T4.setTop (mkF m 19 #[.val (.int lev), .val .null, .val (.ref b1), .val (.int (5 : Int32)), .val (.int (1 : Int32)), .val (.ref w0)] [(.ref b1)])) t
    refine XS.iload X4.here hx rfl (hb hby d2_19) rfl ?_
    show Steps p.tables e below (T4.setTop (mkF m 21 #[.val (.int lev), .val .null, .val (.ref b1), .val (.int (5 : Int32)), .val (.int (1 : Int32)), .val (.ref w0)] [(.int (1 : Int32)), (.ref b1)])) t
    refine X4.aaload hx (j := (1 : Int32)) (v := (.ref w1)) (by rw [e4]; exact Ar5.1) (State.isArrayOf_alike hZ.alike Ar5.2.1) rfl Ar5.2.2 in5 at5 (g := (mkF m 21 #[.val (.int lev), .val .null, .val (.ref b1), .val (.int (5 : Int32)), .val (.int (1 : Int32)), .val (.ref w0)] [(.int (1 : Int32)), (.ref b1)])) rfl rfl (hb hby d2_21) _ ?_
    show Steps p.tables e below (T4.setTop (mkF m 22 #[.val (.int lev), .val .null, .val (.ref b1), .val (.int (5 : Int32)), .val (.int (1 : Int32)), .val (.ref w0)] [(.ref w1)])) t
    refine XS.astore X4.here hx rfl (hb hby d2_22) rfl rfl (l' := #[.val (.int lev), .val .null, .val (.ref b1), .val (.int (5 : Int32)), .val (.int (1 : Int32)), .val (.ref w1)]) rfl ?_
    show Steps p.tables e below (T4.setTop (mkF m 24 #[.val (.int lev), .val .null, .val (.ref b1), .val (.int (5 : Int32)), .val (.int (1 : Int32)), .val (.ref w1)] [])) t
    refine XS.aload X4.here hx rfl (hb hby d2_24) rfl rfl ?_
    show Steps p.tables e below (T4.setTop (mkF m 26 #[.val (.int lev), .val .null, .val (.ref b1), .val (.int (5 : Int32)), .val (.int (1 : Int32)), .val (.ref w1)] [(.ref w1)])) t
    refine st6 _ ?_
    show Steps p.tables e below (T6.setTop (mkF m 29 #[.val (.int lev), .val .null, .val (.ref b1), .val (.int (5 : Int32)), .val (.int (1 : Int32)), .val (.ref w1)] [(.ref w0), (.ref w1)])) t
    refine Jvm.RoadKit.acmp (g := (mkF m 29 #[.val (.int lev), .val .null, .val (.ref b1), .val (.int (5 : Int32)), .val (.int (1 : Int32)), .val (.ref w1)] [(.ref w0), (.ref w1)])) X6 hx rfl rfl rfl (pc0 := 29) (pc' := 32) (same := false) rfl (hb hby d2_29) rfl (decide_eq_false (fun q => ne_w1_w0 (Value.ref.inj q))) (by decide) (by decide) ?_
    show Steps p.tables e below (T6.setTop (mkF m 32 #[.val (.int lev), .val .null, .val (.ref b1), .val (.int (5 : Int32)), .val (.int (1 : Int32)), .val (.ref w1)] [])) t
    refine XS.aload X6.here hx rfl (hb hby d2_32) rfl rfl ?_
    show Steps p.tables e below (T6.setTop (mkF m 34 #[.val (.int lev), .val .null, .val (.ref b1), .val (.int (5 : Int32)), .val (.int (1 : Int32)), .val (.ref w1)] [(.ref w1)])) t
    refine st7.trans ?_
    show Steps p.tables e below (T7.setTop (mkF m 37 #[.val (.int lev), .val .null, .val (.ref b1), .val (.int (5 : Int32)), .val (.int (1 : Int32)), .val (.ref w1)] [(.int (1 : Int32))])) t
    refine XS.iloadN X7.here hx rfl (hb hby d2_37) rfl ?_
    show Steps p.tables e below (T7.setTop (mkF m 38 #[.val (.int lev), .val .null, .val (.ref b1), .val (.int (5 : Int32)), .val (.int (1 : Int32)), .val (.ref w1)] [(.int lev), (.int (1 : Int32))])) t
    refine XS.icmpYes X7.here hx rfl (pc0 := 38) (pc' := 47) rfl (hb hby d2_38) rfl (feq (hq0 : ¬ ((1 : Int32) = lev))).2 (by decide) (by decide) ?_
    show Steps p.tables e below (T7.setTop (mkF m 47 #[.val (.int lev), .val .null, .val (.ref b1), .val (.int (5 : Int32)), .val (.int (1 : Int32)), .val (.ref w1)] [])) t
    refine XS.iinc X7.here hx rfl (hb hby d2_47) rfl (l' := #[.val (.int lev), .val .null, .val (.ref b1), .val (.int (5 : Int32)), .val (.int (2 : Int32)), .val (.ref w1)]) rfl ?_
    show Steps p.tables e below (T7.setTop (mkF m 50 #[.val (.int lev), .val .null, .val (.ref b1), .val (.int (5 : Int32)), .val (.int (2 : Int32)), .val (.ref w1)] [])) t
    refine XS.goto X7.here hx rfl (pc0 := 50) (pc' := 12) rfl (hb hby d2_50) (by decide) (by decide) ?_
    show Steps p.tables e below (T7.setTop (mkF m 12 #[.val (.int lev), .val .null, .val (.ref b1), .val (.int (5 : Int32)), .val (.int (2 : Int32)), .val (.ref w1)] [])) t
    refine XS.iload X7.here hx rfl (hb hby d2_12) rfl ?_
    show Steps p.tables e below (T7.setTop (mkF m 14 #[.val (.int lev), .val .null, .val (.ref b1), .val (.int (5 : Int32)), .val (.int (2 : Int32)), .val (.ref w1)] [(.int (2 : Int32))])) t
    refine XS.iloadN X7.here hx rfl (hb hby d2_14) rfl ?_
    show Steps p.tables e below (T7.setTop (mkF m 15 #[.val (.int lev), .val .null, .val (.ref b1), .val (.int (5 : Int32)), .val (.int (2 : Int32)), .val (.ref w1)] [(.int (5 : Int32)), (.int (2 : Int32))])) t
    refine XS.icmpNo X7.here hx rfl (hb hby d2_15) rfl (tlt ((by decide) : (2 : Int32) < (5 : Int32))).2.1 ?_
    show Steps p.tables e below (T7.setTop (mkF m 18 #[.val (.int lev), .val .null, .val (.ref b1), .val (.int (5 : Int32)), .val (.int (2 : Int32)), .val (.ref w1)] [])) t
    refine XS.aloadN X7.here hx rfl (hb hby d2_18) rfl rfl ?_
    show Steps p.tables e below (T7.setTop (mkF m 19 #[.val (.int lev), .val .null, .val (.ref b1), .val (.int (5 : Int32)), .val (.int (2 : Int32)), .val (.ref w1)] [(.ref b1)])) t
    refine XS.iload X7.here hx rfl (hb hby d2_19) rfl ?_
    show Steps p.tables e below (T7.setTop (mkF m 21 #[.val (.int lev), .val .null, .val (.ref b1), .val (.int (5 : Int32)), .val (.int (2 : Int32)), .val (.ref w1)] [(.int (2 : Int32)), (.ref b1)])) t
    refine X7.aaload hx (j := (2 : Int32)) (v := (.ref w2)) (by rw [e7]; exact Ar8.1) (State.isArrayOf_alike hZ.alike Ar8.2.1) rfl Ar8.2.2 in8 at8 (g := (mkF m 21 #[.val (.int lev), .val .null, .val (.ref b1), .val (.int (5 : Int32)), .val (.int (2 : Int32)), .val (.ref w1)] [(.int (2 : Int32)), (.ref b1)])) rfl rfl (hb hby d2_21) _ ?_
    show Steps p.tables e below (T7.setTop (mkF m 22 #[.val (.int lev), .val .null, .val (.ref b1), .val (.int (5 : Int32)), .val (.int (2 : Int32)), .val (.ref w1)] [(.ref w2)])) t
    refine XS.astore X7.here hx rfl (hb hby d2_22) rfl rfl (l' := #[.val (.int lev), .val .null, .val (.ref b1), .val (.int (5 : Int32)), .val (.int (2 : Int32)), .val (.ref w2)]) rfl ?_
    show Steps p.tables e below (T7.setTop (mkF m 24 #[.val (.int lev), .val .null, .val (.ref b1), .val (.int (5 : Int32)), .val (.int (2 : Int32)), .val (.ref w2)] [])) t
    refine XS.aload X7.here hx rfl (hb hby d2_24) rfl rfl ?_
    show Steps p.tables e below (T7.setTop (mkF m 26 #[.val (.int lev), .val .null, .val (.ref b1), .val (.int (5 : Int32)), .val (.int (2 : Int32)), .val (.ref w2)] [(.ref w2)])) t
    refine st9 _ ?_
    show Steps p.tables e below (T9.setTop (mkF m 29 #[.val (.int lev), .val .null, .val (.ref b1), .val (.int (5 : Int32)), .val (.int (2 : Int32)), .val (.ref w2)] [(.ref w0), (.ref w2)])) t
    refine Jvm.RoadKit.acmp (g := (mkF m 29 #[.val (.int lev), .val .null, .val (.ref b1), .val (.int (5 : Int32)), .val (.int (2 : Int32)), .val (.ref w2)] [(.ref w0), (.ref w2)])) X9 hx rfl rfl rfl (pc0 := 29) (pc' := 32) (same := false) rfl (hb hby d2_29) rfl (decide_eq_false (fun q => ne_w2_w0 (Value.ref.inj q))) (by decide) (by decide) ?_
    show Steps p.tables e below (T9.setTop (mkF m 32 #[.val (.int lev), .val .null, .val (.ref b1), .val (.int (5 : Int32)), .val (.int (2 : Int32)), .val (.ref w2)] [])) t
    refine XS.aload X9.here hx rfl (hb hby d2_32) rfl rfl ?_
    show Steps p.tables e below (T9.setTop (mkF m 34 #[.val (.int lev), .val .null, .val (.ref b1), .val (.int (5 : Int32)), .val (.int (2 : Int32)), .val (.ref w2)] [(.ref w2)])) t
    refine st10.trans ?_
    show Steps p.tables e below (T10.setTop (mkF m 37 #[.val (.int lev), .val .null, .val (.ref b1), .val (.int (5 : Int32)), .val (.int (2 : Int32)), .val (.ref w2)] [(.int (2 : Int32))])) t
    refine XS.iloadN X10.here hx rfl (hb hby d2_37) rfl ?_
    show Steps p.tables e below (T10.setTop (mkF m 38 #[.val (.int lev), .val .null, .val (.ref b1), .val (.int (5 : Int32)), .val (.int (2 : Int32)), .val (.ref w2)] [(.int lev), (.int (2 : Int32))])) t
    refine XS.icmpYes X10.here hx rfl (pc0 := 38) (pc' := 47) rfl (hb hby d2_38) rfl (feq (hq1 : ¬ ((2 : Int32) = lev))).2 (by decide) (by decide) ?_
    show Steps p.tables e below (T10.setTop (mkF m 47 #[.val (.int lev), .val .null, .val (.ref b1), .val (.int (5 : Int32)), .val (.int (2 : Int32)), .val (.ref w2)] [])) t
    refine XS.iinc X10.here hx rfl (hb hby d2_47) rfl (l' := #[.val (.int lev), .val .null, .val (.ref b1), .val (.int (5 : Int32)), .val (.int (3 : Int32)), .val (.ref w2)]) rfl ?_
    show Steps p.tables e below (T10.setTop (mkF m 50 #[.val (.int lev), .val .null, .val (.ref b1), .val (.int (5 : Int32)), .val (.int (3 : Int32)), .val (.ref w2)] [])) t
    refine XS.goto X10.here hx rfl (pc0 := 50) (pc' := 12) rfl (hb hby d2_50) (by decide) (by decide) ?_
    show Steps p.tables e below (T10.setTop (mkF m 12 #[.val (.int lev), .val .null, .val (.ref b1), .val (.int (5 : Int32)), .val (.int (3 : Int32)), .val (.ref w2)] [])) t
    refine XS.iload X10.here hx rfl (hb hby d2_12) rfl ?_
    show Steps p.tables e below (T10.setTop (mkF m 14 #[.val (.int lev), .val .null, .val (.ref b1), .val (.int (5 : Int32)), .val (.int (3 : Int32)), .val (.ref w2)] [(.int (3 : Int32))])) t
    refine XS.iloadN X10.here hx rfl (hb hby d2_14) rfl ?_
    show Steps p.tables e below (T10.setTop (mkF m 15 #[.val (.int lev), .val .null, .val (.ref b1), .val (.int (5 : Int32)), .val (.int (3 : Int32)), .val (.ref w2)] [(.int (5 : Int32)), (.int (3 : Int32))])) t
    refine XS.icmpNo X10.here hx rfl (hb hby d2_15) rfl (tlt ((by decide) : (3 : Int32) < (5 : Int32))).2.1 ?_
    show Steps p.tables e below (T10.setTop (mkF m 18 #[.val (.int lev), .val .null, .val (.ref b1), .val (.int (5 : Int32)), .val (.int (3 : Int32)), .val (.ref w2)] [])) t
    refine XS.aloadN X10.here hx rfl (hb hby d2_18) rfl rfl ?_
    show Steps p.tables e below (T10.setTop (mkF m 19 #[.val (.int lev), .val .null, .val (.ref b1), .val (.int (5 : Int32)), .val (.int (3 : Int32)), .val (.ref w2)] [(.ref b1)])) t
    refine XS.iload X10.here hx rfl (hb hby d2_19) rfl ?_
    show Steps p.tables e below (T10.setTop (mkF m 21 #[.val (.int lev), .val .null, .val (.ref b1), .val (.int (5 : Int32)), .val (.int (3 : Int32)), .val (.ref w2)] [(.int (3 : Int32)), (.ref b1)])) t
    refine X10.aaload hx (j := (3 : Int32)) (v := (.ref w3)) (by rw [e10]; exact Ar11.1) (State.isArrayOf_alike hZ.alike Ar11.2.1) rfl Ar11.2.2 in11 at11 (g := (mkF m 21 #[.val (.int lev), .val .null, .val (.ref b1), .val (.int (5 : Int32)), .val (.int (3 : Int32)), .val (.ref w2)] [(.int (3 : Int32)), (.ref b1)])) rfl rfl (hb hby d2_21) _ ?_
    show Steps p.tables e below (T10.setTop (mkF m 22 #[.val (.int lev), .val .null, .val (.ref b1), .val (.int (5 : Int32)), .val (.int (3 : Int32)), .val (.ref w2)] [(.ref w3)])) t
    refine XS.astore X10.here hx rfl (hb hby d2_22) rfl rfl (l' := #[.val (.int lev), .val .null, .val (.ref b1), .val (.int (5 : Int32)), .val (.int (3 : Int32)), .val (.ref w3)]) rfl ?_
    show Steps p.tables e below (T10.setTop (mkF m 24 #[.val (.int lev), .val .null, .val (.ref b1), .val (.int (5 : Int32)), .val (.int (3 : Int32)), .val (.ref w3)] [])) t
    refine XS.aload X10.here hx rfl (hb hby d2_24) rfl rfl ?_
    show Steps p.tables e below (T10.setTop (mkF m 26 #[.val (.int lev), .val .null, .val (.ref b1), .val (.int (5 : Int32)), .val (.int (3 : Int32)), .val (.ref w3)] [(.ref w3)])) t
    refine st12 _ ?_
    show Steps p.tables e below (T12.setTop (mkF m 29 #[.val (.int lev), .val .null, .val (.ref b1), .val (.int (5 : Int32)), .val (.int (3 : Int32)), .val (.ref w3)] [(.ref w0), (.ref w3)])) t
    refine Jvm.RoadKit.acmp (g := (mkF m 29 #[.val (.int lev), .val .null, .val (.ref b1), .val (.int (5 : Int32)), .val (.int (3 : Int32)), .val (.ref w3)] [(.ref w0), (.ref w3)])) X12 hx rfl rfl rfl (pc0 := 29) (pc' := 32) (same := false) rfl (hb hby d2_29) rfl (decide_eq_false (fun q => ne_w3_w0 (Value.ref.inj q))) (by decide) (by decide) ?_
    show Steps p.tables e below (T12.setTop (mkF m 32 #[.val (.int lev), .val .null, .val (.ref b1), .val (.int (5 : Int32)), .val (.int (3 : Int32)), .val (.ref w3)] [])) t
    refine XS.aload X12.here hx rfl (hb hby d2_32) rfl rfl ?_
    show Steps p.tables e below (T12.setTop (mkF m 34 #[.val (.int lev), .val .null, .val (.ref b1), .val (.int (5 : Int32)), .val (.int (3 : Int32)), .val (.ref w3)] [(.ref w3)])) t
    refine st13.trans ?_
    show Steps p.tables e below (T13.setTop (mkF m 37 #[.val (.int lev), .val .null, .val (.ref b1), .val (.int (5 : Int32)), .val (.int (3 : Int32)), .val (.ref w3)] [(.int (4 : Int32))])) t
    refine XS.iloadN X13.here hx rfl (hb hby d2_37) rfl ?_
    show Steps p.tables e below (T13.setTop (mkF m 38 #[.val (.int lev), .val .null, .val (.ref b1), .val (.int (5 : Int32)), .val (.int (3 : Int32)), .val (.ref w3)] [(.int lev), (.int (4 : Int32))])) t
    refine XS.icmpYes X13.here hx rfl (pc0 := 38) (pc' := 47) rfl (hb hby d2_38) rfl (feq (hq2 : ¬ ((4 : Int32) = lev))).2 (by decide) (by decide) ?_
    show Steps p.tables e below (T13.setTop (mkF m 47 #[.val (.int lev), .val .null, .val (.ref b1), .val (.int (5 : Int32)), .val (.int (3 : Int32)), .val (.ref w3)] [])) t
    refine XS.iinc X13.here hx rfl (hb hby d2_47) rfl (l' := #[.val (.int lev), .val .null, .val (.ref b1), .val (.int (5 : Int32)), .val (.int (4 : Int32)), .val (.ref w3)]) rfl ?_
    show Steps p.tables e below (T13.setTop (mkF m 50 #[.val (.int lev), .val .null, .val (.ref b1), .val (.int (5 : Int32)), .val (.int (4 : Int32)), .val (.ref w3)] [])) t
    refine XS.goto X13.here hx rfl (pc0 := 50) (pc' := 12) rfl (hb hby d2_50) (by decide) (by decide) ?_
    show Steps p.tables e below (T13.setTop (mkF m 12 #[.val (.int lev), .val .null, .val (.ref b1), .val (.int (5 : Int32)), .val (.int (4 : Int32)), .val (.ref w3)] [])) t
    refine XS.iload X13.here hx rfl (hb hby d2_12) rfl ?_
    show Steps p.tables e below (T13.setTop (mkF m 14 #[.val (.int lev), .val .null, .val (.ref b1), .val (.int (5 : Int32)), .val (.int (4 : Int32)), .val (.ref w3)] [(.int (4 : Int32))])) t
    refine XS.iloadN X13.here hx rfl (hb hby d2_14) rfl ?_
    show Steps p.tables e below (T13.setTop (mkF m 15 #[.val (.int lev), .val .null, .val (.ref b1), .val (.int (5 : Int32)), .val (.int (4 : Int32)), .val (.ref w3)] [(.int (5 : Int32)), (.int (4 : Int32))])) t
    refine XS.icmpNo X13.here hx rfl (hb hby d2_15) rfl (tlt ((by decide) : (4 : Int32) < (5 : Int32))).2.1 ?_
    show Steps p.tables e below (T13.setTop (mkF m 18 #[.val (.int lev), .val .null, .val (.ref b1), .val (.int (5 : Int32)), .val (.int (4 : Int32)), .val (.ref w3)] [])) t
    refine XS.aloadN X13.here hx rfl (hb hby d2_18) rfl rfl ?_
    show Steps p.tables e below (T13.setTop (mkF m 19 #[.val (.int lev), .val .null, .val (.ref b1), .val (.int (5 : Int32)), .val (.int (4 : Int32)), .val (.ref w3)] [(.ref b1)])) t
    refine XS.iload X13.here hx rfl (hb hby d2_19) rfl ?_
    show Steps p.tables e below (T13.setTop (mkF m 21 #[.val (.int lev), .val .null, .val (.ref b1), .val (.int (5 : Int32)), .val (.int (4 : Int32)), .val (.ref w3)] [(.int (4 : Int32)), (.ref b1)])) t
    refine X13.aaload hx (j := (4 : Int32)) (v := (.ref w4)) (by rw [e13]; exact Ar14.1) (State.isArrayOf_alike hZ.alike Ar14.2.1) rfl Ar14.2.2 in14 at14 (g := (mkF m 21 #[.val (.int lev), .val .null, .val (.ref b1), .val (.int (5 : Int32)), .val (.int (4 : Int32)), .val (.ref w3)] [(.int (4 : Int32)), (.ref b1)])) rfl rfl (hb hby d2_21) _ ?_
    show Steps p.tables e below (T13.setTop (mkF m 22 #[.val (.int lev), .val .null, .val (.ref b1), .val (.int (5 : Int32)), .val (.int (4 : Int32)), .val (.ref w3)] [(.ref w4)])) t
    refine XS.astore X13.here hx rfl (hb hby d2_22) rfl rfl (l' := #[.val (.int lev), .val .null, .val (.ref b1), .val (.int (5 : Int32)), .val (.int (4 : Int32)), .val (.ref w4)]) rfl ?_
    show Steps p.tables e below (T13.setTop (mkF m 24 #[.val (.int lev), .val .null, .val (.ref b1), .val (.int (5 : Int32)), .val (.int (4 : Int32)), .val (.ref w4)] [])) t
    refine XS.aload X13.here hx rfl (hb hby d2_24) rfl rfl ?_
    show Steps p.tables e below (T13.setTop (mkF m 26 #[.val (.int lev), .val .null, .val (.ref b1), .val (.int (5 : Int32)), .val (.int (4 : Int32)), .val (.ref w4)] [(.ref w4)])) t
    refine st15 _ ?_
    show Steps p.tables e below (T15.setTop (mkF m 29 #[.val (.int lev), .val .null, .val (.ref b1), .val (.int (5 : Int32)), .val (.int (4 : Int32)), .val (.ref w4)] [(.ref w0), (.ref w4)])) t
    refine Jvm.RoadKit.acmp (g := (mkF m 29 #[.val (.int lev), .val .null, .val (.ref b1), .val (.int (5 : Int32)), .val (.int (4 : Int32)), .val (.ref w4)] [(.ref w0), (.ref w4)])) X15 hx rfl rfl rfl (pc0 := 29) (pc' := 32) (same := false) rfl (hb hby d2_29) rfl (decide_eq_false (fun q => ne_w4_w0 (Value.ref.inj q))) (by decide) (by decide) ?_
    show Steps p.tables e below (T15.setTop (mkF m 32 #[.val (.int lev), .val .null, .val (.ref b1), .val (.int (5 : Int32)), .val (.int (4 : Int32)), .val (.ref w4)] [])) t
    refine XS.aload X15.here hx rfl (hb hby d2_32) rfl rfl ?_
    show Steps p.tables e below (T15.setTop (mkF m 34 #[.val (.int lev), .val .null, .val (.ref b1), .val (.int (5 : Int32)), .val (.int (4 : Int32)), .val (.ref w4)] [(.ref w4)])) t
    refine st16.trans ?_
    show Steps p.tables e below (T16.setTop (mkF m 37 #[.val (.int lev), .val .null, .val (.ref b1), .val (.int (5 : Int32)), .val (.int (4 : Int32)), .val (.ref w4)] [(.int (8 : Int32))])) t
    refine XS.iloadN X16.here hx rfl (hb hby d2_37) rfl ?_
    show Steps p.tables e below (T16.setTop (mkF m 38 #[.val (.int lev), .val .null, .val (.ref b1), .val (.int (5 : Int32)), .val (.int (4 : Int32)), .val (.ref w4)] [(.int lev), (.int (8 : Int32))])) t
    refine XS.icmpYes X16.here hx rfl (pc0 := 38) (pc' := 47) rfl (hb hby d2_38) rfl (feq (hq3 : ¬ ((8 : Int32) = lev))).2 (by decide) (by decide) ?_
    show Steps p.tables e below (T16.setTop (mkF m 47 #[.val (.int lev), .val .null, .val (.ref b1), .val (.int (5 : Int32)), .val (.int (4 : Int32)), .val (.ref w4)] [])) t
    refine XS.iinc X16.here hx rfl (hb hby d2_47) rfl (l' := #[.val (.int lev), .val .null, .val (.ref b1), .val (.int (5 : Int32)), .val (.int (5 : Int32)), .val (.ref w4)]) rfl ?_
    show Steps p.tables e below (T16.setTop (mkF m 50 #[.val (.int lev), .val .null, .val (.ref b1), .val (.int (5 : Int32)), .val (.int (5 : Int32)), .val (.ref w4)] [])) t
    refine XS.goto X16.here hx rfl (pc0 := 50) (pc' := 12) rfl (hb hby d2_50) (by decide) (by decide) ?_
    show Steps p.tables e below (T16.setTop (mkF m 12 #[.val (.int lev), .val .null, .val (.ref b1), .val (.int (5 : Int32)), .val (.int (5 : Int32)), .val (.ref w4)] [])) t
    refine XS.iload X16.here hx rfl (hb hby d2_12) rfl ?_
    show Steps p.tables e below (T16.setTop (mkF m 14 #[.val (.int lev), .val .null, .val (.ref b1), .val (.int (5 : Int32)), .val (.int (5 : Int32)), .val (.ref w4)] [(.int (5 : Int32))])) t
    refine XS.iloadN X16.here hx rfl (hb hby d2_14) rfl ?_
    show Steps p.tables e below (T16.setTop (mkF m 15 #[.val (.int lev), .val .null, .val (.ref b1), .val (.int (5 : Int32)), .val (.int (5 : Int32)), .val (.ref w4)] [(.int (5 : Int32)), (.int (5 : Int32))])) t
    refine XS.icmpYes X16.here hx rfl (pc0 := 15) (pc' := 53) rfl (hb hby d2_15) rfl (flt ((by decide) : ¬ ((5 : Int32) < (5 : Int32)))).2.1 (by decide) (by decide) ?_
    show Steps p.tables e below (T16.setTop (mkF m 53 #[.val (.int lev), .val .null, .val (.ref b1), .val (.int (5 : Int32)), .val (.int (5 : Int32)), .val (.ref w4)] [])) t
    refine XS.aloadN X16.here hx rfl (hb hby d2_53) rfl rfl ?_
    show Steps p.tables e below (T16.setTop (mkF m 54 #[.val (.int lev), .val .null, .val (.ref b1), .val (.int (5 : Int32)), .val (.int (5 : Int32)), .val (.ref w4)] [.null])) t
    refine st17 _ ?_
    exact k
  obtain ⟨fs, hr, hrun, hended, hW, hsame⟩ := X17.leave (v := some (.ref wE)) (fun h => by rw [Bd.returns] at h; cases h)
  refine ⟨_, _, R18 _ ?_, hrun, hended, _, _, rfl, ?_, ⟨_, rfl⟩, hW, hsame.mono (by decide) (by decide)⟩
  · show Steps p.tables e below (T17.setTop (mkF m 57 #[.val (.int lev), .val .null, .val (.ref b1), .val (.int (5 : Int32)), .val (.int (5 : Int32)), .val (.ref w4)] [(.ref wE)])) _
    exact retOut X17 hx Bd.returns rfl (Or.inr (Or.inr (Or.inr (Or.inr ⟨rfl, rfl, rfl⟩)))) (hb hby d2_57) hr
  · show Q_oj4 Z w0 w1 w2 w3 w4 wV kV wE lev h0 n0 _ T17.heap _
    rw [e17]
    exact ⟨rfl, N17, K1⟩
theorem pd_4 : parseMethodDescriptor "(I)Lcom/example/demarcate/demarcate/Isolation;" = some ⟨[.int], some (.object "com/example/demarcate/demarcate/Isolation")⟩ := by decide +kernel
theorem pd_5 : parseMethodDescriptor "(I)Ljava/util/Optional;" = some ⟨[.int], some (.object "java/util/Optional")⟩ := by decide +kernel
theorem pd_6 : parseMethodDescriptor "()Z" = some ⟨[], some .boolean⟩ := by decide +kernel
theorem pd_7 : parseMethodDescriptor "()Ljava/lang/Object;" = some ⟨[], some (.object "java/lang/Object")⟩ := by decide +kernel
theorem ef_rm0 (m : MethodId) (xx : Int32) (sel : Int32) : entryFrame m #[(.int xx), (.int sel)] maxLocals = mkF m 0 #[.val (.int xx), .val (.int sel), .unset, .unset, .unset, .unset] [] := by first | (simp [entryFrame, mkF, argsToLocals, Value.category, maxLocals]; done) | rfl
def Q_rm0 (Z : State) (w0 : Addr) (w1 : Addr) (w2 : Addr) (w3 : Addr) (w4 : Addr) (wV : Addr) (kV : ClassId) (wE : Addr) (xx : Int32) (sel : Int32) (h0 : Heap) (n0 : Nat) (vv_ : Option Value) (hh_ : Heap) (LL_ : List Loc) : Prop := vv_ = some (.int (1 : Int32)) ∧ (Fr n0 LL_)
set_option maxRecDepth 65536 in
set_option maxHeartbeats 40000000 in
theorem rm0 (l : Launch) (Z : State) (a0 : Array Value) (hw : ∀ d ∈ tables_1, d.before a0 Z = true) (ws : List Jvm.Cond) (w0 : Addr) (w1 : Addr) (w2 : Addr) (w3 : Addr) (w4 : Addr) (wV : Addr) (kV : ClassId) (wE : Addr) (xx : Int32) (sel : Int32) (h0 : Heap) (n0 : Nat) (O0 : Old Z n0 h0) (S_w0 : Sta Z Z.heap "com/example/demarcate/demarcate/Isolation" "DEFAULT" "Lcom/example/demarcate/demarcate/Isolation;" (.ref w0)) (S_w1 : Sta Z Z.heap "com/example/demarcate/demarcate/Isolation" "READ_UNCOMMITTED" "Lcom/example/demarcate/demarcate/Isolation;" (.ref w1)) (S_w2 : Sta Z Z.heap "com/example/demarcate/demarcate/Isolation" "READ_COMMITTED" "Lcom/example/demarcate/demarcate/Isolation;" (.ref w2)) (S_w3 : Sta Z Z.heap "com/example/demarcate/demarcate/Isolation" "REPEATABLE_READ" "Lcom/example/demarcate/demarcate/Isolation;" (.ref w3)) (S_w4 : Sta Z Z.heap "com/example/demarcate/demarcate/Isolation" "SERIALIZABLE" "Lcom/example/demarcate/demarcate/Isolation;" (.ref w4)) (E_w0 : Exa Z Z.heap w0 "com/example/demarcate/demarcate/Isolation") (E_w1 : Exa Z Z.heap w1 "com/example/demarcate/demarcate/Isolation") (E_w2 : Exa Z Z.heap w2 "com/example/demarcate/demarcate/Isolation") (E_w3 : Exa Z Z.heap w3 "com/example/demarcate/demarcate/Isolation") (E_w4 : Exa Z Z.heap w4 "com/example/demarcate/demarcate/Isolation") (F_w1 : Fld Z Z.heap w1 "java/lang/Enum" "ordinal" "I" (.int (1 : Int32))) (F_w2 : Fld Z Z.heap w2 "java/lang/Enum" "ordinal" "I" (.int (2 : Int32))) (F_w3 : Fld Z Z.heap w3 "java/lang/Enum" "ordinal" "I" (.int (3 : Int32))) (F_w4 : Fld Z Z.heap w4 "java/lang/Enum" "ordinal" "I" (.int (4 : Int32))) (S_wV : Sta Z Z.heap "com/example/demarcate/demarcate/Isolation" "$VALUES" "[Lcom/example/demarcate/demarcate/Isolation;" (.ref wV)) (E_wV : Exa Z Z.heap wV "[Lcom/example/demarcate/demarcate/Isolation;") (A_wV : Arv Z Z.heap wV kV (.object "com/example/demarcate/demarcate/Isolation") (5 : Int32) [(.ref w0), (.ref w1), (.ref w2), (.ref w3), (.ref w4)] .null) (S_wE : Sta Z Z.heap "java/util/Optional" "EMPTY" "Ljava/util/Optional;" (.ref wE)) (E_wE : Exa Z Z.heap wE "java/util/Optional") (F_wE : Fld Z Z.heap wE "java/util/Optional" "value" "Ljava/lang/Object;" .null) (ne_w1_w0 : w1 ≠ w0) (ne_w2_w0 : w2 ≠ w0) (ne_w3_w0 : w3 ≠ w0) (ne_w4_w0 : w4 ≠ w0) :
    MetFree l x (head1 (Jvm.Cond.code x code maxLocals ret :: ws) room_1) (fun aa_ U_ => aa_ = #[(.int xx), (.int sel)] ∧ Z.Warmed39 U_.vm ∧ U_.heap = h0) (fun _ _ _ _ _ => True) (fun _ U_ oo_ V_ => ∃ vv_ LL_, oo_ = .returned vv_ ∧ Q_rm0 Z w0 w1 w2 w3 w4 wV kV wE xx sel h0 n0 vv_ V_.heap LL_ ∧ FrameEnd U_ oo_ V_ LL_ room_1.cells room_1.slots) := by
  refine MetFree.of_bodySF (plainFor_of_name pn_com_example_demarcate_demarcate_IsolationOfJdbcLevelPinLaw) hisR ?_
  intro p e s m args below meth c s₁ Bd hml0 hP hK
  obtain ⟨rfl, hZ, hh⟩ := hP
  have hx := Bd.exec
  have hby := Bd.bytes
  have hml : c.maxLocals = 6 := hml0
  have hown : s.vm.findClass "com/example/demarcate/demarcate/IsolationOfJdbcLevelPinLaw" = some m.cls := findClass_of_methodNamed Bd.named
  have hnm := (name_of_methodNamed Bd.named Bd.method).1
  have X0 : Stand p l e room_1 s m #[(.int xx), (.int sel)] below meth c s₁ [] 0 0 := Stand.of_body Bd
  have e0 : s₁.heap = h0 := by rw [← hh, Bd.state]; rfl
  have N0 := Fr.nil n0
  have Z0 : n0 ≤ h0.size := O0.1 ▸ O0.2.1
  have hk0 := Nat.zero_le h0.size
  have K0 : Keep h0 h0 [] := Keep.refl _ _
  have R0 : ∀ t, Steps p.tables e below (s₁.setTop (mkF m 0 #[.val (.int xx), .val (.int sel), .unset, .unset, .unset, .unset] [])) t → Steps p.tables e below (s₁.setTop (entryFrame m #[(.int xx), (.int sel)] maxLocals)) t := fun t k => castTop (ef_rm0 m xx sel) k
  have R1 : ∀ t, Steps p.tables e below (s₁.setTop (mkF m 3 #[.val (.int xx), .val (.int sel), .unset, .unset, .unset, .unset] [(.int (sel &&& (1 : Int32)))])) t → Steps p.tables e below (s₁.setTop (entryFrame m #[(.int xx), (.int sel)] maxLocals)) t := by
    intro t k
    refine R0 t ?_
    show Steps p.tables e below (s₁.setTop (mkF m 0 #[.val (.int xx), .val (.int sel), .unset, .unset, .unset, .unset] [])) t
    refine XS.iloadN X0.here hx rfl (hb hby at_0) rfl ?_
    show Steps p.tables e below (s₁.setTop (mkF m 1 #[.val (.int xx), .val (.int sel), .unset, .unset, .unset, .unset] [(.int sel)])) t
    refine XS.iconst X0.here hx rfl (hb hby at_1) ?_
    show Steps p.tables e below (s₁.setTop (mkF m 2 #[.val (.int xx), .val (.int sel), .unset, .unset, .unset, .unset] [(.int (1 : Int32)), (.int sel)])) t
    refine XS.iand X0.here hx rfl (hb hby at_2) rfl ?_
    exact k
  have R2 : ∀ t, Steps p.tables e below (s₁.setTop (mkF m 11 #[.val (.int xx), .val (.int sel), .unset, .unset, .unset, .unset] [(.int (if (sel &&& (1 : Int32)) = (0 : Int32) then (0 : Int32) else (1 : Int32)))])) t → Steps p.tables e below (s₁.setTop (entryFrame m #[(.int xx), (.int sel)] maxLocals)) t := by
    by_cases hc_2 : (sel &&& (1 : Int32)) = (0 : Int32)
    · have R3 : ∀ t, Steps p.tables e below (s₁.setTop (mkF m 11 #[.val (.int xx), .val (.int sel), .unset, .unset, .unset, .unset] [(.int (0 : Int32))])) t → Steps p.tables e below (s₁.setTop (entryFrame m #[(.int xx), (.int sel)] maxLocals)) t := by
        intro t k
        refine R1 t ?_
        show Steps p.tables e below (s₁.setTop (mkF m 3 #[.val (.int xx), .val (.int sel), .unset, .unset, .unset, .unset] [(.int (sel &&& (1 : Int32)))])) t
        refine XS.ifYes X0.here hx rfl (pc0 := 3) (pc' := 10) rfl (hb hby at_3) rfl ((if0 _ _).trans (teq (hc_2 : (sel &&& (1 : Int32)) = (0 : Int32))).1) (by decide) (by decide) ?_
        show Steps p.tables e below (s₁.setTop (mkF m 10 #[.val (.int xx), .val (.int sel), .unset, .unset, .unset, .unset] [])) t
        refine XS.iconst X0.here hx rfl (hb hby at_10) ?_
        exact k
      simp only [if_pos hc_2]
      exact R3
    · have R4 : ∀ t, Steps p.tables e below (s₁.setTop (mkF m 11 #[.val (.int xx), .val (.int sel), .unset, .unset, .unset, .unset] [(.int (1 : Int32))])) t → Steps p.tables e below (s₁.setTop (entryFrame m #[(.int xx), (.int sel)] maxLocals)) t := by
        intro t k
        refine R1 t ?_
        show Steps p.tables e below (s₁.setTop (mkF m 3 #[.val (.int xx), .val (.int sel), .unset, .unset, .unset, .unset] [(.int (sel &&& (1 : Int32)))])) t
        refine XS.ifNo X0.here hx rfl (hb hby at_3) rfl ((if0 _ _).trans (feq (hc_2 : ¬ ((sel &&& (1 : Int32)) = (0 : Int32)))).1) ?_
        show Steps p.tables e below (s₁.setTop (mkF m 6 #[.val (.int xx), .val (.int sel), .unset, .unset, .unset, .unset] [])) t
        refine XS.iconst X0.here hx rfl (hb hby at_6) ?_
        show Steps p.tables e below (s₁.setTop (mkF m 7 #[.val (.int xx), .val (.int sel), .unset, .unset, .unset, .unset] [(.int (1 : Int32))])) t
        refine XS.goto X0.here hx rfl (pc0 := 7) (pc' := 11) rfl (hb hby at_7) (by decide) (by decide) ?_
        exact k
      simp only [if_neg hc_2]
      exact R4
  obtain ⟨sm, h_sm⟩ : ∃ z, z = (if (sel &&& (1 : Int32)) = (0 : Int32) then (0 : Int32) else (1 : Int32)) := ⟨_, rfl⟩
  rw [← h_sm] at R2
  have R5 : ∀ t, Steps p.tables e below (s₁.setTop (mkF m 13 #[.val (.int xx), .val (.int sel), .val (.int sm), .unset, .unset, .unset] [(.int sm)])) t → Steps p.tables e below (s₁.setTop (entryFrame m #[(.int xx), (.int sel)] maxLocals)) t := by
    intro t k
    refine R2 t ?_
    show Steps p.tables e below (s₁.setTop (mkF m 11 #[.val (.int xx), .val (.int sel), .unset, .unset, .unset, .unset] [(.int sm)])) t
    refine XS.istoreN X0.here hx rfl (hb hby at_11) rfl (l' := #[.val (.int xx), .val (.int sel), .val (.int sm), .unset, .unset, .unset]) rfl ?_
    show Steps p.tables e below (s₁.setTop (mkF m 12 #[.val (.int xx), .val (.int sel), .val (.int sm), .unset, .unset, .unset] [])) t
    refine XS.iloadN X0.here hx rfl (hb hby at_12) rfl ?_
    exact k
  have R6 : ∀ t, Steps p.tables e below (s₁.setTop (mkF m 24 #[.val (.int xx), .val (.int sel), .val (.int sm), .unset, .unset, .unset] [(.int (if sm = (0 : Int32) then xx else (xx &&& (15 : Int32))))])) t → Steps p.tables e below (s₁.setTop (entryFrame m #[(.int xx), (.int sel)] maxLocals)) t := by
    by_cases hc_6 : sm = (0 : Int32)
    · have R7 : ∀ t, Steps p.tables e below (s₁.setTop (mkF m 24 #[.val (.int xx), .val (.int sel), .val (.int sm), .unset, .unset, .unset] [(.int xx)])) t → Steps p.tables e below (s₁.setTop (entryFrame m #[(.int xx), (.int sel)] maxLocals)) t := by
        intro t k
        refine R5 t ?_
        show Steps p.tables e below (s₁.setTop (mkF m 13 #[.val (.int xx), .val (.int sel), .val (.int sm), .unset, .unset, .unset] [(.int sm)])) t
        refine XS.ifYes X0.here hx rfl (pc0 := 13) (pc' := 23) rfl (hb hby at_13) rfl ((if0 _ _).trans (teq (hc_6 : sm = (0 : Int32))).1) (by decide) (by decide) ?_
        show Steps p.tables e below (s₁.setTop (mkF m 23 #[.val (.int xx), .val (.int sel), .val (.int sm), .unset, .unset, .unset] [])) t
        refine XS.iloadN X0.here hx rfl (hb hby at_23) rfl ?_
        exact k
      simp only [if_pos hc_6]
      exact R7
    · have R8 : ∀ t, Steps p.tables e below (s₁.setTop (mkF m 24 #[.val (.int xx), .val (.int sel), .val (.int sm), .unset, .unset, .unset] [(.int (xx &&& (15 : Int32)))])) t → Steps p.tables e below (s₁.setTop (entryFrame m #[(.int xx), (.int sel)] maxLocals)) t := by
        intro t k
        refine R5 t ?_
        show Steps p.tables e below (s₁.setTop (mkF m 13 #[.val (.int xx), .val (.int sel), .val (.int sm), .unset, .unset, .unset] [(.int sm)])) t
        refine XS.ifNo X0.here hx rfl (hb hby at_13) rfl ((if0 _ _).trans (feq (hc_6 : ¬ (sm = (0 : Int32)))).1) ?_
        show Steps p.tables e below (s₁.setTop (mkF m 16 #[.val (.int xx), .val (.int sel), .val (.int sm), .unset, .unset, .unset] [])) t
        refine XS.iloadN X0.here hx rfl (hb hby at_16) rfl ?_
        show Steps p.tables e below (s₁.setTop (mkF m 17 #[.val (.int xx), .val (.int sel), .val (.int sm), .unset, .unset, .unset] [(.int xx)])) t
        refine XS.bipush X0.here hx rfl (hb hby at_17) ?_
        show Steps p.tables e below (s₁.setTop (mkF m 19 #[.val (.int xx), .val (.int sel), .val (.int sm), .unset, .unset, .unset] [(.int (15 : Int32)), (.int xx)])) t
        refine XS.iand X0.here hx rfl (hb hby at_19) rfl ?_
        show Steps p.tables e below (s₁.setTop (mkF m 20 #[.val (.int xx), .val (.int sel), .val (.int sm), .unset, .unset, .unset] [(.int (xx &&& (15 : Int32)))])) t
        refine XS.goto X0.here hx rfl (pc0 := 20) (pc' := 24) rfl (hb hby at_20) (by decide) (by decide) ?_
        exact k
      simp only [if_neg hc_6]
      exact R8
  obtain ⟨lev, h_lev⟩ : ∃ z, z = (if sm = (0 : Int32) then xx else (xx &&& (15 : Int32))) := ⟨_, rfl⟩
  rw [← h_lev] at R6
  have R9 : ∀ t, Steps p.tables e below (s₁.setTop (mkF m 26 #[.val (.int xx), .val (.int sel), .val (.int sm), .val (.int lev), .unset, .unset] [(.int lev)])) t → Steps p.tables e below (s₁.setTop (entryFrame m #[(.int xx), (.int sel)] maxLocals)) t := by
    intro t k
    refine R6 t ?_
    show Steps p.tables e below (s₁.setTop (mkF m 24 #[.val (.int xx), .val (.int sel), .val (.int sm), .unset, .unset, .unset] [(.int lev)])) t
    refine XS.istoreN X0.here hx rfl (hb hby at_24) rfl (l' := #[.val (.int xx), .val (.int sel), .val (.int sm), .val (.int lev), .unset, .unset]) rfl ?_
    show Steps p.tables e below (s₁.setTop (mkF m 25 #[.val (.int xx), .val (.int sel), .val (.int sm), .val (.int lev), .unset, .unset] [])) t
    refine XS.iloadN X0.here hx rfl (hb hby at_25) rfl ?_
    exact k
  by_cases cq0 : lev = (1 : Int32)
  · obtain ⟨_, _, ⟨T10, L10, k10, n10⟩, -, X10, ⟨Lc10, hQ10, l10, y10, z10⟩, st10⟩ := Jvm.LawKit.callS X0 hx (y := (⟨"com/example/demarcate/demarcate/IsolationOfJdbcLevelPinLaw", "expected", "(I)Lcom/example/demarcate/demarcate/Isolation;"⟩ : MethodName)) hown (mvT hZ (hw _ (List.mem_of_getElem? (i := 0) rfl))) (mvT hZ (hw _ (List.mem_of_getElem? (i := 1) rfl))) (mvT hZ (hw _ (List.mem_of_getElem? (i := 2) rfl))) (mvT hZ (hw _ (List.mem_of_getElem? (i := 3) rfl))) (by decide) (backOf (W := 0) (exp0 l Z a0 hw [] w0 w1 w2 w3 w4 wV kV wE lev h0 n0 O0 S_w0 S_w1 S_w2 S_w3 S_w4 E_w0 E_w1 E_w2 E_w3 E_w4 F_w1 F_w2 F_w3 F_w4 S_wV E_wV A_wV S_wE E_wE F_wE ne_w1_w0 ne_w2_w0 ne_w3_w0 ne_w4_w0   cq0) hZ (hw _ (List.mem_of_getElem? (i := 3) rfl)) (hw _ (List.mem_of_getElem? (i := 2) rfl)) (by decide) (by decide)) (g := (mkF m 26 #[.val (.int xx), .val (.int sel), .val (.int sm), .val (.int lev), .unset, .unset] [(.int lev)])) rfl (by rw [hml]; rfl) (argsL := [(.int lev)]) (rest := []) (lenOf pd_4 rfl) rfl (by show 2 * 0 + _ ≤ _; exact Nat.le_of_eq rfl) (hb hby at_26) (fun _ _ => ⟨rfl, e0, (by decide : 0 + 0 ≤ _), (by decide : 0 + 0 ≤ _)⟩)
    dsimp only [Pt.U, Pt.locs, Pt.cells, Pt.slots] at X10 l10 y10 z10 st10 hQ10
    subst l10 y10 z10
    obtain ⟨rfl, N10q, e10⟩ := hQ10
    have N10 := Fr.app N0 N10q
    obtain ⟨_, _, ⟨T11, L11, k11, n11⟩, -, X11, ⟨Lc11, hQ11, l11, y11, z11⟩, st11⟩ := Jvm.LawKit.callS X10 hx (y := (⟨"com/example/demarcate/demarcate/Isolation", "ofJdbcLevel", "(I)Ljava/util/Optional;"⟩ : MethodName)) hown (mvT hZ (hw _ (List.mem_of_getElem? (i := 4) rfl))) (mvT hZ (hw _ (List.mem_of_getElem? (i := 5) rfl))) (mvT hZ (hw _ (List.mem_of_getElem? (i := 6) rfl))) (mvT hZ (hw _ (List.mem_of_getElem? (i := 7) rfl))) (by decide) (backOf (W := 0) (oj0 l Z a0 hw [] w0 w1 w2 w3 w4 wV kV wE lev h0 n0 O0 S_w0 S_w1 S_w2 S_w3 S_w4 E_w0 E_w1 E_w2 E_w3 E_w4 F_w1 F_w2 F_w3 F_w4 S_wV E_wV A_wV S_wE E_wE F_wE ne_w1_w0 ne_w2_w0 ne_w3_w0 ne_w4_w0   cq0.symm) hZ (hw _ (List.mem_of_getElem? (i := 7) rfl)) (hw _ (List.mem_of_getElem? (i := 6) rfl)) (by decide) (by decide)) (g := (mkF m 32 #[.val (.int xx), .val (.int sel), .val (.int sm), .val (.int lev), .val (.ref w1), .unset] [(.int lev)])) rfl (by rw [hml]; rfl) (argsL := [(.int lev)]) (rest := []) (lenOf pd_5 rfl) rfl (by show 2 * 0 + _ ≤ _; exact Nat.le_of_eq rfl) (hb hby at_32) (fun _ _ => ⟨rfl, e10, (by decide : 0 + 2 ≤ _), (by decide : 0 + 6 ≤ _)⟩)
    dsimp only [Pt.U, Pt.locs, Pt.cells, Pt.slots] at X11 l11 y11 z11 st11 hQ11
    subst l11 y11 z11
    obtain ⟨b11, rfl, N11q, K11q, y11_0, y11_1⟩ := hQ11
    have N11 := Fr.app N10 N11q
    have Z11 : n0 ≤ T11.heap.size := Nat.le_trans Z0 K11q.1
    have K11 : Keep h0 T11.heap [] := K0.trans K11q all0
    have O11 : Old Z n0 T11.heap := O0.keep K11q all0
    obtain ⟨cq12, kq12, q12a, q12b, q12c⟩ := isOf hZ rfl y11_0
    obtain ⟨_, _, ⟨T12, L12, k12, n12⟩, -, X12, ⟨Lc12, hQ12, l12, y12, z12⟩, st12⟩ := X11.virtualBack hx (y := (⟨"java/util/Optional", "isPresent", "()Z"⟩ : MethodName)) (z := (⟨"java/util/Optional", "isPresent", "()Z"⟩ : MethodName)) hown (mvT hZ (hw _ (List.mem_of_getElem? (i := 48) rfl))) (mvT hZ (hw _ (List.mem_of_getElem? (i := 49) rfl))) (notFace_of_selects (args := #[]) (mvT hZ (hw _ (List.mem_of_getElem? (i := 51) rfl)))) (mvT hZ (hw _ (List.mem_of_getElem? (i := 51) rfl))) (mvT hZ (hw _ (List.mem_of_getElem? (i := 50) rfl))) (by decide) (backOf (W := 0) (ipS l Z a0 hw [] w0 w1 w2 w3 w4 wV kV wE b11 w1 T11.heap n0 O11 S_w0 S_w1 S_w2 S_w3 S_w4 E_w0 E_w1 E_w2 E_w3 E_w4 F_w1 F_w2 F_w3 F_w4 S_wV E_wV A_wV S_wE E_wE F_wE ne_w1_w0 ne_w2_w0 ne_w3_w0 ne_w4_w0   y11_1) hZ (hw _ (List.mem_of_getElem? (i := 52) rfl)) (hw _ (List.mem_of_getElem? (i := 45) rfl)) (by decide) (by decide)) q12a q12c (g := (mkF m 65 #[.val (.int xx), .val (.int sel), .val (.int sm), .val (.int lev), .val (.ref w1), .val (.ref b11)] [(.ref b11)])) rfl (by rw [hml]; rfl) (Steps.refl _) (argsL := []) (rest := []) (lenOf pd_6 rfl) rfl (by show 2 * 0 + _ ≤ _; exact Nat.le_of_eq rfl) (hb hby at_65) (fun _ _ => ⟨rfl, rfl, (by decide : 2 + 0 ≤ _), (by decide : 6 + 0 ≤ _)⟩)
    dsimp only [Pt.U, Pt.locs, Pt.cells, Pt.slots] at X12 l12 y12 z12 st12 hQ12
    subst l12 y12 z12
    obtain ⟨rfl, N12q, e12⟩ := hQ12
    have N12 := Fr.app N11 N12q
    obtain ⟨cq13, kq13, q13a, q13b, q13c⟩ := isOf hZ e12 y11_0
    obtain ⟨_, _, ⟨T13, L13, k13, n13⟩, -, X13, ⟨Lc13, hQ13, l13, y13, z13⟩, st13⟩ := X12.virtualBack hx (y := (⟨"java/util/Optional", "get", "()Ljava/lang/Object;"⟩ : MethodName)) (z := (⟨"java/util/Optional", "get", "()Ljava/lang/Object;"⟩ : MethodName)) hown (mvT hZ (hw _ (List.mem_of_getElem? (i := 65) rfl))) (mvT hZ (hw _ (List.mem_of_getElem? (i := 66) rfl))) (notFace_of_selects (args := #[]) (mvT hZ (hw _ (List.mem_of_getElem? (i := 68) rfl)))) (mvT hZ (hw _ (List.mem_of_getElem? (i := 68) rfl))) (mvT hZ (hw _ (List.mem_of_getElem? (i := 67) rfl))) (by decide) (backOf (W := 0) (oget l Z a0 hw [] w0 w1 w2 w3 w4 wV kV wE b11 w1 T11.heap n0 O11 S_w0 S_w1 S_w2 S_w3 S_w4 E_w0 E_w1 E_w2 E_w3 E_w4 F_w1 F_w2 F_w3 F_w4 S_wV E_wV A_wV S_wE E_wE F_wE ne_w1_w0 ne_w2_w0 ne_w3_w0 ne_w4_w0   y11_1) hZ (hw _ (List.mem_of_getElem? (i := 69) rfl)) (hw _ (List.mem_of_getElem? (i := 45) rfl)) (by decide) (by decide)) q13a q13c (g := (mkF m 73 #[.val (.int xx), .val (.int sel), .val (.int sm), .val (.int lev), .val (.ref w1), .val (.ref b11)] [(.ref b11)])) rfl (by rw [hml]; rfl) (Steps.refl _) (argsL := []) (rest := []) (lenOf pd_7 rfl) rfl (by show 2 * 0 + _ ≤ _; exact Nat.le_of_eq rfl) (hb hby at_73) (fun _ _ => ⟨rfl, e12, (by decide : 2 + 0 ≤ _), (by decide : 6 + 0 ≤ _)⟩)
    dsimp only [Pt.U, Pt.locs, Pt.cells, Pt.slots] at X13 l13 y13 z13 st13 hQ13
    subst l13 y13 z13
    obtain ⟨rfl, N13q, e13⟩ := hQ13
    have N13 := Fr.app N12 N13q
    have R14 : ∀ t, Steps p.tables e below (T13.setTop (mkF m 86 #[.val (.int xx), .val (.int sel), .val (.int sm), .val (.int lev), .val (.ref w1), .val (.ref b11)] [(.int (1 : Int32))])) t → Steps p.tables e below (s₁.setTop (entryFrame m #[(.int xx), (.int sel)] maxLocals)) t := by
      intro t k
      refine R9 t ?_
      show Steps p.tables e below (s₁.setTop (mkF m 26 #[.val (.int xx), .val (.int sel), .val (.int sm), .val (.int lev), .unset, .unset] [(.int lev)])) t
      refine st10 _ ?_
      show Steps p.tables e below (T10.setTop (mkF m 29 #[.val (.int xx), .val (.int sel), .val (.int sm), .val (.int lev), .unset, .unset] [(.ref w1)])) t
      refine XS.astore X10.here hx rfl (hb hby at_29) rfl rfl (l' := #[.val (.int xx), .val (.int sel), .val (.int sm), .val (.int lev), .val (.ref w1), .unset]) rfl ?_
      show Steps p.tables e below (T10.setTop (mkF m 31 #[.val (.int xx), .val (.int sel), .val (.int sm), .val (.int lev), .val (.ref w1), .unset] [])) t
      refine XS.iloadN X10.here hx rfl (hb hby at_31) rfl ?_
      show Steps p.tables e below (T10.setTop (mkF m 32 #[.val (.int xx), .val (.int sel), .val (.int sm), .val (.int lev), .val (.ref w1), .unset] [(.int lev)])) t
      refine st11 _ ?_
      show Steps p.tables e below (T11.setTop (mkF m 35 #[.val (.int xx), .val (.int sel), .val (.int sm), .val (.int lev), .val (.ref w1), .unset] [(.ref b11)])) t
      refine XS.astore X11.here hx rfl (hb hby at_35) rfl rfl (l' := #[.val (.int xx), .val (.int sel), .val (.int sm), .val (.int lev), .val (.ref w1), .val (.ref b11)]) rfl ?_
      show Steps p.tables e below (T11.setTop (mkF m 37 #[.val (.int xx), .val (.int sel), .val (.int sm), .val (.int lev), .val (.ref w1), .val (.ref b11)] [])) t
      refine XS.aload X11.here hx rfl (hb hby at_37) rfl rfl ?_
      show Steps p.tables e below (T11.setTop (mkF m 39 #[.val (.int xx), .val (.int sel), .val (.int sm), .val (.int lev), .val (.ref w1), .val (.ref b11)] [(.ref b11)])) t
      refine XS.ifnonnullYes X11.here hx rfl (pc0 := 39) (pc' := 44) rfl (hb hby at_39) rfl (by decide) (by decide) ?_
      show Steps p.tables e below (T11.setTop (mkF m 44 #[.val (.int xx), .val (.int sel), .val (.int sm), .val (.int lev), .val (.ref w1), .val (.ref b11)] [])) t
      refine XS.aload X11.here hx rfl (hb hby at_44) rfl rfl ?_
      show Steps p.tables e below (T11.setTop (mkF m 46 #[.val (.int xx), .val (.int sel), .val (.int sm), .val (.int lev), .val (.ref w1), .val (.ref b11)] [(.ref w1)])) t
      refine XS.ifnonnullYes X11.here hx rfl (pc0 := 46) (pc' := 63) rfl (hb hby at_46) rfl (by decide) (by decide) ?_
      show Steps p.tables e below (T11.setTop (mkF m 63 #[.val (.int xx), .val (.int sel), .val (.int sm), .val (.int lev), .val (.ref w1), .val (.ref b11)] [])) t
      refine XS.aload X11.here hx rfl (hb hby at_63) rfl rfl ?_
      show Steps p.tables e below (T11.setTop (mkF m 65 #[.val (.int xx), .val (.int sel), .val (.int sm), .val (.int lev), .val (.ref w1), .val (.ref b11)] [(.ref b11)])) t
      refine st12.trans ?_
      show Steps p.tables e below (T12.setTop (mkF m 68 #[.val (.int xx), .val (.int sel), .val (.int sm), .val (.int lev), .val (.ref w1), .val (.ref b11)] [(.int (1 : Int32))])) t
      refine XS.ifNo X12.here hx rfl (hb hby at_68) rfl ((if0 _ _).trans (feq ((by decide) : ¬ ((1 : Int32) = (0 : Int32)))).1) ?_
      show Steps p.tables e below (T12.setTop (mkF m 71 #[.val (.int xx), .val (.int sel), .val (.int sm), .val (.int lev), .val (.ref w1), .val (.ref b11)] [])) t
      refine XS.aload X12.here hx rfl (hb hby at_71) rfl rfl ?_
      show Steps p.tables e below (T12.setTop (mkF m 73 #[.val (.int xx), .val (.int sel), .val (.int sm), .val (.int lev), .val (.ref w1), .val (.ref b11)] [(.ref b11)])) t
      refine st13.trans ?_
      show Steps p.tables e below (T13.setTop (mkF m 76 #[.val (.int xx), .val (.int sel), .val (.int sm), .val (.int lev), .val (.ref w1), .val (.ref b11)] [(.ref w1)])) t
      refine XS.aload X13.here hx rfl (hb hby at_76) rfl rfl ?_
      show Steps p.tables e below (T13.setTop (mkF m 78 #[.val (.int xx), .val (.int sel), .val (.int sm), .val (.int lev), .val (.ref w1), .val (.ref b11)] [(.ref w1), (.ref w1)])) t
      refine Jvm.RoadKit.acmp (g := (mkF m 78 #[.val (.int xx), .val (.int sel), .val (.int sm), .val (.int lev), .val (.ref w1), .val (.ref b11)] [(.ref w1), (.ref w1)])) X13 hx rfl rfl rfl (pc0 := 78) (pc' := 81) (same := true) rfl (hb hby at_78) rfl (decide_eq_true (congrArg Value.ref rfl)) (by decide) (by decide) ?_
      show Steps p.tables e below (T13.setTop (mkF m 81 #[.val (.int xx), .val (.int sel), .val (.int sm), .val (.int lev), .val (.ref w1), .val (.ref b11)] [])) t
      refine XS.iconst X13.here hx rfl (hb hby at_81) ?_
      show Steps p.tables e below (T13.setTop (mkF m 82 #[.val (.int xx), .val (.int sel), .val (.int sm), .val (.int lev), .val (.ref w1), .val (.ref b11)] [(.int (1 : Int32))])) t
      refine XS.goto X13.here hx rfl (pc0 := 82) (pc' := 86) rfl (hb hby at_82) (by decide) (by decide) ?_
      exact k
    obtain ⟨fs, hr, hrun, hended, hW, hsame⟩ := X13.leave (v := some (.int (1 : Int32))) (fun h => by rw [Bd.returns] at h; cases h)
    refine ⟨_, _, R14 _ ?_, hrun, hended, _, _, rfl, ?_, ⟨_, rfl⟩, hW, hsame.mono (by decide) (by decide)⟩
    · show Steps p.tables e below (T13.setTop (mkF m 86 #[.val (.int xx), .val (.int sel), .val (.int sm), .val (.int lev), .val (.ref w1), .val (.ref b11)] [(.int (1 : Int32))])) _
      exact retN X13 hx (t := .boolean) Bd.returns (by simp) (hb hby at_86) hr
    · show Q_rm0 Z w0 w1 w2 w3 w4 wV kV wE xx sel h0 n0 _ T13.heap _
      rw [e13]
      exact ⟨rfl, N13⟩
  · by_cases cq1 : lev = (2 : Int32)
    · obtain ⟨_, _, ⟨T15, L15, k15, n15⟩, -, X15, ⟨Lc15, hQ15, l15, y15, z15⟩, st15⟩ := Jvm.LawKit.callS X0 hx (y := (⟨"com/example/demarcate/demarcate/IsolationOfJdbcLevelPinLaw", "expected", "(I)Lcom/example/demarcate/demarcate/Isolation;"⟩ : MethodName)) hown (mvT hZ (hw _ (List.mem_of_getElem? (i := 0) rfl))) (mvT hZ (hw _ (List.mem_of_getElem? (i := 1) rfl))) (mvT hZ (hw _ (List.mem_of_getElem? (i := 2) rfl))) (mvT hZ (hw _ (List.mem_of_getElem? (i := 3) rfl))) (by decide) (backOf (W := 0) (exp1 l Z a0 hw [] w0 w1 w2 w3 w4 wV kV wE lev h0 n0 O0 S_w0 S_w1 S_w2 S_w3 S_w4 E_w0 E_w1 E_w2 E_w3 E_w4 F_w1 F_w2 F_w3 F_w4 S_wV E_wV A_wV S_wE E_wE F_wE ne_w1_w0 ne_w2_w0 ne_w3_w0 ne_w4_w0   cq0 cq1) hZ (hw _ (List.mem_of_getElem? (i := 3) rfl)) (hw _ (List.mem_of_getElem? (i := 2) rfl)) (by decide) (by decide)) (g := (mkF m 26 #[.val (.int xx), .val (.int sel), .val (.int sm), .val (.int lev), .unset, .unset] [(.int lev)])) rfl (by rw [hml]; rfl) (argsL := [(.int lev)]) (rest := []) (lenOf pd_4 rfl) rfl (by show 2 * 0 + _ ≤ _; exact Nat.le_of_eq rfl) (hb hby at_26) (fun _ _ => ⟨rfl, e0, (by decide : 0 + 0 ≤ _), (by decide : 0 + 0 ≤ _)⟩)
      dsimp only [Pt.U, Pt.locs, Pt.cells, Pt.slots] at X15 l15 y15 z15 st15 hQ15
      subst l15 y15 z15
      obtain ⟨rfl, N15q, e15⟩ := hQ15
      have N15 := Fr.app N0 N15q
      obtain ⟨_, _, ⟨T16, L16, k16, n16⟩, -, X16, ⟨Lc16, hQ16, l16, y16, z16⟩, st16⟩ := Jvm.LawKit.callS X15 hx (y := (⟨"com/example/demarcate/demarcate/Isolation", "ofJdbcLevel", "(I)Ljava/util/Optional;"⟩ : MethodName)) hown (mvT hZ (hw _ (List.mem_of_getElem? (i := 4) rfl))) (mvT hZ (hw _ (List.mem_of_getElem? (i := 5) rfl))) (mvT hZ (hw _ (List.mem_of_getElem? (i := 6) rfl))) (mvT hZ (hw _ (List.mem_of_getElem? (i := 7) rfl))) (by decide) (backOf (W := 0) (oj1 l Z a0 hw [] w0 w1 w2 w3 w4 wV kV wE lev h0 n0 O0 S_w0 S_w1 S_w2 S_w3 S_w4 E_w0 E_w1 E_w2 E_w3 E_w4 F_w1 F_w2 F_w3 F_w4 S_wV E_wV A_wV S_wE E_wE F_wE ne_w1_w0 ne_w2_w0 ne_w3_w0 ne_w4_w0   (fun q => cq0 q.symm) cq1.symm) hZ (hw _ (List.mem_of_getElem? (i := 7) rfl)) (hw _ (List.mem_of_getElem? (i := 6) rfl)) (by decide) (by decide)) (g := (mkF m 32 #[.val (.int xx), .val (.int sel), .val (.int sm), .val (.int lev), .val (.ref w2), .unset] [(.int lev)])) rfl (by rw [hml]; rfl) (argsL := [(.int lev)]) (rest := []) (lenOf pd_5 rfl) rfl (by show 2 * 0 + _ ≤ _; exact Nat.le_of_eq rfl) (hb hby at_32) (fun _ _ => ⟨rfl, e15, (by decide : 0 + 2 ≤ _), (by decide : 0 + 6 ≤ _)⟩)
      dsimp only [Pt.U, Pt.locs, Pt.cells, Pt.slots] at X16 l16 y16 z16 st16 hQ16
      subst l16 y16 z16
      obtain ⟨b16, rfl, N16q, K16q, y16_0, y16_1⟩ := hQ16
      have N16 := Fr.app N15 N16q
      have Z16 : n0 ≤ T16.heap.size := Nat.le_trans Z0 K16q.1
      have K16 : Keep h0 T16.heap [] := K0.trans K16q all0
      have O16 : Old Z n0 T16.heap := O0.keep K16q all0
      obtain ⟨cq17, kq17, q17a, q17b, q17c⟩ := isOf hZ rfl y16_0
      obtain ⟨_, _, ⟨T17, L17, k17, n17⟩, -, X17, ⟨Lc17, hQ17, l17, y17, z17⟩, st17⟩ := X16.virtualBack hx (y := (⟨"java/util/Optional", "isPresent", "()Z"⟩ : MethodName)) (z := (⟨"java/util/Optional", "isPresent", "()Z"⟩ : MethodName)) hown (mvT hZ (hw _ (List.mem_of_getElem? (i := 48) rfl))) (mvT hZ (hw _ (List.mem_of_getElem? (i := 49) rfl))) (notFace_of_selects (args := #[]) (mvT hZ (hw _ (List.mem_of_getElem? (i := 51) rfl)))) (mvT hZ (hw _ (List.mem_of_getElem? (i := 51) rfl))) (mvT hZ (hw _ (List.mem_of_getElem? (i := 50) rfl))) (by decide) (backOf (W := 0) (ipS l Z a0 hw [] w0 w1 w2 w3 w4 wV kV wE b16 w2 T16.heap n0 O16 S_w0 S_w1 S_w2 S_w3 S_w4 E_w0 E_w1 E_w2 E_w3 E_w4 F_w1 F_w2 F_w3 F_w4 S_wV E_wV A_wV S_wE E_wE F_wE ne_w1_w0 ne_w2_w0 ne_w3_w0 ne_w4_w0   y16_1) hZ (hw _ (List.mem_of_getElem? (i := 52) rfl)) (hw _ (List.mem_of_getElem? (i := 45) rfl)) (by decide) (by decide)) q17a q17c (g := (mkF m 65 #[.val (.int xx), .val (.int sel), .val (.int sm), .val (.int lev), .val (.ref w2), .val (.ref b16)] [(.ref b16)])) rfl (by rw [hml]; rfl) (Steps.refl _) (argsL := []) (rest := []) (lenOf pd_6 rfl) rfl (by show 2 * 0 + _ ≤ _; exact Nat.le_of_eq rfl) (hb hby at_65) (fun _ _ => ⟨rfl, rfl, (by decide : 2 + 0 ≤ _), (by decide : 6 + 0 ≤ _)⟩)
      dsimp only [Pt.U, Pt.locs, Pt.cells, Pt.slots] at X17 l17 y17 z17 st17 hQ17
      subst l17 y17 z17
      obtain ⟨rfl, N17q, e17⟩ := hQ17
      have N17 := Fr.app N16 N17q
      obtain ⟨cq18, kq18, q18a, q18b, q18c⟩ := isOf hZ e17 y16_0
      obtain ⟨_, _, ⟨T18, L18, k18, n18⟩, -, X18, ⟨Lc18, hQ18, l18, y18, z18⟩, st18⟩ := X17.virtualBack hx (y := (⟨"java/util/Optional", "get", "()Ljava/lang/Object;"⟩ : MethodName)) (z := (⟨"java/util/Optional", "get", "()Ljava/lang/Object;"⟩ : MethodName)) hown (mvT hZ (hw _ (List.mem_of_getElem? (i := 65) rfl))) (mvT hZ (hw _ (List.mem_of_getElem? (i := 66) rfl))) (notFace_of_selects (args := #[]) (mvT hZ (hw _ (List.mem_of_getElem? (i := 68) rfl)))) (mvT hZ (hw _ (List.mem_of_getElem? (i := 68) rfl))) (mvT hZ (hw _ (List.mem_of_getElem? (i := 67) rfl))) (by decide) (backOf (W := 0) (oget l Z a0 hw [] w0 w1 w2 w3 w4 wV kV wE b16 w2 T16.heap n0 O16 S_w0 S_w1 S_w2 S_w3 S_w4 E_w0 E_w1 E_w2 E_w3 E_w4 F_w1 F_w2 F_w3 F_w4 S_wV E_wV A_wV S_wE E_wE F_wE ne_w1_w0 ne_w2_w0 ne_w3_w0 ne_w4_w0   y16_1) hZ (hw _ (List.mem_of_getElem? (i := 69) rfl)) (hw _ (List.mem_of_getElem? (i := 45) rfl)) (by decide) (by decide)) q18a q18c (g := (mkF m 73 #[.val (.int xx), .val (.int sel), .val (.int sm), .val (.int lev), .val (.ref w2), .val (.ref b16)] [(.ref b16)])) rfl (by rw [hml]; rfl) (Steps.refl _) (argsL := []) (rest := []) (lenOf pd_7 rfl) rfl (by show 2 * 0 + _ ≤ _; exact Nat.le_of_eq rfl) (hb hby at_73) (fun _ _ => ⟨rfl, e17, (by decide : 2 + 0 ≤ _), (by decide : 6 + 0 ≤ _)⟩)
      dsimp only [Pt.U, Pt.locs, Pt.cells, Pt.slots] at X18 l18 y18 z18 st18 hQ18
      subst l18 y18 z18
      obtain ⟨rfl, N18q, e18⟩ := hQ18
      have N18 := Fr.app N17 N18q
      have R19 : ∀ t, Steps p.tables e below (T18.setTop (mkF m 86 #[.val (.int xx), .val (.int sel), .val (.int sm), .val (.int lev), .val (.ref w2), .val (.ref b16)] [(.int (1 : Int32))])) t → Steps p.tables e below (s₁.setTop (entryFrame m #[(.int xx), (.int sel)] maxLocals)) t := by
        intro t k
        refine R9 t ?_
        show Steps p.tables e below (s₁.setTop (mkF m 26 #[.val (.int xx), .val (.int sel), .val (.int sm), .val (.int lev), .unset, .unset] [(.int lev)])) t
        refine st15 _ ?_
        show Steps p.tables e below (T15.setTop (mkF m 29 #[.val (.int xx), .val (.int sel), .val (.int sm), .val (.int lev), .unset, .unset] [(.ref w2)])) t
        refine XS.astore X15.here hx rfl (hb hby at_29) rfl rfl (l' := #[.val (.int xx), .val (.int sel), .val (.int sm), .val (.int lev), .val (.ref w2), .unset]) rfl ?_
        show Steps p.tables e below (T15.setTop (mkF m 31 #[.val (.int xx), .val (.int sel), .val (.int sm), .val (.int lev), .val (.ref w2), .unset] [])) t
        refine XS.iloadN X15.here hx rfl (hb hby at_31) rfl ?_
        show Steps p.tables e below (T15.setTop (mkF m 32 #[.val (.int xx), .val (.int sel), .val (.int sm), .val (.int lev), .val (.ref w2), .unset] [(.int lev)])) t
        refine st16 _ ?_
        show Steps p.tables e below (T16.setTop (mkF m 35 #[.val (.int xx), .val (.int sel), .val (.int sm), .val (.int lev), .val (.ref w2), .unset] [(.ref b16)])) t
        refine XS.astore X16.here hx rfl (hb hby at_35) rfl rfl (l' := #[.val (.int xx), .val (.int sel), .val (.int sm), .val (.int lev), .val (.ref w2), .val (.ref b16)]) rfl ?_
        show Steps p.tables e below (T16.setTop (mkF m 37 #[.val (.int xx), .val (.int sel), .val (.int sm), .val (.int lev), .val (.ref w2), .val (.ref b16)] [])) t
        refine XS.aload X16.here hx rfl (hb hby at_37) rfl rfl ?_
        show Steps p.tables e below (T16.setTop (mkF m 39 #[.val (.int xx), .val (.int sel), .val (.int sm), .val (.int lev), .val (.ref w2), .val (.ref b16)] [(.ref b16)])) t
        refine XS.ifnonnullYes X16.here hx rfl (pc0 := 39) (pc' := 44) rfl (hb hby at_39) rfl (by decide) (by decide) ?_
        show Steps p.tables e below (T16.setTop (mkF m 44 #[.val (.int xx), .val (.int sel), .val (.int sm), .val (.int lev), .val (.ref w2), .val (.ref b16)] [])) t
        refine XS.aload X16.here hx rfl (hb hby at_44) rfl rfl ?_
        show Steps p.tables e below (T16.setTop (mkF m 46 #[.val (.int xx), .val (.int sel), .val (.int sm), .val (.int lev), .val (.ref w2), .val (.ref b16)] [(.ref w2)])) t
        refine XS.ifnonnullYes X16.here hx rfl (pc0 := 46) (pc' := 63) rfl (hb hby at_46) rfl (by decide) (by decide) ?_
        show Steps p.tables e below (T16.setTop (mkF m 63 #[.val (.int xx), .val (.int sel), .val (.int sm), .val (.int lev), .val (.ref w2), .val (.ref b16)] [])) t
        refine XS.aload X16.here hx rfl (hb hby at_63) rfl rfl ?_
        show Steps p.tables e below (T16.setTop (mkF m 65 #[.val (.int xx), .val (.int sel), .val (.int sm), .val (.int lev), .val (.ref w2), .val (.ref b16)] [(.ref b16)])) t
        refine st17.trans ?_
        show Steps p.tables e below (T17.setTop (mkF m 68 #[.val (.int xx), .val (.int sel), .val (.int sm), .val (.int lev), .val (.ref w2), .val (.ref b16)] [(.int (1 : Int32))])) t
        refine XS.ifNo X17.here hx rfl (hb hby at_68) rfl ((if0 _ _).trans (feq ((by decide) : ¬ ((1 : Int32) = (0 : Int32)))).1) ?_
        show Steps p.tables e below (T17.setTop (mkF m 71 #[.val (.int xx), .val (.int sel), .val (.int sm), .val (.int lev), .val (.ref w2), .val (.ref b16)] [])) t
        refine XS.aload X17.here hx rfl (hb hby at_71) rfl rfl ?_
        show Steps p.tables e below (T17.setTop (mkF m 73 #[.val (.int xx), .val (.int sel), .val (.int sm), .val (.int lev), .val (.ref w2), .val (.ref b16)] [(.ref b16)])) t
        refine st18.trans ?_
        show Steps p.tables e below (T18.setTop (mkF m 76 #[.val (.int xx), .val (.int sel), .val (.int sm), .val (.int lev), .val (.ref w2), .val (.ref b16)] [(.ref w2)])) t
        refine XS.aload X18.here hx rfl (hb hby at_76) rfl rfl ?_
        show Steps p.tables e below (T18.setTop (mkF m 78 #[.val (.int xx), .val (.int sel), .val (.int sm), .val (.int lev), .val (.ref w2), .val (.ref b16)] [(.ref w2), (.ref w2)])) t
        refine Jvm.RoadKit.acmp (g := (mkF m 78 #[.val (.int xx), .val (.int sel), .val (.int sm), .val (.int lev), .val (.ref w2), .val (.ref b16)] [(.ref w2), (.ref w2)])) X18 hx rfl rfl rfl (pc0 := 78) (pc' := 81) (same := true) rfl (hb hby at_78) rfl (decide_eq_true (congrArg Value.ref rfl)) (by decide) (by decide) ?_
        show Steps p.tables e below (T18.setTop (mkF m 81 #[.val (.int xx), .val (.int sel), .val (.int sm), .val (.int lev), .val (.ref w2), .val (.ref b16)] [])) t
        refine XS.iconst X18.here hx rfl (hb hby at_81) ?_
        show Steps p.tables e below (T18.setTop (mkF m 82 #[.val (.int xx), .val (.int sel), .val (.int sm), .val (.int lev), .val (.ref w2), .val (.ref b16)] [(.int (1 : Int32))])) t
        refine XS.goto X18.here hx rfl (pc0 := 82) (pc' := 86) rfl (hb hby at_82) (by decide) (by decide) ?_
        exact k
      obtain ⟨fs, hr, hrun, hended, hW, hsame⟩ := X18.leave (v := some (.int (1 : Int32))) (fun h => by rw [Bd.returns] at h; cases h)
      refine ⟨_, _, R19 _ ?_, hrun, hended, _, _, rfl, ?_, ⟨_, rfl⟩, hW, hsame.mono (by decide) (by decide)⟩
      · show Steps p.tables e below (T18.setTop (mkF m 86 #[.val (.int xx), .val (.int sel), .val (.int sm), .val (.int lev), .val (.ref w2), .val (.ref b16)] [(.int (1 : Int32))])) _
        exact retN X18 hx (t := .boolean) Bd.returns (by simp) (hb hby at_86) hr
      · show Q_rm0 Z w0 w1 w2 w3 w4 wV kV wE xx sel h0 n0 _ T18.heap _
        rw [e18]
        exact ⟨rfl, N18⟩
    · by_cases cq2 : lev = (4 : Int32)
      · obtain ⟨_, _, ⟨T20, L20, k20, n20⟩, -, X20, ⟨Lc20, hQ20, l20, y20, z20⟩, st20⟩ := Jvm.LawKit.callS X0 hx (y := (⟨"com/example/demarcate/demarcate/IsolationOfJdbcLevelPinLaw", "expected", "(I)Lcom/example/demarcate/demarcate/Isolation;"⟩ : MethodName)) hown (mvT hZ (hw _ (List.mem_of_getElem? (i := 0) rfl))) (mvT hZ (hw _ (List.mem_of_getElem? (i := 1) rfl))) (mvT hZ (hw _ (List.mem_of_getElem? (i := 2) rfl))) (mvT hZ (hw _ (List.mem_of_getElem? (i := 3) rfl))) (by decide) (backOf (W := 0) (exp2 l Z a0 hw [] w0 w1 w2 w3 w4 wV kV wE lev h0 n0 O0 S_w0 S_w1 S_w2 S_w3 S_w4 E_w0 E_w1 E_w2 E_w3 E_w4 F_w1 F_w2 F_w3 F_w4 S_wV E_wV A_wV S_wE E_wE F_wE ne_w1_w0 ne_w2_w0 ne_w3_w0 ne_w4_w0   cq0 cq1 cq2) hZ (hw _ (List.mem_of_getElem? (i := 3) rfl)) (hw _ (List.mem_of_getElem? (i := 2) rfl)) (by decide) (by decide)) (g := (mkF m 26 #[.val (.int xx), .val (.int sel), .val (.int sm), .val (.int lev), .unset, .unset] [(.int lev)])) rfl (by rw [hml]; rfl) (argsL := [(.int lev)]) (rest := []) (lenOf pd_4 rfl) rfl (by show 2 * 0 + _ ≤ _; exact Nat.le_of_eq rfl) (hb hby at_26) (fun _ _ => ⟨rfl, e0, (by decide : 0 + 0 ≤ _), (by decide : 0 + 0 ≤ _)⟩)
        dsimp only [Pt.U, Pt.locs, Pt.cells, Pt.slots] at X20 l20 y20 z20 st20 hQ20
        subst l20 y20 z20
        obtain ⟨rfl, N20q, e20⟩ := hQ20
        have N20 := Fr.app N0 N20q
        obtain ⟨_, _, ⟨T21, L21, k21, n21⟩, -, X21, ⟨Lc21, hQ21, l21, y21, z21⟩, st21⟩ := Jvm.LawKit.callS X20 hx (y := (⟨"com/example/demarcate/demarcate/Isolation", "ofJdbcLevel", "(I)Ljava/util/Optional;"⟩ : MethodName)) hown (mvT hZ (hw _ (List.mem_of_getElem? (i := 4) rfl))) (mvT hZ (hw _ (List.mem_of_getElem? (i := 5) rfl))) (mvT hZ (hw _ (List.mem_of_getElem? (i := 6) rfl))) (mvT hZ (hw _ (List.mem_of_getElem? (i := 7) rfl))) (by decide) (backOf (W := 0) (oj2 l Z a0 hw [] w0 w1 w2 w3 w4 wV kV wE lev h0 n0 O0 S_w0 S_w1 S_w2 S_w3 S_w4 E_w0 E_w1 E_w2 E_w3 E_w4 F_w1 F_w2 F_w3 F_w4 S_wV E_wV A_wV S_wE E_wE F_wE ne_w1_w0 ne_w2_w0 ne_w3_w0 ne_w4_w0   (fun q => cq0 q.symm) (fun q => cq1 q.symm) cq2.symm) hZ (hw _ (List.mem_of_getElem? (i := 7) rfl)) (hw _ (List.mem_of_getElem? (i := 6) rfl)) (by decide) (by decide)) (g := (mkF m 32 #[.val (.int xx), .val (.int sel), .val (.int sm), .val (.int lev), .val (.ref w3), .unset] [(.int lev)])) rfl (by rw [hml]; rfl) (argsL := [(.int lev)]) (rest := []) (lenOf pd_5 rfl) rfl (by show 2 * 0 + _ ≤ _; exact Nat.le_of_eq rfl) (hb hby at_32) (fun _ _ => ⟨rfl, e20, (by decide : 0 + 2 ≤ _), (by decide : 0 + 6 ≤ _)⟩)
        dsimp only [Pt.U, Pt.locs, Pt.cells, Pt.slots] at X21 l21 y21 z21 st21 hQ21
        subst l21 y21 z21
        obtain ⟨b21, rfl, N21q, K21q, y21_0, y21_1⟩ := hQ21
        have N21 := Fr.app N20 N21q
        have Z21 : n0 ≤ T21.heap.size := Nat.le_trans Z0 K21q.1
        have K21 : Keep h0 T21.heap [] := K0.trans K21q all0
        have O21 : Old Z n0 T21.heap := O0.keep K21q all0
        obtain ⟨cq22, kq22, q22a, q22b, q22c⟩ := isOf hZ rfl y21_0
        obtain ⟨_, _, ⟨T22, L22, k22, n22⟩, -, X22, ⟨Lc22, hQ22, l22, y22, z22⟩, st22⟩ := X21.virtualBack hx (y := (⟨"java/util/Optional", "isPresent", "()Z"⟩ : MethodName)) (z := (⟨"java/util/Optional", "isPresent", "()Z"⟩ : MethodName)) hown (mvT hZ (hw _ (List.mem_of_getElem? (i := 48) rfl))) (mvT hZ (hw _ (List.mem_of_getElem? (i := 49) rfl))) (notFace_of_selects (args := #[]) (mvT hZ (hw _ (List.mem_of_getElem? (i := 51) rfl)))) (mvT hZ (hw _ (List.mem_of_getElem? (i := 51) rfl))) (mvT hZ (hw _ (List.mem_of_getElem? (i := 50) rfl))) (by decide) (backOf (W := 0) (ipS l Z a0 hw [] w0 w1 w2 w3 w4 wV kV wE b21 w3 T21.heap n0 O21 S_w0 S_w1 S_w2 S_w3 S_w4 E_w0 E_w1 E_w2 E_w3 E_w4 F_w1 F_w2 F_w3 F_w4 S_wV E_wV A_wV S_wE E_wE F_wE ne_w1_w0 ne_w2_w0 ne_w3_w0 ne_w4_w0   y21_1) hZ (hw _ (List.mem_of_getElem? (i := 52) rfl)) (hw _ (List.mem_of_getElem? (i := 45) rfl)) (by decide) (by decide)) q22a q22c (g := (mkF m 65 #[.val (.int xx), .val (.int sel), .val (.int sm), .val (.int lev), .val (.ref w3), .val (.ref b21)] [(.ref b21)])) rfl (by rw [hml]; rfl) (Steps.refl _) (argsL := []) (rest := []) (lenOf pd_6 rfl) rfl (by show 2 * 0 + _ ≤ _; exact Nat.le_of_eq rfl) (hb hby at_65) (fun _ _ => ⟨rfl, rfl, (by decide : 2 + 0 ≤ _), (by decide : 6 + 0 ≤ _)⟩)
        dsimp only [Pt.U, Pt.locs, Pt.cells, Pt.slots] at X22 l22 y22 z22 st22 hQ22
        subst l22 y22 z22
        obtain ⟨rfl, N22q, e22⟩ := hQ22
        have N22 := Fr.app N21 N22q
        obtain ⟨cq23, kq23, q23a, q23b, q23c⟩ := isOf hZ e22 y21_0
        obtain ⟨_, _, ⟨T23, L23, k23, n23⟩, -, X23, ⟨Lc23, hQ23, l23, y23, z23⟩, st23⟩ := X22.virtualBack hx (y := (⟨"java/util/Optional", "get", "()Ljava/lang/Object;"⟩ : MethodName)) (z := (⟨"java/util/Optional", "get", "()Ljava/lang/Object;"⟩ : MethodName)) hown (mvT hZ (hw _ (List.mem_of_getElem? (i := 65) rfl))) (mvT hZ (hw _ (List.mem_of_getElem? (i := 66) rfl))) (notFace_of_selects (args := #[]) (mvT hZ (hw _ (List.mem_of_getElem? (i := 68) rfl)))) (mvT hZ (hw _ (List.mem_of_getElem? (i := 68) rfl))) (mvT hZ (hw _ (List.mem_of_getElem? (i := 67) rfl))) (by decide) (backOf (W := 0) (oget l Z a0 hw [] w0 w1 w2 w3 w4 wV kV wE b21 w3 T21.heap n0 O21 S_w0 S_w1 S_w2 S_w3 S_w4 E_w0 E_w1 E_w2 E_w3 E_w4 F_w1 F_w2 F_w3 F_w4 S_wV E_wV A_wV S_wE E_wE F_wE ne_w1_w0 ne_w2_w0 ne_w3_w0 ne_w4_w0   y21_1) hZ (hw _ (List.mem_of_getElem? (i := 69) rfl)) (hw _ (List.mem_of_getElem? (i := 45) rfl)) (by decide) (by decide)) q23a q23c (g := (mkF m 73 #[.val (.int xx), .val (.int sel), .val (.int sm), .val (.int lev), .val (.ref w3), .val (.ref b21)] [(.ref b21)])) rfl (by rw [hml]; rfl) (Steps.refl _) (argsL := []) (rest := []) (lenOf pd_7 rfl) rfl (by show 2 * 0 + _ ≤ _; exact Nat.le_of_eq rfl) (hb hby at_73) (fun _ _ => ⟨rfl, e22, (by decide : 2 + 0 ≤ _), (by decide : 6 + 0 ≤ _)⟩)
        dsimp only [Pt.U, Pt.locs, Pt.cells, Pt.slots] at X23 l23 y23 z23 st23 hQ23
        subst l23 y23 z23
        obtain ⟨rfl, N23q, e23⟩ := hQ23
        have N23 := Fr.app N22 N23q
        have R24 : ∀ t, Steps p.tables e below (T23.setTop (mkF m 86 #[.val (.int xx), .val (.int sel), .val (.int sm), .val (.int lev), .val (.ref w3), .val (.ref b21)] [(.int (1 : Int32))])) t → Steps p.tables e below (s₁.setTop (entryFrame m #[(.int xx), (.int sel)] maxLocals)) t := by
          intro t k
          refine R9 t ?_
          show Steps p.tables e below (s₁.setTop (mkF m 26 #[.val (.int xx), .val (.int sel), .val (.int sm), .val (.int lev), .unset, .unset] [(.int lev)])) t
          refine st20 _ ?_
          show Steps p.tables e below (T20.setTop (mkF m 29 #[.val (.int xx), .val (.int sel), .val (.int sm), .val (.int lev), .unset, .unset] [(.ref w3)])) t
          refine XS.astore X20.here hx rfl (hb hby at_29) rfl rfl (l' := #[.val (.int xx), .val (.int sel), .val (.int sm), .val (.int lev), .val (.ref w3), .unset]) rfl ?_
          show Steps p.tables e below (T20.setTop (mkF m 31 #[.val (.int xx), .val (.int sel), .val (.int sm), .val (.int lev), .val (.ref w3), .unset] [])) t
          refine XS.iloadN X20.here hx rfl (hb hby at_31) rfl ?_
          show Steps p.tables e below (T20.setTop (mkF m 32 #[.val (.int xx), .val (.int sel), .val (.int sm), .val (.int lev), .val (.ref w3), .unset] [(.int lev)])) t
          refine st21 _ ?_
          show Steps p.tables e below (T21.setTop (mkF m 35 #[.val (.int xx), .val (.int sel), .val (.int sm), .val (.int lev), .val (.ref w3), .unset] [(.ref b21)])) t
          refine XS.astore X21.here hx rfl (hb hby at_35) rfl rfl (l' := #[.val (.int xx), .val (.int sel), .val (.int sm), .val (.int lev), .val (.ref w3), .val (.ref b21)]) rfl ?_
          show Steps p.tables e below (T21.setTop (mkF m 37 #[.val (.int xx), .val (.int sel), .val (.int sm), .val (.int lev), .val (.ref w3), .val (.ref b21)] [])) t
          refine XS.aload X21.here hx rfl (hb hby at_37) rfl rfl ?_
          show Steps p.tables e below (T21.setTop (mkF m 39 #[.val (.int xx), .val (.int sel), .val (.int sm), .val (.int lev), .val (.ref w3), .val (.ref b21)] [(.ref b21)])) t
          refine XS.ifnonnullYes X21.here hx rfl (pc0 := 39) (pc' := 44) rfl (hb hby at_39) rfl (by decide) (by decide) ?_
          show Steps p.tables e below (T21.setTop (mkF m 44 #[.val (.int xx), .val (.int sel), .val (.int sm), .val (.int lev), .val (.ref w3), .val (.ref b21)] [])) t
          refine XS.aload X21.here hx rfl (hb hby at_44) rfl rfl ?_
          show Steps p.tables e below (T21.setTop (mkF m 46 #[.val (.int xx), .val (.int sel), .val (.int sm), .val (.int lev), .val (.ref w3), .val (.ref b21)] [(.ref w3)])) t
          refine XS.ifnonnullYes X21.here hx rfl (pc0 := 46) (pc' := 63) rfl (hb hby at_46) rfl (by decide) (by decide) ?_
          show Steps p.tables e below (T21.setTop (mkF m 63 #[.val (.int xx), .val (.int sel), .val (.int sm), .val (.int lev), .val (.ref w3), .val (.ref b21)] [])) t
          refine XS.aload X21.here hx rfl (hb hby at_63) rfl rfl ?_
          show Steps p.tables e below (T21.setTop (mkF m 65 #[.val (.int xx), .val (.int sel), .val (.int sm), .val (.int lev), .val (.ref w3), .val (.ref b21)] [(.ref b21)])) t
          refine st22.trans ?_
          show Steps p.tables e below (T22.setTop (mkF m 68 #[.val (.int xx), .val (.int sel), .val (.int sm), .val (.int lev), .val (.ref w3), .val (.ref b21)] [(.int (1 : Int32))])) t
          refine XS.ifNo X22.here hx rfl (hb hby at_68) rfl ((if0 _ _).trans (feq ((by decide) : ¬ ((1 : Int32) = (0 : Int32)))).1) ?_
          show Steps p.tables e below (T22.setTop (mkF m 71 #[.val (.int xx), .val (.int sel), .val (.int sm), .val (.int lev), .val (.ref w3), .val (.ref b21)] [])) t
          refine XS.aload X22.here hx rfl (hb hby at_71) rfl rfl ?_
          show Steps p.tables e below (T22.setTop (mkF m 73 #[.val (.int xx), .val (.int sel), .val (.int sm), .val (.int lev), .val (.ref w3), .val (.ref b21)] [(.ref b21)])) t
          refine st23.trans ?_
          show Steps p.tables e below (T23.setTop (mkF m 76 #[.val (.int xx), .val (.int sel), .val (.int sm), .val (.int lev), .val (.ref w3), .val (.ref b21)] [(.ref w3)])) t
          refine XS.aload X23.here hx rfl (hb hby at_76) rfl rfl ?_
          show Steps p.tables e below (T23.setTop (mkF m 78 #[.val (.int xx), .val (.int sel), .val (.int sm), .val (.int lev), .val (.ref w3), .val (.ref b21)] [(.ref w3), (.ref w3)])) t
          refine Jvm.RoadKit.acmp (g := (mkF m 78 #[.val (.int xx), .val (.int sel), .val (.int sm), .val (.int lev), .val (.ref w3), .val (.ref b21)] [(.ref w3), (.ref w3)])) X23 hx rfl rfl rfl (pc0 := 78) (pc' := 81) (same := true) rfl (hb hby at_78) rfl (decide_eq_true (congrArg Value.ref rfl)) (by decide) (by decide) ?_
          show Steps p.tables e below (T23.setTop (mkF m 81 #[.val (.int xx), .val (.int sel), .val (.int sm), .val (.int lev), .val (.ref w3), .val (.ref b21)] [])) t
          refine XS.iconst X23.here hx rfl (hb hby at_81) ?_
          show Steps p.tables e below (T23.setTop (mkF m 82 #[.val (.int xx), .val (.int sel), .val (.int sm), .val (.int lev), .val (.ref w3), .val (.ref b21)] [(.int (1 : Int32))])) t
          refine XS.goto X23.here hx rfl (pc0 := 82) (pc' := 86) rfl (hb hby at_82) (by decide) (by decide) ?_
          exact k
        obtain ⟨fs, hr, hrun, hended, hW, hsame⟩ := X23.leave (v := some (.int (1 : Int32))) (fun h => by rw [Bd.returns] at h; cases h)
        refine ⟨_, _, R24 _ ?_, hrun, hended, _, _, rfl, ?_, ⟨_, rfl⟩, hW, hsame.mono (by decide) (by decide)⟩
        · show Steps p.tables e below (T23.setTop (mkF m 86 #[.val (.int xx), .val (.int sel), .val (.int sm), .val (.int lev), .val (.ref w3), .val (.ref b21)] [(.int (1 : Int32))])) _
          exact retN X23 hx (t := .boolean) Bd.returns (by simp) (hb hby at_86) hr
        · show Q_rm0 Z w0 w1 w2 w3 w4 wV kV wE xx sel h0 n0 _ T23.heap _
          rw [e23]
          exact ⟨rfl, N23⟩
      · by_cases cq3 : lev = (8 : Int32)
        · obtain ⟨_, _, ⟨T25, L25, k25, n25⟩, -, X25, ⟨Lc25, hQ25, l25, y25, z25⟩, st25⟩ := Jvm.LawKit.callS X0 hx (y := (⟨"com/example/demarcate/demarcate/IsolationOfJdbcLevelPinLaw", "expected", "(I)Lcom/example/demarcate/demarcate/Isolation;"⟩ : MethodName)) hown (mvT hZ (hw _ (List.mem_of_getElem? (i := 0) rfl))) (mvT hZ (hw _ (List.mem_of_getElem? (i := 1) rfl))) (mvT hZ (hw _ (List.mem_of_getElem? (i := 2) rfl))) (mvT hZ (hw _ (List.mem_of_getElem? (i := 3) rfl))) (by decide) (backOf (W := 0) (exp3 l Z a0 hw [] w0 w1 w2 w3 w4 wV kV wE lev h0 n0 O0 S_w0 S_w1 S_w2 S_w3 S_w4 E_w0 E_w1 E_w2 E_w3 E_w4 F_w1 F_w2 F_w3 F_w4 S_wV E_wV A_wV S_wE E_wE F_wE ne_w1_w0 ne_w2_w0 ne_w3_w0 ne_w4_w0   cq0 cq1 cq2 cq3) hZ (hw _ (List.mem_of_getElem? (i := 3) rfl)) (hw _ (List.mem_of_getElem? (i := 2) rfl)) (by decide) (by decide)) (g := (mkF m 26 #[.val (.int xx), .val (.int sel), .val (.int sm), .val (.int lev), .unset, .unset] [(.int lev)])) rfl (by rw [hml]; rfl) (argsL := [(.int lev)]) (rest := []) (lenOf pd_4 rfl) rfl (by show 2 * 0 + _ ≤ _; exact Nat.le_of_eq rfl) (hb hby at_26) (fun _ _ => ⟨rfl, e0, (by decide : 0 + 0 ≤ _), (by decide : 0 + 0 ≤ _)⟩)
          dsimp only [Pt.U, Pt.locs, Pt.cells, Pt.slots] at X25 l25 y25 z25 st25 hQ25
          subst l25 y25 z25
          obtain ⟨rfl, N25q, e25⟩ := hQ25
          have N25 := Fr.app N0 N25q
          obtain ⟨_, _, ⟨T26, L26, k26, n26⟩, -, X26, ⟨Lc26, hQ26, l26, y26, z26⟩, st26⟩ := Jvm.LawKit.callS X25 hx (y := (⟨"com/example/demarcate/demarcate/Isolation", "ofJdbcLevel", "(I)Ljava/util/Optional;"⟩ : MethodName)) hown (mvT hZ (hw _ (List.mem_of_getElem? (i := 4) rfl))) (mvT hZ (hw _ (List.mem_of_getElem? (i := 5) rfl))) (mvT hZ (hw _ (List.mem_of_getElem? (i := 6) rfl))) (mvT hZ (hw _ (List.mem_of_getElem? (i := 7) rfl))) (by decide) (backOf (W := 0) (oj3 l Z a0 hw [] w0 w1 w2 w3 w4 wV kV wE lev h0 n0 O0 S_w0 S_w1 S_w2 S_w3 S_w4 E_w0 E_w1 E_w2 E_w3 E_w4 F_w1 F_w2 F_w3 F_w4 S_wV E_wV A_wV S_wE E_wE F_wE ne_w1_w0 ne_w2_w0 ne_w3_w0 ne_w4_w0   (fun q => cq0 q.symm) (fun q => cq1 q.symm) (fun q => cq2 q.symm) cq3.symm) hZ (hw _ (List.mem_of_getElem? (i := 7) rfl)) (hw _ (List.mem_of_getElem? (i := 6) rfl)) (by decide) (by decide)) (g := (mkF m 32 #[.val (.int xx), .val (.int sel), .val (.int sm), .val (.int lev), .val (.ref w4), .unset] [(.int lev)])) rfl (by rw [hml]; rfl) (argsL := [(.int lev)]) (rest := []) (lenOf pd_5 rfl) rfl (by show 2 * 0 + _ ≤ _; exact Nat.le_of_eq rfl) (hb hby at_32) (fun _ _ => ⟨rfl, e25, (by decide : 0 + 2 ≤ _), (by decide : 0 + 6 ≤ _)⟩)
          dsimp only [Pt.U, Pt.locs, Pt.cells, Pt.slots] at X26 l26 y26 z26 st26 hQ26
          subst l26 y26 z26
          obtain ⟨b26, rfl, N26q, K26q, y26_0, y26_1⟩ := hQ26
          have N26 := Fr.app N25 N26q
          have Z26 : n0 ≤ T26.heap.size := Nat.le_trans Z0 K26q.1
          have K26 : Keep h0 T26.heap [] := K0.trans K26q all0
          have O26 : Old Z n0 T26.heap := O0.keep K26q all0
          obtain ⟨cq27, kq27, q27a, q27b, q27c⟩ := isOf hZ rfl y26_0
          obtain ⟨_, _, ⟨T27, L27, k27, n27⟩, -, X27, ⟨Lc27, hQ27, l27, y27, z27⟩, st27⟩ := X26.virtualBack hx (y := (⟨"java/util/Optional", "isPresent", "()Z"⟩ : MethodName)) (z := (⟨"java/util/Optional", "isPresent", "()Z"⟩ : MethodName)) hown (mvT hZ (hw _ (List.mem_of_getElem? (i := 48) rfl))) (mvT hZ (hw _ (List.mem_of_getElem? (i := 49) rfl))) (notFace_of_selects (args := #[]) (mvT hZ (hw _ (List.mem_of_getElem? (i := 51) rfl)))) (mvT hZ (hw _ (List.mem_of_getElem? (i := 51) rfl))) (mvT hZ (hw _ (List.mem_of_getElem? (i := 50) rfl))) (by decide) (backOf (W := 0) (ipS l Z a0 hw [] w0 w1 w2 w3 w4 wV kV wE b26 w4 T26.heap n0 O26 S_w0 S_w1 S_w2 S_w3 S_w4 E_w0 E_w1 E_w2 E_w3 E_w4 F_w1 F_w2 F_w3 F_w4 S_wV E_wV A_wV S_wE E_wE F_wE ne_w1_w0 ne_w2_w0 ne_w3_w0 ne_w4_w0   y26_1) hZ (hw _ (List.mem_of_getElem? (i := 52) rfl)) (hw _ (List.mem_of_getElem? (i := 45) rfl)) (by decide) (by decide)) q27a q27c (g := (mkF m 65 #[.val (.int xx), .val (.int sel), .val (.int sm), .val (.int lev), .val (.ref w4), .val (.ref b26)] [(.ref b26)])) rfl (by rw [hml]; rfl) (Steps.refl _) (argsL := []) (rest := []) (lenOf pd_6 rfl) rfl (by show 2 * 0 + _ ≤ _; exact Nat.le_of_eq rfl) (hb hby at_65) (fun _ _ => ⟨rfl, rfl, (by decide : 2 + 0 ≤ _), (by decide : 6 + 0 ≤ _)⟩)
          dsimp only [Pt.U, Pt.locs, Pt.cells, Pt.slots] at X27 l27 y27 z27 st27 hQ27
          subst l27 y27 z27
          obtain ⟨rfl, N27q, e27⟩ := hQ27
          have N27 := Fr.app N26 N27q
          obtain ⟨cq28, kq28, q28a, q28b, q28c⟩ := isOf hZ e27 y26_0
          obtain ⟨_, _, ⟨T28, L28, k28, n28⟩, -, X28, ⟨Lc28, hQ28, l28, y28, z28⟩, st28⟩ := X27.virtualBack hx (y := (⟨"java/util/Optional", "get", "()Ljava/lang/Object;"⟩ : MethodName)) (z := (⟨"java/util/Optional", "get", "()Ljava/lang/Object;"⟩ : MethodName)) hown (mvT hZ (hw _ (List.mem_of_getElem? (i := 65) rfl))) (mvT hZ (hw _ (List.mem_of_getElem? (i := 66) rfl))) (notFace_of_selects (args := #[]) (mvT hZ (hw _ (List.mem_of_getElem? (i := 68) rfl)))) (mvT hZ (hw _ (List.mem_of_getElem? (i := 68) rfl))) (mvT hZ (hw _ (List.mem_of_getElem? (i := 67) rfl))) (by decide) (backOf (W := 0) (oget l Z a0 hw [] w0 w1 w2 w3 w4 wV kV wE b26 w4 T26.heap n0 O26 S_w0 S_w1 S_w2 S_w3 S_w4 E_w0 E_w1 E_w2 E_w3 E_w4 F_w1 F_w2 F_w3 F_w4 S_wV E_wV A_wV S_wE E_wE F_wE ne_w1_w0 ne_w2_w0 ne_w3_w0 ne_w4_w0   y26_1) hZ (hw _ (List.mem_of_getElem? (i := 69) rfl)) (hw _ (List.mem_of_getElem? (i := 45) rfl)) (by decide) (by decide)) q28a q28c (g := (mkF m 73 #[.val (.int xx), .val (.int sel), .val (.int sm), .val (.int lev), .val (.ref w4), .val (.ref b26)] [(.ref b26)])) rfl (by rw [hml]; rfl) (Steps.refl _) (argsL := []) (rest := []) (lenOf pd_7 rfl) rfl (by show 2 * 0 + _ ≤ _; exact Nat.le_of_eq rfl) (hb hby at_73) (fun _ _ => ⟨rfl, e27, (by decide : 2 + 0 ≤ _), (by decide : 6 + 0 ≤ _)⟩)
          dsimp only [Pt.U, Pt.locs, Pt.cells, Pt.slots] at X28 l28 y28 z28 st28 hQ28
          subst l28 y28 z28
          obtain ⟨rfl, N28q, e28⟩ := hQ28
          have N28 := Fr.app N27 N28q
          have R29 : ∀ t, Steps p.tables e below (T28.setTop (mkF m 86 #[.val (.int xx), .val (.int sel), .val (.int sm), .val (.int lev), .val (.ref w4), .val (.ref b26)] [(.int (1 : Int32))])) t → Steps p.tables e below (s₁.setTop (entryFrame m #[(.int xx), (.int sel)] maxLocals)) t := by
            intro t k
            refine R9 t ?_
            show Steps p.tables e below (s₁.setTop (mkF m 26 #[.val (.int xx), .val (.int sel), .val (.int sm), .val (.int lev), .unset, .unset] [(.int lev)])) t
            refine st25 _ ?_
            show Steps p.tables e below (T25.setTop (mkF m 29 #[.val (.int xx), .val (.int sel), .val (.int sm), .val (.int lev), .unset, .unset] [(.ref w4)])) t
            refine XS.astore X25.here hx rfl (hb hby at_29) rfl rfl (l' := #[.val (.int xx), .val (.int sel), .val (.int sm), .val (.int lev), .val (.ref w4), .unset]) rfl ?_
            show Steps p.tables e below (T25.setTop (mkF m 31 #[.val (.int xx), .val (.int sel), .val (.int sm), .val (.int lev), .val (.ref w4), .unset] [])) t
            refine XS.iloadN X25.here hx rfl (hb hby at_31) rfl ?_
            show Steps p.tables e below (T25.setTop (mkF m 32 #[.val (.int xx), .val (.int sel), .val (.int sm), .val (.int lev), .val (.ref w4), .unset] [(.int lev)])) t
            refine st26 _ ?_
            show Steps p.tables e below (T26.setTop (mkF m 35 #[.val (.int xx), .val (.int sel), .val (.int sm), .val (.int lev), .val (.ref w4), .unset] [(.ref b26)])) t
            refine XS.astore X26.here hx rfl (hb hby at_35) rfl rfl (l' := #[.val (.int xx), .val (.int sel), .val (.int sm), .val (.int lev), .val (.ref w4), .val (.ref b26)]) rfl ?_
            show Steps p.tables e below (T26.setTop (mkF m 37 #[.val (.int xx), .val (.int sel), .val (.int sm), .val (.int lev), .val (.ref w4), .val (.ref b26)] [])) t
            refine XS.aload X26.here hx rfl (hb hby at_37) rfl rfl ?_
            show Steps p.tables e below (T26.setTop (mkF m 39 #[.val (.int xx), .val (.int sel), .val (.int sm), .val (.int lev), .val (.ref w4), .val (.ref b26)] [(.ref b26)])) t
            refine XS.ifnonnullYes X26.here hx rfl (pc0 := 39) (pc' := 44) rfl (hb hby at_39) rfl (by decide) (by decide) ?_
            show Steps p.tables e below (T26.setTop (mkF m 44 #[.val (.int xx), .val (.int sel), .val (.int sm), .val (.int lev), .val (.ref w4), .val (.ref b26)] [])) t
            refine XS.aload X26.here hx rfl (hb hby at_44) rfl rfl ?_
            show Steps p.tables e below (T26.setTop (mkF m 46 #[.val (.int xx), .val (.int sel), .val (.int sm), .val (.int lev), .val (.ref w4), .val (.ref b26)] [(.ref w4)])) t
            refine XS.ifnonnullYes X26.here hx rfl (pc0 := 46) (pc' := 63) rfl (hb hby at_46) rfl (by decide) (by decide) ?_
            show Steps p.tables e below (T26.setTop (mkF m 63 #[.val (.int xx), .val (.int sel), .val (.int sm), .val (.int lev), .val (.ref w4), .val (.ref b26)] [])) t
            refine XS.aload X26.here hx rfl (hb hby at_63) rfl rfl ?_
            show Steps p.tables e below (T26.setTop (mkF m 65 #[.val (.int xx), .val (.int sel), .val (.int sm), .val (.int lev), .val (.ref w4), .val (.ref b26)] [(.ref b26)])) t
            refine st27.trans ?_
            show Steps p.tables e below (T27.setTop (mkF m 68 #[.val (.int xx), .val (.int sel), .val (.int sm), .val (.int lev), .val (.ref w4), .val (.ref b26)] [(.int (1 : Int32))])) t
            refine XS.ifNo X27.here hx rfl (hb hby at_68) rfl ((if0 _ _).trans (feq ((by decide) : ¬ ((1 : Int32) = (0 : Int32)))).1) ?_
            show Steps p.tables e below (T27.setTop (mkF m 71 #[.val (.int xx), .val (.int sel), .val (.int sm), .val (.int lev), .val (.ref w4), .val (.ref b26)] [])) t
            refine XS.aload X27.here hx rfl (hb hby at_71) rfl rfl ?_
            show Steps p.tables e below (T27.setTop (mkF m 73 #[.val (.int xx), .val (.int sel), .val (.int sm), .val (.int lev), .val (.ref w4), .val (.ref b26)] [(.ref b26)])) t
            refine st28.trans ?_
            show Steps p.tables e below (T28.setTop (mkF m 76 #[.val (.int xx), .val (.int sel), .val (.int sm), .val (.int lev), .val (.ref w4), .val (.ref b26)] [(.ref w4)])) t
            refine XS.aload X28.here hx rfl (hb hby at_76) rfl rfl ?_
            show Steps p.tables e below (T28.setTop (mkF m 78 #[.val (.int xx), .val (.int sel), .val (.int sm), .val (.int lev), .val (.ref w4), .val (.ref b26)] [(.ref w4), (.ref w4)])) t
            refine Jvm.RoadKit.acmp (g := (mkF m 78 #[.val (.int xx), .val (.int sel), .val (.int sm), .val (.int lev), .val (.ref w4), .val (.ref b26)] [(.ref w4), (.ref w4)])) X28 hx rfl rfl rfl (pc0 := 78) (pc' := 81) (same := true) rfl (hb hby at_78) rfl (decide_eq_true (congrArg Value.ref rfl)) (by decide) (by decide) ?_
            show Steps p.tables e below (T28.setTop (mkF m 81 #[.val (.int xx), .val (.int sel), .val (.int sm), .val (.int lev), .val (.ref w4), .val (.ref b26)] [])) t
            refine XS.iconst X28.here hx rfl (hb hby at_81) ?_
            show Steps p.tables e below (T28.setTop (mkF m 82 #[.val (.int xx), .val (.int sel), .val (.int sm), .val (.int lev), .val (.ref w4), .val (.ref b26)] [(.int (1 : Int32))])) t
            refine XS.goto X28.here hx rfl (pc0 := 82) (pc' := 86) rfl (hb hby at_82) (by decide) (by decide) ?_
            exact k
          obtain ⟨fs, hr, hrun, hended, hW, hsame⟩ := X28.leave (v := some (.int (1 : Int32))) (fun h => by rw [Bd.returns] at h; cases h)
          refine ⟨_, _, R29 _ ?_, hrun, hended, _, _, rfl, ?_, ⟨_, rfl⟩, hW, hsame.mono (by decide) (by decide)⟩
          · show Steps p.tables e below (T28.setTop (mkF m 86 #[.val (.int xx), .val (.int sel), .val (.int sm), .val (.int lev), .val (.ref w4), .val (.ref b26)] [(.int (1 : Int32))])) _
            exact retN X28 hx (t := .boolean) Bd.returns (by simp) (hb hby at_86) hr
          · show Q_rm0 Z w0 w1 w2 w3 w4 wV kV wE xx sel h0 n0 _ T28.heap _
            rw [e28]
            exact ⟨rfl, N28⟩
        · obtain ⟨_, _, ⟨T30, L30, k30, n30⟩, -, X30, ⟨Lc30, hQ30, l30, y30, z30⟩, st30⟩ := Jvm.LawKit.callS X0 hx (y := (⟨"com/example/demarcate/demarcate/IsolationOfJdbcLevelPinLaw", "expected", "(I)Lcom/example/demarcate/demarcate/Isolation;"⟩ : MethodName)) hown (mvT hZ (hw _ (List.mem_of_getElem? (i := 0) rfl))) (mvT hZ (hw _ (List.mem_of_getElem? (i := 1) rfl))) (mvT hZ (hw _ (List.mem_of_getElem? (i := 2) rfl))) (mvT hZ (hw _ (List.mem_of_getElem? (i := 3) rfl))) (by decide) (backOf (W := 0) (exp4 l Z a0 hw [] w0 w1 w2 w3 w4 wV kV wE lev h0 n0 O0 S_w0 S_w1 S_w2 S_w3 S_w4 E_w0 E_w1 E_w2 E_w3 E_w4 F_w1 F_w2 F_w3 F_w4 S_wV E_wV A_wV S_wE E_wE F_wE ne_w1_w0 ne_w2_w0 ne_w3_w0 ne_w4_w0   cq0 cq1 cq2 cq3) hZ (hw _ (List.mem_of_getElem? (i := 3) rfl)) (hw _ (List.mem_of_getElem? (i := 2) rfl)) (by decide) (by decide)) (g := (mkF m 26 #[.val (.int xx), .val (.int sel), .val (.int sm), .val (.int lev), .unset, .unset] [(.int lev)])) rfl (by rw [hml]; rfl) (argsL := [(.int lev)]) (rest := []) (lenOf pd_4 rfl) rfl (by show 2 * 0 + _ ≤ _; exact Nat.le_of_eq rfl) (hb hby at_26) (fun _ _ => ⟨rfl, e0, (by decide : 0 + 0 ≤ _), (by decide : 0 + 0 ≤ _)⟩)
          dsimp only [Pt.U, Pt.locs, Pt.cells, Pt.slots] at X30 l30 y30 z30 st30 hQ30
          subst l30 y30 z30
          obtain ⟨rfl, N30q, e30⟩ := hQ30
          have N30 := Fr.app N0 N30q
          obtain ⟨_, _, ⟨T31, L31, k31, n31⟩, -, X31, ⟨Lc31, hQ31, l31, y31, z31⟩, st31⟩ := Jvm.LawKit.callS X30 hx (y := (⟨"com/example/demarcate/demarcate/Isolation", "ofJdbcLevel", "(I)Ljava/util/Optional;"⟩ : MethodName)) hown (mvT hZ (hw _ (List.mem_of_getElem? (i := 4) rfl))) (mvT hZ (hw _ (List.mem_of_getElem? (i := 5) rfl))) (mvT hZ (hw _ (List.mem_of_getElem? (i := 6) rfl))) (mvT hZ (hw _ (List.mem_of_getElem? (i := 7) rfl))) (by decide) (backOf (W := 0) (oj4 l Z a0 hw [] w0 w1 w2 w3 w4 wV kV wE lev h0 n0 O0 S_w0 S_w1 S_w2 S_w3 S_w4 E_w0 E_w1 E_w2 E_w3 E_w4 F_w1 F_w2 F_w3 F_w4 S_wV E_wV A_wV S_wE E_wE F_wE ne_w1_w0 ne_w2_w0 ne_w3_w0 ne_w4_w0   (fun q => cq0 q.symm) (fun q => cq1 q.symm) (fun q => cq2 q.symm) (fun q => cq3 q.symm)) hZ (hw _ (List.mem_of_getElem? (i := 7) rfl)) (hw _ (List.mem_of_getElem? (i := 6) rfl)) (by decide) (by decide)) (g := (mkF m 32 #[.val (.int xx), .val (.int sel), .val (.int sm), .val (.int lev), .val .null, .unset] [(.int lev)])) rfl (by rw [hml]; rfl) (argsL := [(.int lev)]) (rest := []) (lenOf pd_5 rfl) rfl (by show 2 * 0 + _ ≤ _; exact Nat.le_of_eq rfl) (hb hby at_32) (fun _ _ => ⟨rfl, e30, (by decide : 0 + 1 ≤ _), (by decide : 0 + 5 ≤ _)⟩)
          dsimp only [Pt.U, Pt.locs, Pt.cells, Pt.slots] at X31 l31 y31 z31 st31 hQ31
          subst l31 y31 z31
          obtain ⟨rfl, N31q, K31q⟩ := hQ31
          have N31 := Fr.app N30 N31q
          have Z31 : n0 ≤ T31.heap.size := Nat.le_trans Z0 K31q.1
          have K31 : Keep h0 T31.heap [] := K0.trans K31q all0
          have O31 : Old Z n0 T31.heap := O0.keep K31q all0
          obtain ⟨cq32, kq32, q32a, q32b, q32c⟩ := isOf hZ rfl (E_wE.ext O31.2)
          obtain ⟨_, _, ⟨T32, L32, k32, n32⟩, -, X32, ⟨Lc32, hQ32, l32, y32, z32⟩, st32⟩ := X31.virtualBack hx (y := (⟨"java/util/Optional", "isPresent", "()Z"⟩ : MethodName)) (z := (⟨"java/util/Optional", "isPresent", "()Z"⟩ : MethodName)) hown (mvT hZ (hw _ (List.mem_of_getElem? (i := 48) rfl))) (mvT hZ (hw _ (List.mem_of_getElem? (i := 49) rfl))) (notFace_of_selects (args := #[]) (mvT hZ (hw _ (List.mem_of_getElem? (i := 51) rfl)))) (mvT hZ (hw _ (List.mem_of_getElem? (i := 51) rfl))) (mvT hZ (hw _ (List.mem_of_getElem? (i := 50) rfl))) (by decide) (backOf (W := 0) (ipN l Z a0 hw [] w0 w1 w2 w3 w4 wV kV wE wE T31.heap n0 O31 S_w0 S_w1 S_w2 S_w3 S_w4 E_w0 E_w1 E_w2 E_w3 E_w4 F_w1 F_w2 F_w3 F_w4 S_wV E_wV A_wV S_wE E_wE F_wE ne_w1_w0 ne_w2_w0 ne_w3_w0 ne_w4_w0   (F_wE.ext O31.2)) hZ (hw _ (List.mem_of_getElem? (i := 52) rfl)) (hw _ (List.mem_of_getElem? (i := 45) rfl)) (by decide) (by decide)) q32a q32c (g := (mkF m 51 #[.val (.int xx), .val (.int sel), .val (.int sm), .val (.int lev), .val .null, .val (.ref wE)] [(.ref wE)])) rfl (by rw [hml]; rfl) (Steps.refl _) (argsL := []) (rest := []) (lenOf pd_6 rfl) rfl (by show 2 * 0 + _ ≤ _; exact Nat.le_of_eq rfl) (hb hby at_51) (fun _ _ => ⟨rfl, rfl, (by decide : 1 + 0 ≤ _), (by decide : 5 + 0 ≤ _)⟩)
          dsimp only [Pt.U, Pt.locs, Pt.cells, Pt.slots] at X32 l32 y32 z32 st32 hQ32
          subst l32 y32 z32
          obtain ⟨rfl, N32q, e32⟩ := hQ32
          have N32 := Fr.app N31 N32q
          have R33 : ∀ t, Steps p.tables e below (T32.setTop (mkF m 62 #[.val (.int xx), .val (.int sel), .val (.int sm), .val (.int lev), .val .null, .val (.ref wE)] [(.int (1 : Int32))])) t → Steps p.tables e below (s₁.setTop (entryFrame m #[(.int xx), (.int sel)] maxLocals)) t := by
            intro t k
            refine R9 t ?_
            show Steps p.tables e below (s₁.setTop (mkF m 26 #[.val (.int xx), .val (.int sel), .val (.int sm), .val (.int lev), .unset, .unset] [(.int lev)])) t
            refine st30 _ ?_
            show Steps p.tables e below (T30.setTop (mkF m 29 #[.val (.int xx), .val (.int sel), .val (.int sm), .val (.int lev), .unset, .unset] [.null])) t
            refine XS.astore X30.here hx rfl (hb hby at_29) rfl rfl (l' := #[.val (.int xx), .val (.int sel), .val (.int sm), .val (.int lev), .val .null, .unset]) rfl ?_
            show Steps p.tables e below (T30.setTop (mkF m 31 #[.val (.int xx), .val (.int sel), .val (.int sm), .val (.int lev), .val .null, .unset] [])) t
            refine XS.iloadN X30.here hx rfl (hb hby at_31) rfl ?_
            show Steps p.tables e below (T30.setTop (mkF m 32 #[.val (.int xx), .val (.int sel), .val (.int sm), .val (.int lev), .val .null, .unset] [(.int lev)])) t
            refine st31 _ ?_
            show Steps p.tables e below (T31.setTop (mkF m 35 #[.val (.int xx), .val (.int sel), .val (.int sm), .val (.int lev), .val .null, .unset] [(.ref wE)])) t
            refine XS.astore X31.here hx rfl (hb hby at_35) rfl rfl (l' := #[.val (.int xx), .val (.int sel), .val (.int sm), .val (.int lev), .val .null, .val (.ref wE)]) rfl ?_
            show Steps p.tables e below (T31.setTop (mkF m 37 #[.val (.int xx), .val (.int sel), .val (.int sm), .val (.int lev), .val .null, .val (.ref wE)] [])) t
            refine XS.aload X31.here hx rfl (hb hby at_37) rfl rfl ?_
            show Steps p.tables e below (T31.setTop (mkF m 39 #[.val (.int xx), .val (.int sel), .val (.int sm), .val (.int lev), .val .null, .val (.ref wE)] [(.ref wE)])) t
            refine XS.ifnonnullYes X31.here hx rfl (pc0 := 39) (pc' := 44) rfl (hb hby at_39) rfl (by decide) (by decide) ?_
            show Steps p.tables e below (T31.setTop (mkF m 44 #[.val (.int xx), .val (.int sel), .val (.int sm), .val (.int lev), .val .null, .val (.ref wE)] [])) t
            refine XS.aload X31.here hx rfl (hb hby at_44) rfl rfl ?_
            show Steps p.tables e below (T31.setTop (mkF m 46 #[.val (.int xx), .val (.int sel), .val (.int sm), .val (.int lev), .val .null, .val (.ref wE)] [.null])) t
            refine XS.ifnonnullNo X31.here hx rfl (hb hby at_46) rfl ?_
            show Steps p.tables e below (T31.setTop (mkF m 49 #[.val (.int xx), .val (.int sel), .val (.int sm), .val (.int lev), .val .null, .val (.ref wE)] [])) t
            refine XS.aload X31.here hx rfl (hb hby at_49) rfl rfl ?_
            show Steps p.tables e below (T31.setTop (mkF m 51 #[.val (.int xx), .val (.int sel), .val (.int sm), .val (.int lev), .val .null, .val (.ref wE)] [(.ref wE)])) t
            refine st32.trans ?_
            show Steps p.tables e below (T32.setTop (mkF m 54 #[.val (.int xx), .val (.int sel), .val (.int sm), .val (.int lev), .val .null, .val (.ref wE)] [(.int (0 : Int32))])) t
            refine XS.ifNo X32.here hx rfl (hb hby at_54) rfl ((if0 _ _).trans (teq ((by decide) : (0 : Int32) = (0 : Int32))).2) ?_
            show Steps p.tables e below (T32.setTop (mkF m 57 #[.val (.int xx), .val (.int sel), .val (.int sm), .val (.int lev), .val .null, .val (.ref wE)] [])) t
            refine XS.iconst X32.here hx rfl (hb hby at_57) ?_
            show Steps p.tables e below (T32.setTop (mkF m 58 #[.val (.int xx), .val (.int sel), .val (.int sm), .val (.int lev), .val .null, .val (.ref wE)] [(.int (1 : Int32))])) t
            refine XS.goto X32.here hx rfl (pc0 := 58) (pc' := 62) rfl (hb hby at_58) (by decide) (by decide) ?_
            exact k
          obtain ⟨fs, hr, hrun, hended, hW, hsame⟩ := X32.leave (v := some (.int (1 : Int32))) (fun h => by rw [Bd.returns] at h; cases h)
          refine ⟨_, _, R33 _ ?_, hrun, hended, _, _, rfl, ?_, ⟨_, rfl⟩, hW, hsame.mono (by decide) (by decide)⟩
          · show Steps p.tables e below (T32.setTop (mkF m 62 #[.val (.int xx), .val (.int sel), .val (.int sm), .val (.int lev), .val .null, .val (.ref wE)] [(.int (1 : Int32))])) _
            exact retN X32 hx (t := .boolean) Bd.returns (by simp) (hb hby at_62) hr
          · show Q_rm0 Z w0 w1 w2 w3 w4 wV kV wE xx sel h0 n0 _ T32.heap _
            rw [e32]
            exact ⟨rfl, N32⟩
set_option maxRecDepth 65536 in
set_option maxHeartbeats 40000000 in
theorem comes_1 {Post : Tables → Env → Array Value → State → Outcome → State → Prop} (hpost : ∀ tb e args s v u, (limb_1_1.after args s (.returned v) u = true ∧ limb_1_2.after args s (.returned v) u = true ∧ True) → FrameEnd s (.returned v) u (Jvm.fieldLocs frame_1_writes args s ++ Jvm.arrayLocs frame_1_arrays args s ++ Jvm.staticLocs frame_1_statics s) 16 128 → Post tb e args s (.returned v) u) :
    ArmFor flags0 classFile x code maxLocals ret World_1 tables_1 room_1 Calls_1 rest_1 Pre_1 Post := by
  intro l hfl _ _ p e ha hc hk s m args below hf hA hF happ hP
  obtain ⟨hcalls, hrest, hpre⟩ := hP
  obtain ⟨-, -, -, hnamed, -, -, -, hat⟩ := (Spec.applies_iff hf).mp happ
  obtain ⟨hg, hn⟩ := and_e (Cond.before_iff.mp (show (Jvm.Cond.and given_1 narrow_1).before args s = true from hpre))
  obtain ⟨g1, g2⟩ := and_e hg
  obtain ⟨g3, g4⟩ := and_e g2
  obtain ⟨g5, g6⟩ := and_e hn
  obtain ⟨g7, g8⟩ := and_e g6
  obtain ⟨g9, g10⟩ := and_e g8
  obtain ⟨g11, g12⟩ := and_e g10
  obtain ⟨g13, g14⟩ := and_e g12
  obtain ⟨g15, g16⟩ := and_e g14
  obtain ⟨g17, g18⟩ := and_e g16
  obtain ⟨g19, g20⟩ := and_e g18
  obtain ⟨g21, g22⟩ := and_e g20
  obtain ⟨g23, g24⟩ := and_e g22
  obtain ⟨g25, g26⟩ := and_e g24
  obtain ⟨g27, g28⟩ := and_e g26
  obtain ⟨g29, g30⟩ := and_e g28
  obtain ⟨g31, g32⟩ := and_e g30
  obtain ⟨g33, g34⟩ := and_e g32
  obtain ⟨g35, g36⟩ := and_e g34
  obtain ⟨g37, g38⟩ := and_e g36
  obtain ⟨w0, w1, rfl⟩ : ∃ w0 w1 : Value, args = #[w0, w1] := by
    have hs : args.size = 2 := by simpa [Cond.value, given_1] using g1
    obtain ⟨L⟩ := args
    match L, hs with
    | [w0, w1], _ => exact ⟨w0, w1, rfl⟩
  have hw := fun d (hd : d ∈ tables_1) => atoms_spec (ws := Jvm.Cond.code x code maxLocals ret :: tables_1) hat d (List.mem_cons_of_mem _ hd)
  have hfit : Fit s := fun {y c} hc i hi => by
    obtain ⟨ha, rfl⟩ := Array.getElem?_eq_some_iff.mp hc
    have q := List.all_eq_true.mp ((Array.all_eq_true_iff_forall_mem.mp hF) _ (Array.getElem_mem ha)) i (List.mem_range.mpr hi)
    simpa [Array.getElem?_eq_getElem hi] using q
  obtain ⟨hsets, hown0⟩ := atoms_of _ (rest_1_c_eq ▸ (show rest_1_c.before _ s = true from hrest))
  have hr0 := Cond.before_iff.mp hown0
  obtain ⟨i0, ei0⟩ := is_v g3
  obtain rfl : w0 = (.int i0) := Option.some.inj ei0
  obtain ⟨i1, ei1⟩ := is_v g4
  obtain rfl : w1 = (.int i1) := Option.some.inj ei1
  obtain ⟨w0, ev_w0, S_w0, E_w0⟩ := own_sta g11 (hw _ (List.mem_of_getElem? (i := 6) rfl)) (hw _ (List.mem_of_getElem? (i := 20) rfl))
  obtain ⟨w1, ev_w1, S_w1, E_w1⟩ := own_sta g15 (hw _ (List.mem_of_getElem? (i := 6) rfl)) (hw _ (List.mem_of_getElem? (i := 21) rfl))
  obtain ⟨w2, ev_w2, S_w2, E_w2⟩ := own_sta g19 (hw _ (List.mem_of_getElem? (i := 6) rfl)) (hw _ (List.mem_of_getElem? (i := 22) rfl))
  obtain ⟨w3, ev_w3, S_w3, E_w3⟩ := own_sta g23 (hw _ (List.mem_of_getElem? (i := 6) rfl)) (hw _ (List.mem_of_getElem? (i := 23) rfl))
  obtain ⟨w4, ev_w4, S_w4, E_w4⟩ := own_sta g27 (hw _ (List.mem_of_getElem? (i := 6) rfl)) (hw _ (List.mem_of_getElem? (i := 24) rfl))
  have F_w1 := own_fld ev_w1 g31
  have F_w0 := own_fld ev_w0 g33
  have F_w2 := own_fld ev_w2 g35
  have F_w3 := own_fld ev_w3 g37
  have F_w4 := own_fld ev_w4 g38
  obtain ⟨wV, evV⟩ := arr_v g5
  have S_wV := Sta.start evV (Or.inr ⟨(hw _ (List.mem_of_getElem? (i := 6) rfl)), (hw _ (List.mem_of_getElem? (i := 12) rfl))⟩)
  obtain ⟨cV, ArV⟩ := Arr.start evV g5
  have E_wV := Exa.start evV g7
  have faV := ArV.fin (Vm.Alike.refl _)
  have lnV := own_len evV faV (eqv_i (Term.int_eval (5)) g9)
  have A_wV : Arv s s.heap wV cV.cls (.object "com/example/demarcate/demarcate/Isolation") (5 : Int32) [(.ref w0), (.ref w1), (.ref w2), (.ref w3), (.ref w4)] .null := Arv.start hfit ArV lnV.1 lnV.2 (by decide) rfl ⟨own_elem evV ev_w0 faV (by decide) g13, own_elem evV ev_w1 faV (by decide) g17, own_elem evV ev_w2 faV (by decide) g21, own_elem evV ev_w3 faV (by decide) g25, own_elem evV ev_w4 faV (by decide) g29, trivial⟩
  obtain ⟨wE, ev_wE⟩ := exa_v (Cond.before_iff.mp (hsets _ (List.mem_of_getElem? (i := 2) rfl)))
  have S_wE := Sta.start ev_wE (Or.inl (hsets _ (List.mem_of_getElem? (i := 1) rfl)))
  have E_wE := Exa.start ev_wE (Cond.before_iff.mp (hsets _ (List.mem_of_getElem? (i := 2) rfl)))
  have F_wE := own_fldN ev_wE (Cond.before_iff.mp (hsets _ (List.mem_of_getElem? (i := 3) rfl)))
  have ne_w1_w0 : w1 ≠ w0 := F_w1.ne F_w0 (by decide)
  have ne_w2_w0 : w2 ≠ w0 := F_w2.ne F_w0 (by decide)
  have ne_w3_w0 : w3 ≠ w0 := F_w3.ne F_w0 (by decide)
  have ne_w4_w0 : w4 ≠ w0 := F_w4.ne F_w0 (by decide)
  obtain ⟨n, o, h1, h2, h3, _, L, rfl, ⟨rfl, N⟩, hq⟩ := rm0 l s _ hw tables_1 w0 w1 w2 w3 w4 wV cV.cls wE i0 i1 s.heap s.heap.size (Old.start s) S_w0 S_w1 S_w2 S_w3 S_w4 E_w0 E_w1 E_w2 E_w3 E_w4 F_w1 F_w2 F_w3 F_w4 S_wV E_wV A_wV S_wE E_wE F_wE ne_w1_w0 ne_w2_w0 ne_w3_w0 ne_w4_w0 p e ha hc hk s m _ below hf ((Spec.applies_iff_loose hf).mp happ).1 ⟨rfl, State.Warmed39.refl s, rfl⟩ trivial
  refine ⟨n, _, h1, h2, h3, hpost _ _ _ _ _ _ ⟨Cond.after_iff.mpr rfl, Cond.after_iff.mpr (eq_i res_at (Term.int_eval (1)) rfl), trivial⟩ ⟨hq.1, hq.2.1, (hq.2.2.sift fun y hy => Or.inr (N y hy)).mono (by decide) (by decide)⟩⟩
theorem main_1_1 : Claimed_1_1 := comes_1 fun _ _ _ _ _ _ h hF => ⟨h.1, hF⟩
theorem main_1_2 : Claimed_1_2 := comes_1 fun _ _ _ _ _ _ h hF => ⟨h.2.1, hF⟩
end Jvm.Pilot.@@N@@
namespace Jvm.Pilot.@@N@@
open Jvm Jvm.ClassFile Sem Op Lib Jvm.Free Jvm.Stand Jvm.Pilot.@@N@@.Jvm.D
/-! MADE BY PROGRAM (witnessworld.py) out of the Statement's table words and the real class files: 14 classes; the members and pool entries that the words name. The judged class is class 1, her method 2. -/
namespace start1
open Jvm.ClassFile
def u (s : String) : CpInfo := .utf8 (stringToUtf16 s)
/-- a pool by its gaps: so many unusable entries, then the entry; so many at the end -/
def gap : Nat → List CpInfo → List CpInfo
  | 0, r => r
  | n + 1, r => .unusable :: gap n r
def poolList (es : List (Nat × CpInfo)) (last : Nat) : List CpInfo := es.foldr (fun e r => gap e.1 (e.2 :: r)) (gap last [])
def pool (es : List (Nat × CpInfo)) (last : Nat) : Array CpInfo := ⟨poolList es last⟩
def fileOf (pool : Array CpInfo) (this : Nat) (attrs : Array Attribute := #[]) (ms : Array MethodInfo := #[]) (fl : Nat := 33) (sup : Nat := 0) (ifs : Array Nat := #[]) (fds : Array FieldInfo := #[]) : ClassFile where
  minorVersion := 0
  majorVersion := 65
  constantPool := pool
  accessFlags := fl
  thisClass := this
  superClass := sup
  interfaces := ifs
  fields := fds
  methods := ms
  attributes := attrs
def plain (name : String) (sup : Option ClassId) : Class where
  name := name
  kind := .ordinary
  loader := none
  accessFlags := 33
  super := sup
  interfaces := #[]
  cf := none
  fields := #[]
  methods := #[]
  instanceTypes := #[]
  staticTypes := #[]
  resolved := #[]
  callSites := []
  init := .initialized
  statics := none
  mirror := none

def pool0 : Array CpInfo := pool [(5, u "<init>"), (0, u "()V"), (1, .class_ 10), (1, u "java/lang/Object"), (85, u "clone"), (0, u "()Ljava/lang/Object;")] 26

def k0c0 : Code := { maxStack := 0, maxLocals := 1, code := object_method_1_code, exceptionTable := #[], attributes := #[] }
def k0m0 : Method := { name := "<init>", desc := "()V", sig := { parameters := [], returnType := none }, accessFlags := 1, code := some k0c0 }
def k0m1 : Method := { name := "clone", desc := "()Ljava/lang/Object;", sig := { parameters := [], returnType := some (.object "java/lang/Object") }, accessFlags := 260, code := none }
/-- java/lang/Object -/
def k0 : Class := { plain "java/lang/Object" none with
  accessFlags := 33
  interfaces := #[]
  cf := some (fileOf pool0 8 #[] #[{ accessFlags := 1, nameIndex := 5, descriptorIndex := 6, attributes := #[] }, { accessFlags := 260, nameIndex := 96, descriptorIndex := 97, attributes := #[] }] 33 0 #[] #[])
  fields := #[]
  methods := #[k0m0, k0m1]
  instanceTypes := #[]
  staticTypes := #[]
  resolved := Array.replicate 124 none
  statics := none }

def pool1 : Array CpInfo := pool [(2, .class_ 4), (1, u "java/lang/Object"), (0, u "<init>"), (0, u "()V"), (0, .fieldref 8 9), (0, .class_ 10), (0, .nameAndType 11 12), (0, u "com/example/demarcate/demarcate/Isolation"), (0, u "READ_UNCOMMITTED"), (0, u "Lcom/example/demarcate/demarcate/Isolation;"), (0, .fieldref 8 14), (0, .nameAndType 15 12), (0, u "READ_COMMITTED"), (0, .fieldref 8 17), (0, .nameAndType 18 12), (0, u "REPEATABLE_READ"), (0, .fieldref 8 20), (0, .nameAndType 21 12), (0, u "SERIALIZABLE"), (0, .methodref 23 24), (0, .class_ 25), (0, .nameAndType 26 27), (0, u "com/example/demarcate/demarcate/IsolationOfJdbcLevelPinLaw"), (0, u "expected"), (0, u "(I)Lcom/example/demarcate/demarcate/Isolation;"), (0, .methodref 8 29), (0, .nameAndType 30 31), (0, u "ofJdbcLevel"), (0, u "(I)Ljava/util/Optional;"), (0, .methodref 33 34), (0, .class_ 35), (0, .nameAndType 36 37), (0, u "java/util/Optional"), (0, u "isPresent"), (0, u "()Z"), (0, .methodref 33 39), (0, .nameAndType 40 41), (0, u "get"), (0, u "()Ljava/lang/Object;"), (3, u "law"), (0, u "(II)Z")] 2

def k1m0 : Method := { name := "<init>", desc := "()V", sig := { parameters := [], returnType := none }, accessFlags := 2, code := none }
def k1c1 : Code := { maxStack := 2, maxLocals := 1, code := method_2_code, exceptionTable := #[], attributes := #[] }
def k1m1 : Method := { name := "expected", desc := "(I)Lcom/example/demarcate/demarcate/Isolation;", sig := { parameters := [.int], returnType := some (.object "com/example/demarcate/demarcate/Isolation") }, accessFlags := 10, code := some k1c1 }
def k1c2 : Code := { maxStack := 2, maxLocals := 6, code := code, exceptionTable := #[], attributes := #[] }
def k1m2 : Method := { name := "law", desc := "(II)Z", sig := { parameters := [.int, .int], returnType := some .boolean }, accessFlags := 9, code := some k1c2 }
/-- com/example/demarcate/demarcate/IsolationOfJdbcLevelPinLaw -/
def k1 : Class := { plain "com/example/demarcate/demarcate/IsolationOfJdbcLevelPinLaw" (some 0) with
  accessFlags := 49
  interfaces := #[]
  cf := some (fileOf pool1 23 #[] #[{ accessFlags := 2, nameIndex := 5, descriptorIndex := 6, attributes := #[] }, { accessFlags := 10, nameIndex := 26, descriptorIndex := 27, attributes := #[] }, { accessFlags := 9, nameIndex := 45, descriptorIndex := 46, attributes := #[] }] 49 2 #[] #[])
  fields := #[]
  methods := #[k1m0, k1m1, k1m2]
  instanceTypes := #[]
  staticTypes := #[]
  resolved := Array.replicate 49 none
  statics := none }

def pool2 : Array CpInfo := pool [(1, .class_ 2), (0, u "java/lang/constant/Constable"), (0, .class_ 4), (0, u "java/lang/Object")] 6

/-- java/lang/constant/Constable -/
def k2 : Class := { plain "java/lang/constant/Constable" (some 0) with
  accessFlags := 1537
  interfaces := #[]
  cf := some (fileOf pool2 1 #[] #[] 1537 3 #[] #[])
  fields := #[]
  methods := #[]
  instanceTypes := #[]
  staticTypes := #[]
  resolved := Array.replicate 11 none
  statics := none }

def pool3 : Array CpInfo := pool [(1, .class_ 2), (0, u "java/lang/Comparable"), (0, .class_ 4), (0, u "java/lang/Object")] 7

/-- java/lang/Comparable -/
def k3 : Class := { plain "java/lang/Comparable" (some 0) with
  accessFlags := 1537
  interfaces := #[]
  cf := some (fileOf pool3 1 #[] #[] 1537 3 #[] #[])
  fields := #[]
  methods := #[]
  instanceTypes := #[]
  staticTypes := #[]
  resolved := Array.replicate 12 none
  statics := none }

def pool4 : Array CpInfo := pool [(1, .class_ 2), (0, u "java/io/Serializable"), (0, .class_ 4), (0, u "java/lang/Object")] 2

/-- java/io/Serializable -/
def k4 : Class := { plain "java/io/Serializable" (some 0) with
  accessFlags := 1537
  interfaces := #[]
  cf := some (fileOf pool4 1 #[] #[] 1537 3 #[] #[])
  fields := #[]
  methods := #[]
  instanceTypes := #[]
  staticTypes := #[]
  resolved := Array.replicate 7 none
  statics := none }

def pool5 : Array CpInfo := pool [(2, .class_ 4), (1, u "java/lang/Enum"), (0, u "name"), (0, u "Ljava/lang/String;"), (0, .fieldref 2 8), (0, .nameAndType 9 10), (0, u "ordinal"), (0, u "I"), (1, .class_ 14), (1, u "java/lang/Object"), (4, u "hash"), (86, .class_ 108), (1, u "java/lang/Enum$EnumDesc"), (2, .class_ 112), (0, u "java/lang/constant/Constable"), (0, .class_ 114), (0, u "java/lang/Comparable"), (0, .class_ 116), (0, u "java/io/Serializable"), (9, u "()I")] 77

def k5c0 : Code := { maxStack := 1, maxLocals := 1, code := jdk_37_method_2_code, exceptionTable := #[], attributes := #[] }
def k5m0 : Method := { name := "ordinal", desc := "()I", sig := { parameters := [], returnType := some .int }, accessFlags := 17, code := some k5c0 }
/-- java/lang/Enum -/
def k5 : Class := { plain "java/lang/Enum" (some 0) with
  accessFlags := 1057
  interfaces := #[2, 3, 4]
  cf := some (fileOf pool5 2 #[.nestMembers #[106]] #[{ accessFlags := 17, nameIndex := 9, descriptorIndex := 126, attributes := #[] }] 1057 12 #[111, 113, 115] #[{ accessFlags := 18, nameIndex := 5, descriptorIndex := 6, attributes := #[] }, { accessFlags := 18, nameIndex := 9, descriptorIndex := 10, attributes := #[] }, { accessFlags := 2, nameIndex := 19, descriptorIndex := 10, attributes := #[] }])
  fields := #[{ name := "name", type := (.object "java/lang/String"), accessFlags := 18, slot := 0, constantValue := 0 }, { name := "ordinal", type := .int, accessFlags := 18, slot := 1, constantValue := 0 }, { name := "hash", type := .int, accessFlags := 2, slot := 2, constantValue := 0 }]
  methods := #[k5m0]
  instanceTypes := #[(.object "java/lang/String"), .int, .int]
  staticTypes := #[]
  resolved := Array.replicate 204 none
  statics := none }

def pool6 : Array CpInfo := pool [(1, .class_ 2), (0, u "com/example/demarcate/demarcate/Isolation"), (0, .fieldref 1 4), (0, .nameAndType 5 6), (0, u "DEFAULT"), (0, u "Lcom/example/demarcate/demarcate/Isolation;"), (2, u "READ_UNCOMMITTED"), (2, u "READ_COMMITTED"), (2, u "REPEATABLE_READ"), (2, u "SERIALIZABLE"), (0, .fieldref 1 20), (0, .nameAndType 21 22), (0, u "$VALUES"), (0, u "[Lcom/example/demarcate/demarcate/Isolation;"), (0, .methodref 24 25), (0, .class_ 22), (0, .nameAndType 26 27), (0, u "clone"), (0, u "()Ljava/lang/Object;"), (1, .class_ 31), (1, u "java/lang/Enum"), (6, .methodref 1 39), (0, .nameAndType 40 41), (0, u "ordinal"), (0, u "()I"), (14, .methodref 1 57), (0, .nameAndType 58 59), (0, u "values"), (0, u "()[Lcom/example/demarcate/demarcate/Isolation;"), (0, .methodref 1 61), (0, .nameAndType 62 41), (0, u "jdbcLevel"), (0, .methodref 64 65), (0, .class_ 66), (0, .nameAndType 67 68), (0, u "java/util/Optional"), (0, u "ofNullable"), (0, u "(Ljava/lang/Object;)Ljava/util/Optional;"), (4, u "ofJdbcLevel"), (0, u "(I)Ljava/util/Optional;")] 79

def k6c0 : Code := { maxStack := 1, maxLocals := 0, code := prog_11_method_1_code, exceptionTable := #[], attributes := #[] }
def k6m0 : Method := { name := "values", desc := "()[Lcom/example/demarcate/demarcate/Isolation;", sig := { parameters := [], returnType := some (.array (.object "com/example/demarcate/demarcate/Isolation")) }, accessFlags := 9, code := some k6c0 }
def k6c1 : Code := { maxStack := 4, maxLocals := 1, code := prog_11_method_4_code, exceptionTable := #[], attributes := #[] }
def k6m1 : Method := { name := "jdbcLevel", desc := "()I", sig := { parameters := [], returnType := some .int }, accessFlags := 0, code := some k6c1 }
def k6c2 : Code := { maxStack := 2, maxLocals := 6, code := prog_11_method_5_code, exceptionTable := #[], attributes := #[] }
def k6m2 : Method := { name := "ofJdbcLevel", desc := "(I)Ljava/util/Optional;", sig := { parameters := [.int], returnType := some (.object "java/util/Optional") }, accessFlags := 8, code := some k6c2 }
/-- com/example/demarcate/demarcate/Isolation -/
def k6 : Class := { plain "com/example/demarcate/demarcate/Isolation" (some 5) with
  accessFlags := 16433
  interfaces := #[]
  cf := some (fileOf pool6 1 #[] #[{ accessFlags := 9, nameIndex := 58, descriptorIndex := 59, attributes := #[] }, { accessFlags := 0, nameIndex := 62, descriptorIndex := 41, attributes := #[] }, { accessFlags := 8, nameIndex := 73, descriptorIndex := 74, attributes := #[] }] 16433 29 #[] #[{ accessFlags := 16409, nameIndex := 5, descriptorIndex := 6, attributes := #[] }, { accessFlags := 16409, nameIndex := 9, descriptorIndex := 6, attributes := #[] }, { accessFlags := 16409, nameIndex := 12, descriptorIndex := 6, attributes := #[] }, { accessFlags := 16409, nameIndex := 15, descriptorIndex := 6, attributes := #[] }, { accessFlags := 16409, nameIndex := 18, descriptorIndex := 6, attributes := #[] }, { accessFlags := 4122, nameIndex := 21, descriptorIndex := 22, attributes := #[] }])
  fields := #[{ name := "DEFAULT", type := (.object "com/example/demarcate/demarcate/Isolation"), accessFlags := 16409, slot := 0, constantValue := 0 }, { name := "READ_UNCOMMITTED", type := (.object "com/example/demarcate/demarcate/Isolation"), accessFlags := 16409, slot := 1, constantValue := 0 }, { name := "READ_COMMITTED", type := (.object "com/example/demarcate/demarcate/Isolation"), accessFlags := 16409, slot := 2, constantValue := 0 }, { name := "REPEATABLE_READ", type := (.object "com/example/demarcate/demarcate/Isolation"), accessFlags := 16409, slot := 3, constantValue := 0 }, { name := "SERIALIZABLE", type := (.object "com/example/demarcate/demarcate/Isolation"), accessFlags := 16409, slot := 4, constantValue := 0 }, { name := "$VALUES", type := (.array (.object "com/example/demarcate/demarcate/Isolation")), accessFlags := 4122, slot := 5, constantValue := 0 }]
  methods := #[k6m0, k6m1, k6m2]
  instanceTypes := #[(.object "java/lang/String"), .int, .int]
  staticTypes := #[(.object "com/example/demarcate/demarcate/Isolation"), (.object "com/example/demarcate/demarcate/Isolation"), (.object "com/example/demarcate/demarcate/Isolation"), (.object "com/example/demarcate/demarcate/Isolation"), (.object "com/example/demarcate/demarcate/Isolation"), (.array (.object "com/example/demarcate/demarcate/Isolation"))]
  resolved := Array.replicate 154 none
  statics := some 0 }

def pool7 : Array CpInfo := pool [(1, .class_ 2), (0, u "java/lang/Cloneable"), (0, .class_ 4), (0, u "java/lang/Object")] 2

/-- java/lang/Cloneable -/
def k7 : Class := { plain "java/lang/Cloneable" (some 0) with
  accessFlags := 1537
  interfaces := #[]
  cf := some (fileOf pool7 1 #[] #[] 1537 3 #[] #[])
  fields := #[]
  methods := #[]
  instanceTypes := #[]
  staticTypes := #[]
  resolved := Array.replicate 7 none
  statics := none }

def pool8 : Array CpInfo := pool [(1, .fieldref 2 3), (0, .class_ 4), (0, .nameAndType 5 6), (0, u "java/util/Optional"), (0, u "EMPTY"), (0, u "Ljava/util/Optional;"), (0, .methodref 8 9), (0, .class_ 10), (0, .nameAndType 11 12), (0, u "java/lang/Object"), (0, u "<init>"), (0, u "()V"), (0, .fieldref 2 14), (0, .nameAndType 15 16), (0, u "value"), (0, u "Ljava/lang/Object;"), (6, .methodref 2 24), (0, .nameAndType 11 25), (0, u "(Ljava/lang/Object;)V"), (20, u "()Z"), (17, u "ofNullable"), (0, u "(Ljava/lang/Object;)Ljava/util/Optional;"), (2, u "isPresent"), (4, u "get"), (0, u "()Ljava/lang/Object;")] 112

def k8c0 : Code := { maxStack := 2, maxLocals := 2, code := jdk_32_method_2_code, exceptionTable := #[], attributes := #[] }
def k8m0 : Method := { name := "<init>", desc := "(Ljava/lang/Object;)V", sig := { parameters := [(.object "java/lang/Object")], returnType := none }, accessFlags := 2, code := some k8c0 }
def k8c1 : Code := { maxStack := 3, maxLocals := 1, code := jdk_32_method_4_code, exceptionTable := #[], attributes := #[] }
def k8m1 : Method := { name := "ofNullable", desc := "(Ljava/lang/Object;)Ljava/util/Optional;", sig := { parameters := [(.object "java/lang/Object")], returnType := some (.object "java/util/Optional") }, accessFlags := 9, code := some k8c1 }
def k8c2 : Code := { maxStack := 3, maxLocals := 1, code := jdk_32_method_5_code, exceptionTable := #[], attributes := #[] }
def k8m2 : Method := { name := "get", desc := "()Ljava/lang/Object;", sig := { parameters := [], returnType := some (.object "java/lang/Object") }, accessFlags := 1, code := some k8c2 }
def k8c3 : Code := { maxStack := 1, maxLocals := 1, code := jdk_32_method_6_code, exceptionTable := #[], attributes := #[] }
def k8m3 : Method := { name := "isPresent", desc := "()Z", sig := { parameters := [], returnType := some .boolean }, accessFlags := 1, code := some k8c3 }
/-- java/util/Optional -/
def k8 : Class := { plain "java/util/Optional" (some 0) with
  accessFlags := 49
  interfaces := #[]
  cf := some (fileOf pool8 2 #[] #[{ accessFlags := 2, nameIndex := 11, descriptorIndex := 25, attributes := #[] }, { accessFlags := 9, nameIndex := 64, descriptorIndex := 65, attributes := #[] }, { accessFlags := 1, nameIndex := 73, descriptorIndex := 74, attributes := #[] }, { accessFlags := 1, nameIndex := 68, descriptorIndex := 46, attributes := #[] }] 49 8 #[] #[{ accessFlags := 26, nameIndex := 5, descriptorIndex := 6, attributes := #[] }, { accessFlags := 18, nameIndex := 15, descriptorIndex := 16, attributes := #[] }])
  fields := #[{ name := "EMPTY", type := (.object "java/util/Optional"), accessFlags := 26, slot := 0, constantValue := 0 }, { name := "value", type := (.object "java/lang/Object"), accessFlags := 18, slot := 0, constantValue := 0 }]
  methods := #[k8m0, k8m1, k8m2, k8m3]
  instanceTypes := #[(.object "java/lang/Object")]
  staticTypes := #[(.object "java/util/Optional")]
  resolved := Array.replicate 187 none
  statics := some 1 }

/-- the primitive byte -/
def k9 : Class := { plain "byte" none with kind := .primitive 'B', accessFlags := 0x411 }
/-- [B -/
def k10 : Class := { plain "[B" (some 0) with kind := .array 9 .byte, interfaces := #[7, 4], accessFlags := 1041 }

/-- the primitive int -/
def k11 : Class := { plain "int" none with kind := .primitive 'I', accessFlags := 0x411 }
/-- [I -/
def k12 : Class := { plain "[I" (some 0) with kind := .array 11 .int, interfaces := #[7, 4], accessFlags := 1041 }

/-- [Lcom/example/demarcate/demarcate/Isolation; -/
def k13 : Class := { plain "[Lcom/example/demarcate/demarcate/Isolation;" (some 0) with kind := .array 6 (.object "com/example/demarcate/demarcate/Isolation"), interfaces := #[7, 4], accessFlags := 1041 }

def heap : Heap := #[{ cls := 6, slots := #[.ref 3, .ref 4, .ref 5, .ref 6, .ref 7, .ref 2], vm := .statics 6 },
  { cls := 8, slots := #[.ref 8], vm := .statics 8 },
  { cls := 13, slots := #[.ref 3, .ref 4, .ref 5, .ref 6, .ref 7], vm := .none },
  { cls := 6, slots := #[.null, .int 0, .int 0], vm := .none },
  { cls := 6, slots := #[.null, .int 1, .int 0], vm := .none },
  { cls := 6, slots := #[.null, .int 2, .int 0], vm := .none },
  { cls := 6, slots := #[.null, .int 3, .int 0], vm := .none },
  { cls := 6, slots := #[.null, .int 4, .int 0], vm := .none },
  { cls := 8, slots := #[.null], vm := .none }]
def classes : Array Class := #[k0, k1, k2, k3, k4, k5, k6, k7, k8, k9, k10, k11, k12, k13]
def interned : List (Array UInt16 × Addr) := []
def slotsUsed : Nat := 28
def theMethod : MethodId := ⟨1, 2⟩
def args0 : Array Value := #[.int 5, .int 0]
def aboutOver (below : List Frame) : State where
  vm := { classes := classes, interned := interned.toArray }
  heap := heap
  slotsUsed := slotsUsed
  threads := #[{ frames := .invoking theMethod args0 :: below }]
def below0 : List Frame := [.native { method := ⟨0, 0⟩, args := #[] }]
def about1 : State := aboutOver below0
def p0 : Program := .bare "" "" ""
def e0 : Env := launch0.env 0 0 0
theorem w_frames : about1.frames = Frame.invoking theMethod args0 :: below0 := rfl
set_option maxRecDepth 65536 in
theorem w_args : argsFit about1.vm theMethod args0 = true := by decide +kernel
set_option maxRecDepth 65536 in
theorem w_heap : heapFits about1 = true := by decide +kernel
set_option maxRecDepth 65536 in
theorem w_runnable : about1.curStatus? = some .runnable := by decide +kernel
set_option maxRecDepth 65536 in
theorem w_alone : about1.alone = true := by decide +kernel
set_option maxRecDepth 65536 in
theorem w_named : about1.methodNamed? x = some theMethod := by decide +kernel
set_option maxRecDepth 65536 in
theorem w_hears : about1.hears theMethod below0 = true := by decide +kernel
set_option maxRecDepth 65536 in
theorem w_ripe : about1.ripe theMethod args0 below0 = true := by decide +kernel
theorem w_running : about1.status = .running := rfl
set_option maxRecDepth 65536 in
theorem w_room : about1.hasRoom e0.platform room_1 = true :=
  launch0.hasRoom_least _ room_1 (by decide +kernel) (by decide +kernel) (by decide +kernel) (by decide +kernel) (by decide +kernel) (by decide +kernel)
theorem allAtoms_all (ts : List Jvm.Cond) (a : Array Jvm.Value) (st : Jvm.State) : (allAtoms ts).before a st = ts.all (fun c => c.before a st) := by
  induction ts with
  | nil => rfl
  | cons c t ih =>
    show (Jvm.Cond.and c (allAtoms t)).before a st = _
    rw [Jvm.Cond.before_and, ih, List.all_cons]
def words1 : List Jvm.Cond := Jvm.Cond.code x code maxLocals ret :: tables_1
/-- a 'code' word, met by the world's own term for the bytes: nothing is compared byte by byte -/
theorem code_word {y : MethodName} {bytes : ByteArray} {mx : Nat} {rt : Option FieldType} {a : Array Value} {s : State} {m : MethodId} {meth : Method} {c : Code} (h1 : s.methodNamed? y = some m) (h2 : s.vm.method? m = some meth) (h3 : meth.code = some c) (h4 : c.code = bytes)
    (h5 : (c.maxLocals == mx && c.exceptionTable.isEmpty && decide (c.maxStack ≤ mostOperands) && decide (meth.sig.returnType = rt) && !meth.locks && decide (parseMethodDescriptor y.desc = some meth.sig)) = true) : (Jvm.Cond.code y bytes mx rt).before a s = true := by
  simp only [Bool.and_eq_true, beq_iff_eq, Bool.not_eq_true', decide_eq_true_eq] at h5
  obtain ⟨⟨⟨⟨⟨g1, g2⟩, g3⟩, g4⟩, g5⟩, g6⟩ := h5
  simp [Cond.before, Cond.holds, Cond.value, h1, h2, h3, h4, g1, g2, g3, g4, g5, g6]
def isCode : Jvm.Cond → Bool
  | .code _ _ _ _ => true
  | _ => false
theorem all_split {L : List Jvm.Cond} {P : Jvm.Cond → Bool} (h1 : L.all (fun c => isCode c || P c) = true) (h2 : ∀ c ∈ L.filter isCode, P c = true) : L.all P = true := by
  refine List.all_eq_true.mpr fun c hc => ?_
  have h := List.all_eq_true.mp h1 c hc
  rcases Bool.eq_false_or_eq_true (isCode c) with hi | hi
  · exact h2 c (List.mem_filter.mpr ⟨hc, hi⟩)
  · simpa [hi] using h
set_option maxRecDepth 65536 in
theorem w_c0 : (Jvm.Cond.code x code maxLocals ret).before args0 about1 = true := code_word (m := ⟨1, 2⟩) (meth := k1m2) (c := k1c2) (by decide +kernel) rfl rfl rfl (by decide +kernel)
set_option maxRecDepth 65536 in
theorem w_c1 : (Jvm.Cond.code ({ cls := "com/example/demarcate/demarcate/IsolationOfJdbcLevelPinLaw", name := "expected", desc := "(I)Lcom/example/demarcate/demarcate/Isolation;" } : Jvm.MethodName) method_2_code (1 : Nat) (Option.some (Jvm.ClassFile.FieldType.object "com/example/demarcate/demarcate/Isolation"))).before args0 about1 = true := code_word (m := ⟨1, 1⟩) (meth := k1m1) (c := k1c1) (by decide +kernel) rfl rfl rfl (by decide +kernel)
set_option maxRecDepth 65536 in
theorem w_c2 : (Jvm.Cond.code ({ cls := "com/example/demarcate/demarcate/Isolation", name := "ofJdbcLevel", desc := "(I)Ljava/util/Optional;" } : Jvm.MethodName) prog_11_method_5_code (6 : Nat) (Option.some (Jvm.ClassFile.FieldType.object "java/util/Optional"))).before args0 about1 = true := code_word (m := ⟨6, 2⟩) (meth := k6m2) (c := k6c2) (by decide +kernel) rfl rfl rfl (by decide +kernel)
set_option maxRecDepth 65536 in
theorem w_c3 : (Jvm.Cond.code ({ cls := "com/example/demarcate/demarcate/Isolation", name := "values", desc := "()[Lcom/example/demarcate/demarcate/Isolation;" } : Jvm.MethodName) prog_11_method_1_code (0 : Nat) (Option.some (Jvm.ClassFile.FieldType.array (Jvm.ClassFile.FieldType.object "com/example/demarcate/demarcate/Isolation")))).before args0 about1 = true := code_word (m := ⟨6, 0⟩) (meth := k6m0) (c := k6c0) (by decide +kernel) rfl rfl rfl (by decide +kernel)
set_option maxRecDepth 65536 in
theorem w_c4 : (Jvm.Cond.code ({ cls := "com/example/demarcate/demarcate/Isolation", name := "jdbcLevel", desc := "()I" } : Jvm.MethodName) prog_11_method_4_code (1 : Nat) (Option.some Jvm.ClassFile.FieldType.int)).before args0 about1 = true := code_word (m := ⟨6, 1⟩) (meth := k6m1) (c := k6c1) (by decide +kernel) rfl rfl rfl (by decide +kernel)
set_option maxRecDepth 65536 in
theorem w_c5 : (Jvm.Cond.code ({ cls := "java/lang/Enum", name := "ordinal", desc := "()I" } : Jvm.MethodName) jdk_37_method_2_code (1 : Nat) (Option.some Jvm.ClassFile.FieldType.int)).before args0 about1 = true := code_word (m := ⟨5, 0⟩) (meth := k5m0) (c := k5c0) (by decide +kernel) rfl rfl rfl (by decide +kernel)
set_option maxRecDepth 65536 in
theorem w_c6 : (Jvm.Cond.code ({ cls := "java/util/Optional", name := "ofNullable", desc := "(Ljava/lang/Object;)Ljava/util/Optional;" } : Jvm.MethodName) jdk_32_method_4_code (1 : Nat) (Option.some (Jvm.ClassFile.FieldType.object "java/util/Optional"))).before args0 about1 = true := code_word (m := ⟨8, 1⟩) (meth := k8m1) (c := k8c1) (by decide +kernel) rfl rfl rfl (by decide +kernel)
set_option maxRecDepth 65536 in
theorem w_c7 : (Jvm.Cond.code ({ cls := "java/util/Optional", name := "isPresent", desc := "()Z" } : Jvm.MethodName) jdk_32_method_6_code (1 : Nat) (Option.some Jvm.ClassFile.FieldType.boolean)).before args0 about1 = true := code_word (m := ⟨8, 3⟩) (meth := k8m3) (c := k8c3) (by decide +kernel) rfl rfl rfl (by decide +kernel)
set_option maxRecDepth 65536 in
theorem w_c8 : (Jvm.Cond.code ({ cls := "java/util/Optional", name := "<init>", desc := "(Ljava/lang/Object;)V" } : Jvm.MethodName) jdk_32_method_2_code (2 : Nat) (Option.none : Option Jvm.ClassFile.FieldType)).before args0 about1 = true := code_word (m := ⟨8, 0⟩) (meth := k8m0) (c := k8c0) (by decide +kernel) rfl rfl rfl (by decide +kernel)
set_option maxRecDepth 65536 in
theorem w_c9 : (Jvm.Cond.code ({ cls := "java/lang/Object", name := "<init>", desc := "()V" } : Jvm.MethodName) object_method_1_code (1 : Nat) (Option.none : Option Jvm.ClassFile.FieldType)).before args0 about1 = true := code_word (m := ⟨0, 0⟩) (meth := k0m0) (c := k0c0) (by decide +kernel) rfl rfl rfl (by decide +kernel)
set_option maxRecDepth 65536 in
theorem w_c10 : (Jvm.Cond.code ({ cls := "java/util/Optional", name := "get", desc := "()Ljava/lang/Object;" } : Jvm.MethodName) jdk_32_method_5_code (1 : Nat) (Option.some (Jvm.ClassFile.FieldType.object "java/lang/Object"))).before args0 about1 = true := code_word (m := ⟨8, 2⟩) (meth := k8m2) (c := k8c2) (by decide +kernel) rfl rfl rfl (by decide +kernel)
def codes1 : List Jvm.Cond := [Jvm.Cond.code x code maxLocals ret, Jvm.Cond.code ({ cls := "com/example/demarcate/demarcate/IsolationOfJdbcLevelPinLaw", name := "expected", desc := "(I)Lcom/example/demarcate/demarcate/Isolation;" } : Jvm.MethodName) method_2_code (1 : Nat) (Option.some (Jvm.ClassFile.FieldType.object "com/example/demarcate/demarcate/Isolation")), Jvm.Cond.code ({ cls := "com/example/demarcate/demarcate/Isolation", name := "ofJdbcLevel", desc := "(I)Ljava/util/Optional;" } : Jvm.MethodName) prog_11_method_5_code (6 : Nat) (Option.some (Jvm.ClassFile.FieldType.object "java/util/Optional")), Jvm.Cond.code ({ cls := "com/example/demarcate/demarcate/Isolation", name := "values", desc := "()[Lcom/example/demarcate/demarcate/Isolation;" } : Jvm.MethodName) prog_11_method_1_code (0 : Nat) (Option.some (Jvm.ClassFile.FieldType.array (Jvm.ClassFile.FieldType.object "com/example/demarcate/demarcate/Isolation"))), Jvm.Cond.code ({ cls := "com/example/demarcate/demarcate/Isolation", name := "jdbcLevel", desc := "()I" } : Jvm.MethodName) prog_11_method_4_code (1 : Nat) (Option.some Jvm.ClassFile.FieldType.int), Jvm.Cond.code ({ cls := "java/lang/Enum", name := "ordinal", desc := "()I" } : Jvm.MethodName) jdk_37_method_2_code (1 : Nat) (Option.some Jvm.ClassFile.FieldType.int), Jvm.Cond.code ({ cls := "java/util/Optional", name := "ofNullable", desc := "(Ljava/lang/Object;)Ljava/util/Optional;" } : Jvm.MethodName) jdk_32_method_4_code (1 : Nat) (Option.some (Jvm.ClassFile.FieldType.object "java/util/Optional")), Jvm.Cond.code ({ cls := "java/util/Optional", name := "isPresent", desc := "()Z" } : Jvm.MethodName) jdk_32_method_6_code (1 : Nat) (Option.some Jvm.ClassFile.FieldType.boolean), Jvm.Cond.code ({ cls := "java/util/Optional", name := "<init>", desc := "(Ljava/lang/Object;)V" } : Jvm.MethodName) jdk_32_method_2_code (2 : Nat) (Option.none : Option Jvm.ClassFile.FieldType), Jvm.Cond.code ({ cls := "java/lang/Object", name := "<init>", desc := "()V" } : Jvm.MethodName) object_method_1_code (1 : Nat) (Option.none : Option Jvm.ClassFile.FieldType), Jvm.Cond.code ({ cls := "java/util/Optional", name := "get", desc := "()Ljava/lang/Object;" } : Jvm.MethodName) jdk_32_method_5_code (1 : Nat) (Option.some (Jvm.ClassFile.FieldType.object "java/lang/Object"))]
set_option maxRecDepth 65536 in
theorem codes_eq : words1.filter isCode = codes1 := rfl
theorem w_codes : ∀ c ∈ words1.filter isCode, c.before args0 about1 = true := by
  rw [codes_eq]
  intro c hc
  simp only [codes1, List.mem_cons, List.not_mem_nil, or_false] at hc
  rcases hc with rfl | rfl | rfl | rfl | rfl | rfl | rfl | rfl | rfl | rfl | rfl
  · exact w_c0
  · exact w_c1
  · exact w_c2
  · exact w_c3
  · exact w_c4
  · exact w_c5
  · exact w_c6
  · exact w_c7
  · exact w_c8
  · exact w_c9
  · exact w_c10
set_option maxRecDepth 65536 in
theorem w_t1 : (words1.take 24).all (fun c => isCode c || c.before args0 about1) = true := by decide +kernel
set_option maxRecDepth 65536 in
theorem w_t2 : ((words1.drop 24).take 24).all (fun c => isCode c || c.before args0 about1) = true := by decide +kernel
set_option maxRecDepth 65536 in
theorem w_t3 : (((words1.drop 24).drop 24).take 24).all (fun c => isCode c || c.before args0 about1) = true := by decide +kernel
set_option maxRecDepth 65536 in
theorem w_t4 : (((words1.drop 24).drop 24).drop 24).all (fun c => isCode c || c.before args0 about1) = true := by decide +kernel
theorem w_tables : (allAtoms (Jvm.Cond.code x code maxLocals ret :: tables_1)).before args0 about1 = true := by
  rw [allAtoms_all]
  show words1.all (fun c => c.before args0 about1) = true
  refine all_split ?_ w_codes
  rw [← List.take_append_drop 24 words1, List.all_append, w_t1, ← List.take_append_drop 24 (words1.drop 24), List.all_append, w_t2, ← List.take_append_drop 24 ((words1.drop 24).drop 24), List.all_append, w_t3, w_t4]
  rfl
set_option maxRecDepth 65536 in
theorem w_rest : rest_1_c.before args0 about1 = true := by decide +kernel
set_option maxRecDepth 65536 in
theorem w_case : (Jvm.Cond.and given_1 narrow_1).before args0 about1 = true := by decide +kernel
theorem w_applies : (headSpec (Jvm.Cond.code x code maxLocals ret :: tables_1) room_1).applies x e0.platform about1 = true :=
  (Spec.applies_iff w_frames).mpr ⟨w_running, w_runnable, w_alone, w_named, w_hears, w_ripe, w_room, w_tables⟩
theorem atStart : AtStart classFile x code maxLocals ret World_1 tables_1 room_1 Calls_1 rest_1 Pre_1 launch0 p0 e0 about1 theMethod args0 below0 :=
  ⟨lists_1, trivial, launch0.admits_env _ _ _, launch0.least_env, fairChoices_fair.cas, fairChoices_fair.clock, w_frames, w_args, w_heap, w_applies, trivial, w_rest, w_case⟩
end start1
theorem witness_1 : WitnessClaimed_1 := ⟨start1.p0, start1.e0, start1.about1, start1.theMethod, start1.args0, start1.below0, start1.atStart⟩
end Jvm.Pilot.@@N@@
