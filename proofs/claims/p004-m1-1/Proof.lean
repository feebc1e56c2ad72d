import JvmDerived
import JvmDerived.Pilot.@@N@@Statement
import JvmDerived.Pilot.@@N@@Code
set_option linter.unusedVariables false
set_option linter.unusedSimpArgs false
namespace Jvm.Pilot.@@N@@
open Jvm Jvm.ClassFile Sem Op Lib Jvm.Free Jvm.Stand Jvm.LawKit Jvm.RoadKit Bundle Jvm.Pilot.@@N@@.Jvm.D
theorem own_sta {s : State} {args : Array Value} {C n d K : String} (hx : (Jvm.Cond.exactly (Term.static C n d) K).value args s none s [] = some true) (wi : (Jvm.Cond.initialized C).before args s = true) (wl : (Jvm.Cond.laysStatic C n d).before args s = true) :
    ∃ w : Addr, (Term.static C n d).eval args s none [] s = some (.ref w) ∧ Sta s s.heap C n d (.ref w) ∧ Exa s s.heap w K := by
  obtain ⟨w, ew⟩ := exa_v hx
  exact ⟨w, ew, Sta.start ew (Or.inr ⟨wi, wl⟩), Exa.start ew hx⟩
theorem own_fld {s : State} {args : Array Value} {t : Term} {w : Addr} {C n d : String} {k : Int32} (ev : t.eval args s none [] s = some (.ref w)) (hx : (Jvm.Cond.eq (Term.field t C n d) (Term.int k)).value args s none s [] = some true) : Fld s s.heap w C n d (.int k) := by
  have e1 := fld_at (C := C) (n := n) (dd := d) ev
  refine Fld.start ?_
  cases hv : s.fieldOf? w C n d with
  | none => rw [hv] at e1; simp [Cond.value, e1] at hx
  | some v =>
    rw [hv] at e1
    have e2 : (Term.int k).eval args s none [] s = some (.int k) := Term.int_eval k
    cases v <;> simp [Cond.value, e1, e2] at hx ⊢
    exact hx
theorem own_fldR {s : State} {args : Array Value} {t u : Term} {w z : Addr} {C n d : String} (ev : t.eval args s none [] s = some (.ref w)) (eu : u.eval args s none [] s = some (.ref z)) (hx : (Jvm.Cond.eq (Term.field t C n d) u).value args s none s [] = some true) : Fld s s.heap w C n d (.ref z) := by
  have e1 := fld_at (C := C) (n := n) (dd := d) ev
  refine Fld.start ?_
  cases hv : s.fieldOf? w C n d with
  | none => rw [hv] at e1; simp [Cond.value, e1] at hx
  | some v =>
    rw [hv] at e1
    cases v <;> simp [Cond.value, e1, eu] at hx ⊢
    exact hx
theorem own_nsR {Z : State} {a0 : Array Value} {O K : String} {n : Nat} (w : (Jvm.Cond.noSuperclass O).before a0 Z = true) (wi : (Jvm.Cond.instantiable K n).before a0 Z = true) (hn : O ≠ K) : NS Z O K := by
  obtain ⟨c, k, h1, h2, h3, -⟩ := Cond.noSuperclass_spec w
  obtain ⟨t, kt, g1, -⟩ := Cond.instantiable_spec wi
  exact ⟨c, t, h1, g1, fun fuel => by cases fuel <;> simp [Vm.isSubclassAux, ids_ne h1 g1 hn, h2, h3]⟩
theorem own_nsN {Z : State} {a0 : Array Value} {C S K : String} {n : Nat} (w : (Jvm.Cond.superclass C S).before a0 Z = true) (wi : (Jvm.Cond.instantiable K n).before a0 Z = true) (nn : NS Z C K) (hn : C ≠ K) : ∃ c t, Z.vm.findClass C = some c ∧ Z.vm.findClass K = some t ∧ Z.vm.assignable c t = false := by
  obtain ⟨c, t, h0, g0, n3⟩ := nn
  obtain ⟨_, k, _, -, h2, -, -, h5, -⟩ := Cond.superclass_spec h0 w
  obtain ⟨t', kt, g1, g2, g3, g4, -⟩ := Cond.instantiable_spec wi
  cases g0.symm.trans g1
  have g5 : kt.isInterface = false := (Bool.or_eq_false_iff.mp g4).1
  exact ⟨c, t, h0, g0, by show Z.vm.assignableAux (255 + 1) c t = false; simp [Vm.assignableAux, ids_ne h0 g0 hn, h2, g2, h5, g3, g5, Vm.isSubclass, n3]⟩
theorem own_elem {s : State} {args : Array Value} {t u : Term} {a z : Addr} {cl : Cell} {j : Int32} (ev : t.eval args s none [] s = some (.ref a)) (eu : u.eval args s none [] s = some (.ref z)) (ha : s.arrayAt? a = some cl) (hn : ¬ j < 0) (hx : (Jvm.Cond.eq (Term.elem t (Term.int j)) u).value args s none s [] = some true) : cl.slots[j.toNatClampNeg]? = some (.ref z) := by
  have e1 := elem_f ev (Term.int_eval j) ha hn
  cases hv : cl.slots[j.toNatClampNeg]? with
  | none => rw [hv] at e1; simp [Cond.value, e1] at hx
  | some v =>
    rw [hv] at e1
    cases v <;> simp [Cond.value, e1, eu] at hx ⊢
    exact hx
theorem own_fldN {s : State} {args : Array Value} {t : Term} {w : Addr} {C n d : String} (ev : t.eval args s none [] s = some (.ref w)) (hx : (Jvm.Cond.eq (Term.field t C n d) Term.null).value args s none s [] = some true) : Fld s s.heap w C n d .null := by
  have e1 := fld_at (C := C) (n := n) (dd := d) ev
  have e2 := null_v hx
  rw [e1] at e2
  exact Fld.start e2
theorem refCat {v : Value} (h : v.isRef = true) : v.category = 1 := by rcases ref_cases h with rfl | ⟨a, rfl⟩ <;> rfl
theorem refNar {v : Value} {C : String} (h : v.isRef = true) : narrow (.object C) v = v := by rcases ref_cases h with rfl | ⟨a, rfl⟩ <;> rfl
theorem refFit {v : Value} {C : String} (h : v.isRef = true) : fits (.object C) v = true := by rcases ref_cases h with rfl | ⟨a, rfl⟩ <;> rfl
theorem d3_0 : decode jdk_30_method_1_code 0 = .ok (.aload_n 0, 1) := by decide +kernel
theorem d3_1 : decode jdk_30_method_1_code 1 = .ok (.invokespecial 1, 3) := by decide +kernel
theorem d3_4 : decode jdk_30_method_1_code 4 = .ok (.return_, 1) := by decide +kernel
theorem pn_java_lang_Record : plainName "java/lang/Record" = true := by first | (simp [plainName, overriddenIn]; done) | decide +kernel
theorem ef_rec (m : MethodId) (a : Addr) : entryFrame m #[(.ref a)] 1 = mkF m 0 #[.val (.ref a)] [] := by first | (simp [entryFrame, mkF, argsToLocals, Value.category]; done) | rfl
def Q_rec (Z : State) (wY : Addr) (a : Addr) (h0 : Heap) (n0 : Nat) (vv_ : Option Value) (hh_ : Heap) (LL_ : List Loc) : Prop := vv_ = none ∧ (Fr n0 LL_) ∧ (hh_ = h0)
set_option maxRecDepth 65536 in
set_option maxHeartbeats 40000000 in
theorem rec (l : Launch) (Z : State) (a0 : Array Value) (hw : ∀ d ∈ tables_1, d.before a0 Z = true) (ws : List Jvm.Cond) (wY : Addr) (a : Addr) (h0 : Heap) (n0 : Nat) (O0 : Old Z n0 h0) (S_wY : Sta Z Z.heap "com/example/tabulary/tabulary/date/CalendarDate$Precision" "YEAR" "Lcom/example/tabulary/tabulary/date/CalendarDate$Precision;" (.ref wY)) (E_wY : Exa Z Z.heap wY "com/example/tabulary/tabulary/date/CalendarDate$Precision") :
    MetFree l (⟨"java/lang/Record", "<init>", "()V"⟩ : MethodName) (head1 (Jvm.Cond.code (⟨"java/lang/Record", "<init>", "()V"⟩ : MethodName) jdk_30_method_1_code 1 none :: ws) ({ frames := 1, cells := 0, slots := 0, locals := 12 } : Room)) (fun aa_ U_ => aa_ = #[(.ref a)] ∧ Z.Warmed39 U_.vm ∧ U_.heap = h0) (fun _ _ _ _ _ => True) (fun _ U_ oo_ V_ => ∃ vv_ LL_, oo_ = .returned vv_ ∧ Q_rec Z wY a h0 n0 vv_ V_.heap LL_ ∧ FrameEnd U_ oo_ V_ LL_ ({ frames := 1, cells := 0, slots := 0, locals := 12 } : Room).cells ({ frames := 1, cells := 0, slots := 0, locals := 12 } : Room).slots) := by
  refine MetFree.of_bodySF (plainFor_of_name pn_java_lang_Record) hisR ?_
  intro p e s m args below meth c s₁ Bd hml0 hP hK
  obtain ⟨rfl, hZ, hh⟩ := hP
  have hx := Bd.exec
  have hby := Bd.bytes
  have hml : c.maxLocals = 1 := hml0
  have hown : s.vm.findClass "java/lang/Record" = some m.cls := findClass_of_methodNamed Bd.named
  have hnm := (name_of_methodNamed Bd.named Bd.method).1
  have X0 : Stand p l e ({ frames := 1, cells := 0, slots := 0, locals := 12 } : Room) s m #[(.ref a)] below meth c s₁ [] 0 0 := Stand.of_body Bd
  have e0 : s₁.heap = h0 := by rw [← hh, Bd.state]; rfl
  have N0 := Fr.nil n0
  have Z0 : n0 ≤ h0.size := O0.1 ▸ O0.2.1
  have hk0 := Nat.zero_le h0.size
  have K0 : Keep h0 h0 [] := Keep.refl _ _
  have R0 : ∀ t, Steps p.tables e below (s₁.setTop (mkF m 0 #[.val (.ref a)] [])) t → Steps p.tables e below (s₁.setTop (entryFrame m #[(.ref a)] 1)) t := fun t k => castTop (ef_rec m a) k
  obtain ⟨T1, X1, e1, st1⟩ := initO X0 hx hZ hown (hw _ (List.mem_of_getElem? (i := 17) rfl)) (hw _ (List.mem_of_getElem? (i := 18) rfl)) (hw _ (List.mem_of_getElem? (i := 19) rfl)) e0 (g := (mkF m 1 #[.val (.ref a)] [(.ref a)])) rfl (by rw [hml]; rfl) rfl (hb hby d3_1) (by decide) (W := 0) (by show 2 * 0 + _ ≤ _; exact Nat.le_of_eq rfl) (by decide)
  have R2 : ∀ t, Steps p.tables e below (T1.setTop (mkF m 4 #[.val (.ref a)] [])) t → Steps p.tables e below (s₁.setTop (entryFrame m #[(.ref a)] 1)) t := by
    intro t k
    refine R0 t ?_
    show Steps p.tables e below (s₁.setTop (mkF m 0 #[.val (.ref a)] [])) t
    refine XS.aloadN X0.here hx rfl (hb hby d3_0) rfl rfl ?_
    show Steps p.tables e below (s₁.setTop (mkF m 1 #[.val (.ref a)] [(.ref a)])) t
    refine st1 _ ?_
    exact k
  obtain ⟨fs, hr, hrun, hended, hW, hsame⟩ := X1.leave (v := none) (fun _ => rfl)
  refine ⟨_, _, R2 _ ?_, hrun, hended, _, _, rfl, ?_, ⟨_, rfl⟩, hW, hsame.mono (by decide) (by decide)⟩
  · show Steps p.tables e below (T1.setTop (mkF m 4 #[.val (.ref a)] [])) _
    exact X1.returnOut hx Bd.returns (hb hby d3_4) hr
  · show Q_rec Z wY a h0 n0 _ T1.heap _
    rw [e1]
    exact ⟨rfl, N0, rfl⟩
theorem d2_0 : decode prog_15_method_1_code 0 = .ok (.aload_n 0, 1) := by decide +kernel
theorem pd_0 : parseMethodDescriptor "()V" = some ⟨[], none⟩ := by decide +kernel
theorem d2_1 : decode prog_15_method_1_code 1 = .ok (.invokespecial 1, 3) := by decide +kernel
theorem d2_4 : decode prog_15_method_1_code 4 = .ok (.aload_n 0, 1) := by decide +kernel
theorem d2_5 : decode prog_15_method_1_code 5 = .ok (.iload_n 1, 1) := by decide +kernel
theorem d2_6 : decode prog_15_method_1_code 6 = .ok (.putfield 7, 3) := by decide +kernel
theorem d2_9 : decode prog_15_method_1_code 9 = .ok (.aload_n 0, 1) := by decide +kernel
theorem d2_10 : decode prog_15_method_1_code 10 = .ok (.iload_n 2, 1) := by decide +kernel
theorem d2_11 : decode prog_15_method_1_code 11 = .ok (.putfield 13, 3) := by decide +kernel
theorem d2_14 : decode prog_15_method_1_code 14 = .ok (.aload_n 0, 1) := by decide +kernel
theorem d2_15 : decode prog_15_method_1_code 15 = .ok (.iload_n 3, 1) := by decide +kernel
theorem d2_16 : decode prog_15_method_1_code 16 = .ok (.putfield 16, 3) := by decide +kernel
theorem d2_19 : decode prog_15_method_1_code 19 = .ok (.aload_n 0, 1) := by decide +kernel
theorem d2_20 : decode prog_15_method_1_code 20 = .ok (.aload 4, 2) := by decide +kernel
theorem d2_22 : decode prog_15_method_1_code 22 = .ok (.putfield 19, 3) := by decide +kernel
theorem d2_25 : decode prog_15_method_1_code 25 = .ok (.return_, 1) := by decide +kernel
theorem pn_com_example_tabulary_tabulary_date_CalendarDate : plainName "com/example/tabulary/tabulary/date/CalendarDate" = true := by first | (simp [plainName, overriddenIn]; done) | decide +kernel
theorem ef_cdinit (m : MethodId) (a : Addr) (y : Int32) (mo : Int32) (d : Int32) (pr : Addr) (u1 : Value) (u2 : Value) (u3 : Value) (u4 : Value) : entryFrame m #[(.ref a), (.int y), (.int mo), (.int d), (.ref pr)] 5 = mkF m 0 #[.val (.ref a), .val (.int y), .val (.int mo), .val (.int d), .val (.ref pr)] [] := by first | (simp [entryFrame, mkF, argsToLocals, Value.category]; done) | rfl
def Q_cdinit (Z : State) (wY : Addr) (a : Addr) (y : Int32) (mo : Int32) (d : Int32) (pr : Addr) (u1 : Value) (u2 : Value) (u3 : Value) (u4 : Value) (h0 : Heap) (n0 : Nat) (vv_ : Option Value) (hh_ : Heap) (LL_ : List Loc) : Prop := vv_ = none ∧ (Fr n0 LL_) ∧ (Keep h0 hh_ [a]) ∧ (Exa Z hh_ a "com/example/tabulary/tabulary/date/CalendarDate") ∧ (Fld Z hh_ a "com/example/tabulary/tabulary/date/CalendarDate" "year" "I" (.int y)) ∧ (Fld Z hh_ a "com/example/tabulary/tabulary/date/CalendarDate" "month" "I" (.int mo)) ∧ (Fld Z hh_ a "com/example/tabulary/tabulary/date/CalendarDate" "day" "I" (.int d)) ∧ (Fld Z hh_ a "com/example/tabulary/tabulary/date/CalendarDate" "precision" "Lcom/example/tabulary/tabulary/date/CalendarDate$Precision;" (.ref pr))
set_option maxRecDepth 65536 in
set_option maxHeartbeats 40000000 in
theorem cdinit (l : Launch) (Z : State) (a0 : Array Value) (hw : ∀ d ∈ tables_1, d.before a0 Z = true) (ws : List Jvm.Cond) (wY : Addr) (a : Addr) (y : Int32) (mo : Int32) (d : Int32) (pr : Addr) (u1 : Value) (u2 : Value) (u3 : Value) (u4 : Value) (h0 : Heap) (n0 : Nat) (O0 : Old Z n0 h0) (S_wY : Sta Z Z.heap "com/example/tabulary/tabulary/date/CalendarDate$Precision" "YEAR" "Lcom/example/tabulary/tabulary/date/CalendarDate$Precision;" (.ref wY)) (E_wY : Exa Z Z.heap wY "com/example/tabulary/tabulary/date/CalendarDate$Precision") (g_a : n0 ≤ a) (Ea : Exa Z h0 a "com/example/tabulary/tabulary/date/CalendarDate") (F0 : Fld Z h0 a "com/example/tabulary/tabulary/date/CalendarDate" "year" "I" u1) (F1 : Fld Z h0 a "com/example/tabulary/tabulary/date/CalendarDate" "month" "I" u2) (F2 : Fld Z h0 a "com/example/tabulary/tabulary/date/CalendarDate" "day" "I" u3) (F3 : Fld Z h0 a "com/example/tabulary/tabulary/date/CalendarDate" "precision" "Lcom/example/tabulary/tabulary/date/CalendarDate$Precision;" u4) :
    MetFree l (⟨"com/example/tabulary/tabulary/date/CalendarDate", "<init>", "(IIILcom/example/tabulary/tabulary/date/CalendarDate$Precision;)V"⟩ : MethodName) (head1 (Jvm.Cond.code (⟨"com/example/tabulary/tabulary/date/CalendarDate", "<init>", "(IIILcom/example/tabulary/tabulary/date/CalendarDate$Precision;)V"⟩ : MethodName) prog_15_method_1_code 5 none :: ws) ({ frames := 2, cells := 0, slots := 0, locals := 24 } : Room)) (fun aa_ U_ => aa_ = #[(.ref a), (.int y), (.int mo), (.int d), (.ref pr)] ∧ Z.Warmed39 U_.vm ∧ U_.heap = h0) (fun _ _ _ _ _ => True) (fun _ U_ oo_ V_ => ∃ vv_ LL_, oo_ = .returned vv_ ∧ Q_cdinit Z wY a y mo d pr u1 u2 u3 u4 h0 n0 vv_ V_.heap LL_ ∧ FrameEnd U_ oo_ V_ LL_ ({ frames := 2, cells := 0, slots := 0, locals := 24 } : Room).cells ({ frames := 2, cells := 0, slots := 0, locals := 24 } : Room).slots) := by
  refine MetFree.of_bodySF (plainFor_of_name pn_com_example_tabulary_tabulary_date_CalendarDate) hisR ?_
  intro p e s m args below meth c s₁ Bd hml0 hP hK
  obtain ⟨rfl, hZ, hh⟩ := hP
  have hx := Bd.exec
  have hby := Bd.bytes
  have hml : c.maxLocals = 5 := hml0
  have hown : s.vm.findClass "com/example/tabulary/tabulary/date/CalendarDate" = some m.cls := findClass_of_methodNamed Bd.named
  have hnm := (name_of_methodNamed Bd.named Bd.method).1
  have X0 : Stand p l e ({ frames := 2, cells := 0, slots := 0, locals := 24 } : Room) s m #[(.ref a), (.int y), (.int mo), (.int d), (.ref pr)] below meth c s₁ [] 0 0 := Stand.of_body Bd
  have e0 : s₁.heap = h0 := by rw [← hh, Bd.state]; rfl
  have N0 := Fr.nil n0
  have Z0 : n0 ≤ h0.size := O0.1 ▸ O0.2.1
  have hk0 := Nat.zero_le h0.size
  have K0 : Keep h0 h0 [a] := Keep.refl _ _
  have R0 : ∀ t, Steps p.tables e below (s₁.setTop (mkF m 0 #[.val (.ref a), .val (.int y), .val (.int mo), .val (.int d), .val (.ref pr)] [])) t → Steps p.tables e below (s₁.setTop (entryFrame m #[(.ref a), (.int y), (.int mo), (.int d), (.ref pr)] 5)) t := fun t k => castTop (ef_cdinit m a y mo d pr u1 u2 u3 u4) k
  obtain ⟨_, _, ⟨T1, L1, k1, n1⟩, -, X1, ⟨Lc1, hQ1, l1, y1, z1⟩, st1⟩ := X0.specialBack hx (y := (⟨"java/lang/Record", "<init>", "()V"⟩ : MethodName)) rfl hown (mvT hZ (hw _ (List.mem_of_getElem? (i := 12) rfl))) (mvT hZ (hw _ (List.mem_of_getElem? (i := 13) rfl))) (mvT hZ (hw _ (List.mem_of_getElem? (i := 16) rfl))) (by decide) (backOf (W := 0) (rec l Z a0 hw [] wY a h0 n0 O0 S_wY E_wY   ) hZ (hw _ (List.mem_of_getElem? (i := 16) rfl)) (hw _ (List.mem_of_getElem? (i := 15) rfl)) (by decide) (by decide)) (g := (mkF m 1 #[.val (.ref a), .val (.int y), .val (.int mo), .val (.int d), .val (.ref pr)] [(.ref a)])) rfl (by rw [hml]; rfl) (Steps.refl _) (a := a) (argsL := []) (rest := []) (lenOf pd_0 rfl) rfl (by show 2 * 0 + _ ≤ _; exact Nat.le_of_eq rfl) (hb hby d2_1) (fun _ _ => ⟨rfl, e0, (by decide : 0 + 0 ≤ _), (by decide : 0 + 0 ≤ _)⟩)
  dsimp only [Pt.U, Pt.locs, Pt.cells, Pt.slots] at X1 l1 y1 z1 st1 hQ1
  subst l1 y1 z1
  obtain ⟨rfl, N1q, e1⟩ := hQ1
  have N1 := Fr.app N0 N1q
  obtain ⟨T2, h2, X2, e2, W2, st2⟩ := putF X1 hx hZ hown (host := "") (Or.inl (hw _ (List.mem_of_getElem? (i := 20) rfl))) Via.refl e1 F0 Ea (Or.inr ⟨(hw _ (List.mem_of_getElem? (i := 21) rfl)), rfl, hnm⟩) (hw _ (List.mem_of_getElem? (i := 5) rfl)) (ty := .int) (by decide) rfl rfl (g := (mkF m 6 #[.val (.ref a), .val (.int y), .val (.int mo), .val (.int d), .val (.ref pr)] [(.int y), (.ref a)])) rfl rfl (hb hby d2_6)
  have Z2 : n0 ≤ h2.size := Nat.le_trans Z0 (Keep.of_wr W2).1
  have K2 : Keep h0 h2 [a] := K0.wr W2 (Or.inl (List.mem_of_getElem? (i := 0) rfl))
  have O2 : Old Z n0 h2 := O0.wr W2 g_a
  have N2 := Fr.snoc X2 N1 g_a
  have fw2 : Fld Z h2 a "com/example/tabulary/tabulary/date/CalendarDate" "year" "I" (.int y) := F0.same W2
  have f4 : Exa Z h2 a "com/example/tabulary/tabulary/date/CalendarDate" := (Ea.wr W2)
  have f5 : Fld Z h2 a "com/example/tabulary/tabulary/date/CalendarDate" "month" "I" u2 := (F1.other W2 (Or.inr (slot_ne (Or.inr (hw _ (List.mem_of_getElem? (i := 23) rfl))) (Or.inr (hw _ (List.mem_of_getElem? (i := 21) rfl))) (by decide) (t := .int) (t' := .int) (by decide) (by decide))))
  obtain ⟨T3, h3, X3, e3, W3, st3⟩ := putF X2 hx hZ hown (host := "") (Or.inl (hw _ (List.mem_of_getElem? (i := 22) rfl))) Via.refl e2 f5 f4 (Or.inr ⟨(hw _ (List.mem_of_getElem? (i := 23) rfl)), rfl, hnm⟩) (hw _ (List.mem_of_getElem? (i := 5) rfl)) (ty := .int) (by decide) rfl rfl (g := (mkF m 11 #[.val (.ref a), .val (.int y), .val (.int mo), .val (.int d), .val (.ref pr)] [(.int mo), (.ref a)])) rfl rfl (hb hby d2_11)
  have Z3 : n0 ≤ h3.size := Nat.le_trans Z2 (Keep.of_wr W3).1
  have K3 : Keep h0 h3 [a] := K2.wr W3 (Or.inl (List.mem_of_getElem? (i := 0) rfl))
  have O3 : Old Z n0 h3 := O2.wr W3 g_a
  have N3 := Fr.snoc X3 N2 g_a
  have fw3 : Fld Z h3 a "com/example/tabulary/tabulary/date/CalendarDate" "month" "I" (.int mo) := f5.same W3
  have f7 : Exa Z h3 a "com/example/tabulary/tabulary/date/CalendarDate" := (f4.wr W3)
  have f8 : Fld Z h3 a "com/example/tabulary/tabulary/date/CalendarDate" "day" "I" u3 := ((F2.other W2 (Or.inr (slot_ne (Or.inr (hw _ (List.mem_of_getElem? (i := 25) rfl))) (Or.inr (hw _ (List.mem_of_getElem? (i := 21) rfl))) (by decide) (t := .int) (t' := .int) (by decide) (by decide)))).other W3 (Or.inr (slot_ne (Or.inr (hw _ (List.mem_of_getElem? (i := 25) rfl))) (Or.inr (hw _ (List.mem_of_getElem? (i := 23) rfl))) (by decide) (t := .int) (t' := .int) (by decide) (by decide))))
  obtain ⟨T6, h6, X6, e6, W6, st6⟩ := putF X3 hx hZ hown (host := "") (Or.inl (hw _ (List.mem_of_getElem? (i := 24) rfl))) Via.refl e3 f8 f7 (Or.inr ⟨(hw _ (List.mem_of_getElem? (i := 25) rfl)), rfl, hnm⟩) (hw _ (List.mem_of_getElem? (i := 5) rfl)) (ty := .int) (by decide) rfl rfl (g := (mkF m 16 #[.val (.ref a), .val (.int y), .val (.int mo), .val (.int d), .val (.ref pr)] [(.int d), (.ref a)])) rfl rfl (hb hby d2_16)
  have Z6 : n0 ≤ h6.size := Nat.le_trans Z3 (Keep.of_wr W6).1
  have K6 : Keep h0 h6 [a] := K3.wr W6 (Or.inl (List.mem_of_getElem? (i := 0) rfl))
  have O6 : Old Z n0 h6 := O3.wr W6 g_a
  have N6 := Fr.snoc X6 N3 g_a
  have fw6 : Fld Z h6 a "com/example/tabulary/tabulary/date/CalendarDate" "day" "I" (.int d) := f8.same W6
  have f10 : Exa Z h6 a "com/example/tabulary/tabulary/date/CalendarDate" := (f7.wr W6)
  have f11 : Fld Z h6 a "com/example/tabulary/tabulary/date/CalendarDate" "precision" "Lcom/example/tabulary/tabulary/date/CalendarDate$Precision;" u4 := (((F3.other W2 (Or.inr (slot_ne (Or.inr (hw _ (List.mem_of_getElem? (i := 27) rfl))) (Or.inr (hw _ (List.mem_of_getElem? (i := 21) rfl))) (by decide) (t := (.object "com/example/tabulary/tabulary/date/CalendarDate$Precision")) (t' := .int) (by decide) (by decide)))).other W3 (Or.inr (slot_ne (Or.inr (hw _ (List.mem_of_getElem? (i := 27) rfl))) (Or.inr (hw _ (List.mem_of_getElem? (i := 23) rfl))) (by decide) (t := (.object "com/example/tabulary/tabulary/date/CalendarDate$Precision")) (t' := .int) (by decide) (by decide)))).other W6 (Or.inr (slot_ne (Or.inr (hw _ (List.mem_of_getElem? (i := 27) rfl))) (Or.inr (hw _ (List.mem_of_getElem? (i := 25) rfl))) (by decide) (t := (.object "com/example/tabulary/tabulary/date/CalendarDate$Precision")) (t' := .int) (by decide) (by decide))))
  obtain ⟨T9, h9, X9, e9, W9, st9⟩ := putF X6 hx hZ hown (host := "") (Or.inl (hw _ (List.mem_of_getElem? (i := 26) rfl))) Via.refl e6 f11 f10 (Or.inr ⟨(hw _ (List.mem_of_getElem? (i := 27) rfl)), rfl, hnm⟩) (hw _ (List.mem_of_getElem? (i := 5) rfl)) (ty := (.object "com/example/tabulary/tabulary/date/CalendarDate$Precision")) (by decide) rfl rfl (g := (mkF m 22 #[.val (.ref a), .val (.int y), .val (.int mo), .val (.int d), .val (.ref pr)] [(.ref pr), (.ref a)])) rfl rfl (hb hby d2_22)
  have Z9 : n0 ≤ h9.size := Nat.le_trans Z6 (Keep.of_wr W9).1
  have K9 : Keep h0 h9 [a] := K6.wr W9 (Or.inl (List.mem_of_getElem? (i := 0) rfl))
  have O9 : Old Z n0 h9 := O6.wr W9 g_a
  have N9 := Fr.snoc X9 N6 g_a
  have fw9 : Fld Z h9 a "com/example/tabulary/tabulary/date/CalendarDate" "precision" "Lcom/example/tabulary/tabulary/date/CalendarDate$Precision;" (.ref pr) := f11.same W9
  have R12 : ∀ t, Steps p.tables e below (T9.setTop (mkF m 25 #[.val (.ref a), .val (.int y), .val (.int mo), .val (.int d), .val (.ref pr)] [])) t → Steps p.tables e below (s₁.setTop (entryFrame m #[(.ref a), (.int y), (.int mo), (.int d), (.ref pr)] 5)) t := by
    intro t k
    refine R0 t ?_
    show Steps p.tables e below (s₁.setTop (mkF m 0 #[.val (.ref a), .val (.int y), .val (.int mo), .val (.int d), .val (.ref pr)] [])) t
    refine XS.aloadN X0.here hx rfl (hb hby d2_0) rfl rfl ?_
    show Steps p.tables e below (s₁.setTop (mkF m 1 #[.val (.ref a), .val (.int y), .val (.int mo), .val (.int d), .val (.ref pr)] [(.ref a)])) t
    refine st1.trans ?_
    show Steps p.tables e below (T1.setTop (mkF m 4 #[.val (.ref a), .val (.int y), .val (.int mo), .val (.int d), .val (.ref pr)] [])) t
    refine XS.aloadN X1.here hx rfl (hb hby d2_4) rfl rfl ?_
    show Steps p.tables e below (T1.setTop (mkF m 5 #[.val (.ref a), .val (.int y), .val (.int mo), .val (.int d), .val (.ref pr)] [(.ref a)])) t
    refine XS.iloadN X1.here hx rfl (hb hby d2_5) rfl ?_
    show Steps p.tables e below (T1.setTop (mkF m 6 #[.val (.ref a), .val (.int y), .val (.int mo), .val (.int d), .val (.ref pr)] [(.int y), (.ref a)])) t
    refine st2 _ ?_
    show Steps p.tables e below (T2.setTop (mkF m 9 #[.val (.ref a), .val (.int y), .val (.int mo), .val (.int d), .val (.ref pr)] [])) t
    refine XS.aloadN X2.here hx rfl (hb hby d2_9) rfl rfl ?_
    show Steps p.tables e below (T2.setTop (mkF m 10 #[.val (.ref a), .val (.int y), .val (.int mo), .val (.int d), .val (.ref pr)] [(.ref a)])) t
    refine XS.iloadN X2.here hx rfl (hb hby d2_10) rfl ?_
    show Steps p.tables e below (T2.setTop (mkF m 11 #[.val (.ref a), .val (.int y), .val (.int mo), .val (.int d), .val (.ref pr)] [(.int mo), (.ref a)])) t
    refine st3 _ ?_
    show Steps p.tables e below (T3.setTop (mkF m 14 #[.val (.ref a), .val (.int y), .val (.int mo), .val (.int d), .val (.ref pr)] [])) t
    refine XS.aloadN X3.here hx rfl (hb hby d2_14) rfl rfl ?_
    show Steps p.tables e below (T3.setTop (mkF m 15 #[.val (.ref a), .val (.int y), .val (.int mo), .val (.int d), .val (.ref pr)] [(.ref a)])) t
    refine XS.iloadN X3.here hx rfl (hb hby d2_15) rfl ?_
    show Steps p.tables e below (T3.setTop (mkF m 16 #[.val (.ref a), .val (.int y), .val (.int mo), .val (.int d), .val (.ref pr)] [(.int d), (.ref a)])) t
    refine st6 _ ?_
    show Steps p.tables e below (T6.setTop (mkF m 19 #[.val (.ref a), .val (.int y), .val (.int mo), .val (.int d), .val (.ref pr)] [])) t
    refine XS.aloadN X6.here hx rfl (hb hby d2_19) rfl rfl ?_
    show Steps p.tables e below (T6.setTop (mkF m 20 #[.val (.ref a), .val (.int y), .val (.int mo), .val (.int d), .val (.ref pr)] [(.ref a)])) t
    refine XS.aload X6.here hx rfl (hb hby d2_20) rfl rfl ?_
    show Steps p.tables e below (T6.setTop (mkF m 22 #[.val (.ref a), .val (.int y), .val (.int mo), .val (.int d), .val (.ref pr)] [(.ref pr), (.ref a)])) t
    refine st9 _ ?_
    exact k
  have f13 : Exa Z h9 a "com/example/tabulary/tabulary/date/CalendarDate" := (f10.wr W9)
  have f14 : Fld Z h9 a "com/example/tabulary/tabulary/date/CalendarDate" "year" "I" (.int y) := (((fw2.other W3 (Or.inr (slot_ne (Or.inr (hw _ (List.mem_of_getElem? (i := 21) rfl))) (Or.inr (hw _ (List.mem_of_getElem? (i := 23) rfl))) (by decide) (t := .int) (t' := .int) (by decide) (by decide)))).other W6 (Or.inr (slot_ne (Or.inr (hw _ (List.mem_of_getElem? (i := 21) rfl))) (Or.inr (hw _ (List.mem_of_getElem? (i := 25) rfl))) (by decide) (t := .int) (t' := .int) (by decide) (by decide)))).other W9 (Or.inr (slot_ne (Or.inr (hw _ (List.mem_of_getElem? (i := 21) rfl))) (Or.inr (hw _ (List.mem_of_getElem? (i := 27) rfl))) (by decide) (t := .int) (t' := (.object "com/example/tabulary/tabulary/date/CalendarDate$Precision")) (by decide) (by decide))))
  have f15 : Fld Z h9 a "com/example/tabulary/tabulary/date/CalendarDate" "month" "I" (.int mo) := ((fw3.other W6 (Or.inr (slot_ne (Or.inr (hw _ (List.mem_of_getElem? (i := 23) rfl))) (Or.inr (hw _ (List.mem_of_getElem? (i := 25) rfl))) (by decide) (t := .int) (t' := .int) (by decide) (by decide)))).other W9 (Or.inr (slot_ne (Or.inr (hw _ (List.mem_of_getElem? (i := 23) rfl))) (Or.inr (hw _ (List.mem_of_getElem? (i := 27) rfl))) (by decide) (t := .int) (t' := (.object "com/example/tabulary/tabulary/date/CalendarDate$Precision")) (by decide) (by decide))))
  have f16 : Fld Z h9 a "com/example/tabulary/tabulary/date/CalendarDate" "day" "I" (.int d) := (fw6.other W9 (Or.inr (slot_ne (Or.inr (hw _ (List.mem_of_getElem? (i := 25) rfl))) (Or.inr (hw _ (List.mem_of_getElem? (i := 27) rfl))) (by decide) (t := .int) (t' := (.object "com/example/tabulary/tabulary/date/CalendarDate$Precision")) (by decide) (by decide))))
  obtain ⟨fs, hr, hrun, hended, hW, hsame⟩ := X9.leave (v := none) (fun _ => rfl)
  refine ⟨_, _, R12 _ ?_, hrun, hended, _, _, rfl, ?_, ⟨_, rfl⟩, hW, hsame.mono (by decide) (by decide)⟩
  · show Steps p.tables e below (T9.setTop (mkF m 25 #[.val (.ref a), .val (.int y), .val (.int mo), .val (.int d), .val (.ref pr)] [])) _
    exact X9.returnOut hx Bd.returns (hb hby d2_25) hr
  · show Q_cdinit Z wY a y mo d pr u1 u2 u3 u4 h0 n0 _ T9.heap _
    rw [e9]
    exact ⟨rfl, N9, K9, f13, f14, f15, f16, fw9⟩
theorem d1_0 : decode prog_15_method_2_code 0 = .ok (.new 8, 3) := by decide +kernel
theorem d1_3 : decode prog_15_method_2_code 3 = .ok (.dup, 1) := by decide +kernel
theorem d1_4 : decode prog_15_method_2_code 4 = .ok (.iload_n 0, 1) := by decide +kernel
theorem d1_5 : decode prog_15_method_2_code 5 = .ok (.iconst 1, 1) := by decide +kernel
theorem d1_6 : decode prog_15_method_2_code 6 = .ok (.iconst 1, 1) := by decide +kernel
theorem d1_7 : decode prog_15_method_2_code 7 = .ok (.getstatic 23, 3) := by decide +kernel
theorem pd_1 : parseMethodDescriptor "(IIILcom/example/tabulary/tabulary/date/CalendarDate$Precision;)V" = some ⟨[.int, .int, .int, (.object "com/example/tabulary/tabulary/date/CalendarDate$Precision")], none⟩ := by decide +kernel
theorem d1_10 : decode prog_15_method_2_code 10 = .ok (.invokespecial 28, 3) := by decide +kernel
theorem d1_13 : decode prog_15_method_2_code 13 = .ok (.areturn, 1) := by decide +kernel
theorem ef_ofYear (m : MethodId) (y : Int32) : entryFrame m #[(.int y)] 1 = mkF m 0 #[.val (.int y)] [] := by first | (simp [entryFrame, mkF, argsToLocals, Value.category]; done) | rfl
def Q_ofYear (Z : State) (wY : Addr) (y : Int32) (h0 : Heap) (n0 : Nat) (vv_ : Option Value) (hh_ : Heap) (LL_ : List Loc) : Prop := ∃ (b : Addr), vv_ = some (.ref b) ∧ (Fr n0 LL_) ∧ (Keep h0 hh_ []) ∧ (h0.size ≤ b) ∧ (Exa Z hh_ b "com/example/tabulary/tabulary/date/CalendarDate") ∧ (Fld Z hh_ b "com/example/tabulary/tabulary/date/CalendarDate" "year" "I" (.int y)) ∧ (Fld Z hh_ b "com/example/tabulary/tabulary/date/CalendarDate" "month" "I" (.int (1 : Int32))) ∧ (Fld Z hh_ b "com/example/tabulary/tabulary/date/CalendarDate" "day" "I" (.int (1 : Int32))) ∧ (Fld Z hh_ b "com/example/tabulary/tabulary/date/CalendarDate" "precision" "Lcom/example/tabulary/tabulary/date/CalendarDate$Precision;" (.ref wY))
set_option maxRecDepth 65536 in
set_option maxHeartbeats 40000000 in
theorem ofYear (l : Launch) (Z : State) (a0 : Array Value) (hw : ∀ d ∈ tables_1, d.before a0 Z = true) (ws : List Jvm.Cond) (wY : Addr) (y : Int32) (h0 : Heap) (n0 : Nat) (O0 : Old Z n0 h0) (S_wY : Sta Z Z.heap "com/example/tabulary/tabulary/date/CalendarDate$Precision" "YEAR" "Lcom/example/tabulary/tabulary/date/CalendarDate$Precision;" (.ref wY)) (E_wY : Exa Z Z.heap wY "com/example/tabulary/tabulary/date/CalendarDate$Precision") :
    MetFree l (⟨"com/example/tabulary/tabulary/date/CalendarDate", "ofYear", "(I)Lcom/example/tabulary/tabulary/date/CalendarDate;"⟩ : MethodName) (head1 (Jvm.Cond.code (⟨"com/example/tabulary/tabulary/date/CalendarDate", "ofYear", "(I)Lcom/example/tabulary/tabulary/date/CalendarDate;"⟩ : MethodName) prog_15_method_2_code 1 (some (.object "com/example/tabulary/tabulary/date/CalendarDate")) :: ws) ({ frames := 3, cells := 1, slots := 4, locals := 41 } : Room)) (fun aa_ U_ => aa_ = #[(.int y)] ∧ Z.Warmed39 U_.vm ∧ U_.heap = h0) (fun _ _ _ _ _ => True) (fun _ U_ oo_ V_ => ∃ vv_ LL_, oo_ = .returned vv_ ∧ Q_ofYear Z wY y h0 n0 vv_ V_.heap LL_ ∧ FrameEnd U_ oo_ V_ LL_ ({ frames := 3, cells := 1, slots := 4, locals := 41 } : Room).cells ({ frames := 3, cells := 1, slots := 4, locals := 41 } : Room).slots) := by
  refine MetFree.of_bodySF (plainFor_of_name pn_com_example_tabulary_tabulary_date_CalendarDate) hisR ?_
  intro p e s m args below meth c s₁ Bd hml0 hP hK
  obtain ⟨rfl, hZ, hh⟩ := hP
  have hx := Bd.exec
  have hby := Bd.bytes
  have hml : c.maxLocals = 1 := hml0
  have hown : s.vm.findClass "com/example/tabulary/tabulary/date/CalendarDate" = some m.cls := findClass_of_methodNamed Bd.named
  have hnm := (name_of_methodNamed Bd.named Bd.method).1
  have X0 : Stand p l e ({ frames := 3, cells := 1, slots := 4, locals := 41 } : Room) s m #[(.int y)] below meth c s₁ [] 0 0 := Stand.of_body Bd
  have e0 : s₁.heap = h0 := by rw [← hh, Bd.state]; rfl
  have N0 := Fr.nil n0
  have Z0 : n0 ≤ h0.size := O0.1 ▸ O0.2.1
  have hk0 := Nat.zero_le h0.size
  have K0 : Keep h0 h0 [] := Keep.refl _ _
  have R0 : ∀ t, Steps p.tables e below (s₁.setTop (mkF m 0 #[.val (.int y)] [])) t → Steps p.tables e below (s₁.setTop (entryFrame m #[(.int y)] 1)) t := fun t k => castTop (ef_ofYear m y) k
  obtain ⟨T1, h1, X1, e1, E1, A1, D1, -, st1⟩ := newO X0 hx hZ hown (hw _ (List.mem_of_getElem? (i := 4) rfl)) (hw _ (List.mem_of_getElem? (i := 5) rfl)) (hw _ (List.mem_of_getElem? (i := 2) rfl)) e0 (g := (mkF m 0 #[.val (.int y)] [])) rfl (hb hby d1_0) (by decide) (by decide)
  obtain ⟨b1, gg1⟩ : ∃ z, z = h0.size := ⟨_, rfl⟩
  rw [← gg1] at A1 D1 st1
  have g_b1 : n0 ≤ b1 := Nat.le_trans Z0 (Nat.le_of_eq gg1.symm)
  have sz_b1 : h0.size ≤ b1 := Nat.le_trans K0.1 (Nat.le_of_eq gg1.symm)
  have Z1 : n0 ≤ h1.size := Nat.le_trans Z0 E1.1
  have K1 : Keep h0 h1 [] := K0.ext E1
  have O1 : Old Z n0 h1 := O0.ext E1
  have F1_year : Fld Z h1 b1 "com/example/tabulary/tabulary/date/CalendarDate" "year" "I" (.int (0 : Int32)) := D1 (Or.inr (hw _ (List.mem_of_getElem? (i := 21) rfl))) (ty := .int) (by decide)
  have F1_month : Fld Z h1 b1 "com/example/tabulary/tabulary/date/CalendarDate" "month" "I" (.int (0 : Int32)) := D1 (Or.inr (hw _ (List.mem_of_getElem? (i := 23) rfl))) (ty := .int) (by decide)
  have F1_day : Fld Z h1 b1 "com/example/tabulary/tabulary/date/CalendarDate" "day" "I" (.int (0 : Int32)) := D1 (Or.inr (hw _ (List.mem_of_getElem? (i := 25) rfl))) (ty := .int) (by decide)
  have F1_precision : Fld Z h1 b1 "com/example/tabulary/tabulary/date/CalendarDate" "precision" "Lcom/example/tabulary/tabulary/date/CalendarDate$Precision;" .null := D1 (Or.inr (hw _ (List.mem_of_getElem? (i := 27) rfl))) (ty := (.object "com/example/tabulary/tabulary/date/CalendarDate$Precision")) (by decide)
  obtain ⟨T2, X2, e2, st2⟩ := getS2 X1 hx hZ hown (host := "") (Or.inl (hw _ (List.mem_of_getElem? (i := 6) rfl))) Via.refl e1 (S_wY.ext O1.2) (g := (mkF m 7 #[.val (.int y)] [(.int (1 : Int32)), (.int (1 : Int32)), (.int y), (.ref b1), (.ref b1)])) rfl (hb hby d1_7)
  obtain ⟨_, _, ⟨T3, L3, k3, n3⟩, -, X3, ⟨Lc3, hQ3, l3, y3, z3⟩, st3⟩ := X2.specialBack hx (y := (⟨"com/example/tabulary/tabulary/date/CalendarDate", "<init>", "(IIILcom/example/tabulary/tabulary/date/CalendarDate$Precision;)V"⟩ : MethodName)) rfl hown (mvT hZ (hw _ (List.mem_of_getElem? (i := 9) rfl))) (mvT hZ (hw _ (List.mem_of_getElem? (i := 10) rfl))) (mvT hZ (hw _ (List.mem_of_getElem? (i := 11) rfl))) (by decide) (backOf (W := 1) (cdinit l Z a0 hw [] wY b1 y (1 : Int32) (1 : Int32) wY (.int (0 : Int32)) (.int (0 : Int32)) (.int (0 : Int32)) .null h1 n0 O1 S_wY E_wY g_b1  A1 F1_year F1_month F1_day F1_precision) hZ (hw _ (List.mem_of_getElem? (i := 11) rfl)) (hw _ (List.mem_of_getElem? (i := 2) rfl)) (by decide) (by decide)) (g := (mkF m 10 #[.val (.int y)] [(.ref wY), (.int (1 : Int32)), (.int (1 : Int32)), (.int y), (.ref b1), (.ref b1)])) rfl (by rw [hml]; rfl) (Steps.refl _) (a := b1) (argsL := [(.int y), (.int (1 : Int32)), (.int (1 : Int32)), (.ref wY)]) (rest := [(.ref b1)]) (lenOf pd_1 rfl) rfl (by show 2 * 0 + _ ≤ _; exact Nat.le_of_eq rfl) (hb hby d1_10) (fun _ _ => ⟨rfl, e2, (by decide : 1 + 0 ≤ _), (by decide : 4 + 0 ≤ _)⟩)
  dsimp only [Pt.U, Pt.locs, Pt.cells, Pt.slots] at X3 l3 y3 z3 st3 hQ3
  subst l3 y3 z3
  obtain ⟨rfl, N3q, K3q, y3_0, y3_1, y3_2, y3_3, y3_4⟩ := hQ3
  have N3 := Fr.app N0 N3q
  have Z3 : n0 ≤ T3.heap.size := Nat.le_trans Z1 K3q.1
  have K3 : Keep h0 T3.heap [] := K1.trans K3q (allS (Or.inr sz_b1) all0)
  have O3 : Old Z n0 T3.heap := O1.keep K3q (allS g_b1 all0)
  have R4 : ∀ t, Steps p.tables e below (T3.setTop (mkF m 13 #[.val (.int y)] [(.ref b1)])) t → Steps p.tables e below (s₁.setTop (entryFrame m #[(.int y)] 1)) t := by
    intro t k
    refine R0 t ?_
    show Steps p.tables e below (s₁.setTop (mkF m 0 #[.val (.int y)] [])) t
    refine st1 _ ?_
    show Steps p.tables e below (T1.setTop (mkF m 3 #[.val (.int y)] [(.ref b1)])) t
    refine XS.dup X1.here hx rfl (hb hby d1_3) rfl rfl ?_
    show Steps p.tables e below (T1.setTop (mkF m 4 #[.val (.int y)] [(.ref b1), (.ref b1)])) t
    refine XS.iloadN X1.here hx rfl (hb hby d1_4) rfl ?_
    show Steps p.tables e below (T1.setTop (mkF m 5 #[.val (.int y)] [(.int y), (.ref b1), (.ref b1)])) t
    refine XS.iconst X1.here hx rfl (hb hby d1_5) ?_
    show Steps p.tables e below (T1.setTop (mkF m 6 #[.val (.int y)] [(.int (1 : Int32)), (.int y), (.ref b1), (.ref b1)])) t
    refine XS.iconst X1.here hx rfl (hb hby d1_6) ?_
    show Steps p.tables e below (T1.setTop (mkF m 7 #[.val (.int y)] [(.int (1 : Int32)), (.int (1 : Int32)), (.int y), (.ref b1), (.ref b1)])) t
    refine st2 _ ?_
    show Steps p.tables e below (T2.setTop (mkF m 10 #[.val (.int y)] [(.ref wY), (.int (1 : Int32)), (.int (1 : Int32)), (.int y), (.ref b1), (.ref b1)])) t
    refine st3.trans ?_
    exact k
  obtain ⟨fs, hr, hrun, hended, hW, hsame⟩ := X3.leave (v := some (.ref b1)) (fun h => by rw [Bd.returns] at h; cases h)
  refine ⟨_, _, R4 _ ?_, hrun, hended, _, _, rfl, ?_, ⟨_, rfl⟩, hW, hsame.mono (by decide) (by decide)⟩
  · show Steps p.tables e below (T3.setTop (mkF m 13 #[.val (.int y)] [(.ref b1)])) _
    exact retOut X3 hx Bd.returns rfl (Or.inr (Or.inr (Or.inr (Or.inr ⟨rfl, rfl, rfl⟩)))) (hb hby d1_13) hr
  · show Q_ofYear Z wY y h0 n0 _ T3.heap _
    exact ⟨b1, rfl, N3, K3, sz_b1, y3_0, y3_1, y3_2, y3_3, y3_4⟩
theorem d5_0 : decode prog_15_method_10_code 0 = .ok (.aload_n 0, 1) := by decide +kernel
theorem d5_1 : decode prog_15_method_10_code 1 = .ok (.getfield 7, 3) := by decide +kernel
theorem d5_4 : decode prog_15_method_10_code 4 = .ok (.ireturn, 1) := by decide +kernel
theorem ef_get_year (m : MethodId) (a : Addr) (z : Int32) : entryFrame m #[(.ref a)] 1 = mkF m 0 #[.val (.ref a)] [] := by first | (simp [entryFrame, mkF, argsToLocals, Value.category]; done) | rfl
def Q_get_year (Z : State) (wY : Addr) (a : Addr) (z : Int32) (h0 : Heap) (n0 : Nat) (vv_ : Option Value) (hh_ : Heap) (LL_ : List Loc) : Prop := vv_ = some (.int z) ∧ (Fr n0 LL_) ∧ (hh_ = h0)
set_option maxRecDepth 65536 in
set_option maxHeartbeats 40000000 in
theorem get_year (l : Launch) (Z : State) (a0 : Array Value) (hw : ∀ d ∈ tables_1, d.before a0 Z = true) (ws : List Jvm.Cond) (wY : Addr) (a : Addr) (z : Int32) (h0 : Heap) (n0 : Nat) (O0 : Old Z n0 h0) (S_wY : Sta Z Z.heap "com/example/tabulary/tabulary/date/CalendarDate$Precision" "YEAR" "Lcom/example/tabulary/tabulary/date/CalendarDate$Precision;" (.ref wY)) (E_wY : Exa Z Z.heap wY "com/example/tabulary/tabulary/date/CalendarDate$Precision") (Fa : Fld Z h0 a "com/example/tabulary/tabulary/date/CalendarDate" "year" "I" (.int z)) :
    MetFree l (⟨"com/example/tabulary/tabulary/date/CalendarDate", "year", "()I"⟩ : MethodName) (head1 (Jvm.Cond.code (⟨"com/example/tabulary/tabulary/date/CalendarDate", "year", "()I"⟩ : MethodName) prog_15_method_10_code 1 (some .int) :: ws) ({ frames := 0, cells := 0, slots := 0, locals := 0 } : Room)) (fun aa_ U_ => aa_ = #[(.ref a)] ∧ Z.Warmed39 U_.vm ∧ U_.heap = h0) (fun _ _ _ _ _ => True) (fun _ U_ oo_ V_ => ∃ vv_ LL_, oo_ = .returned vv_ ∧ Q_get_year Z wY a z h0 n0 vv_ V_.heap LL_ ∧ FrameEnd U_ oo_ V_ LL_ ({ frames := 0, cells := 0, slots := 0, locals := 0 } : Room).cells ({ frames := 0, cells := 0, slots := 0, locals := 0 } : Room).slots) := by
  refine MetFree.of_bodySF (plainFor_of_name pn_com_example_tabulary_tabulary_date_CalendarDate) hisR ?_
  intro p e s m args below meth c s₁ Bd hml0 hP hK
  obtain ⟨rfl, hZ, hh⟩ := hP
  have hx := Bd.exec
  have hby := Bd.bytes
  have hml : c.maxLocals = 1 := hml0
  have hown : s.vm.findClass "com/example/tabulary/tabulary/date/CalendarDate" = some m.cls := findClass_of_methodNamed Bd.named
  have hnm := (name_of_methodNamed Bd.named Bd.method).1
  have X0 : Stand p l e ({ frames := 0, cells := 0, slots := 0, locals := 0 } : Room) s m #[(.ref a)] below meth c s₁ [] 0 0 := Stand.of_body Bd
  have e0 : s₁.heap = h0 := by rw [← hh, Bd.state]; rfl
  have N0 := Fr.nil n0
  have Z0 : n0 ≤ h0.size := O0.1 ▸ O0.2.1
  have hk0 := Nat.zero_le h0.size
  have K0 : Keep h0 h0 [] := Keep.refl _ _
  have R0 : ∀ t, Steps p.tables e below (s₁.setTop (mkF m 0 #[.val (.ref a)] [])) t → Steps p.tables e below (s₁.setTop (entryFrame m #[(.ref a)] 1)) t := fun t k => castTop (ef_get_year m a z) k
  obtain ⟨T1, X1, e1, st1⟩ := getF X0 hx hZ hown (host := "") (Or.inl (hw _ (List.mem_of_getElem? (i := 20) rfl))) Via.refl e0 Fa (g := (mkF m 1 #[.val (.ref a)] [(.ref a)])) rfl rfl (hb hby d5_1)
  have R2 : ∀ t, Steps p.tables e below (T1.setTop (mkF m 4 #[.val (.ref a)] [(.int z)])) t → Steps p.tables e below (s₁.setTop (entryFrame m #[(.ref a)] 1)) t := by
    intro t k
    refine R0 t ?_
    show Steps p.tables e below (s₁.setTop (mkF m 0 #[.val (.ref a)] [])) t
    refine XS.aloadN X0.here hx rfl (hb hby d5_0) rfl rfl ?_
    show Steps p.tables e below (s₁.setTop (mkF m 1 #[.val (.ref a)] [(.ref a)])) t
    refine st1 _ ?_
    exact k
  obtain ⟨fs, hr, hrun, hended, hW, hsame⟩ := X1.leave (v := some (.int z)) (fun h => by rw [Bd.returns] at h; cases h)
  refine ⟨_, _, R2 _ ?_, hrun, hended, _, _, rfl, ?_, ⟨_, rfl⟩, hW, hsame.mono (by decide) (by decide)⟩
  · show Steps p.tables e below (T1.setTop (mkF m 4 #[.val (.ref a)] [(.int z)])) _
    exact retOut X1 hx Bd.returns rfl (Or.inl ⟨rfl, Or.inl rfl, _, rfl⟩) (hb hby d5_4) hr
  · show Q_get_year Z wY a z h0 n0 _ T1.heap _
    rw [e1]
    exact ⟨rfl, N0, rfl⟩
theorem d6_0 : decode prog_15_method_11_code 0 = .ok (.aload_n 0, 1) := by decide +kernel
theorem d6_1 : decode prog_15_method_11_code 1 = .ok (.getfield 13, 3) := by decide +kernel
theorem d6_4 : decode prog_15_method_11_code 4 = .ok (.ireturn, 1) := by decide +kernel
theorem ef_get_month (m : MethodId) (a : Addr) (z : Int32) : entryFrame m #[(.ref a)] 1 = mkF m 0 #[.val (.ref a)] [] := by first | (simp [entryFrame, mkF, argsToLocals, Value.category]; done) | rfl
def Q_get_month (Z : State) (wY : Addr) (a : Addr) (z : Int32) (h0 : Heap) (n0 : Nat) (vv_ : Option Value) (hh_ : Heap) (LL_ : List Loc) : Prop := vv_ = some (.int z) ∧ (Fr n0 LL_) ∧ (hh_ = h0)
set_option maxRecDepth 65536 in
set_option maxHeartbeats 40000000 in
theorem get_month (l : Launch) (Z : State) (a0 : Array Value) (hw : ∀ d ∈ tables_1, d.before a0 Z = true) (ws : List Jvm.Cond) (wY : Addr) (a : Addr) (z : Int32) (h0 : Heap) (n0 : Nat) (O0 : Old Z n0 h0) (S_wY : Sta Z Z.heap "com/example/tabulary/tabulary/date/CalendarDate$Precision" "YEAR" "Lcom/example/tabulary/tabulary/date/CalendarDate$Precision;" (.ref wY)) (E_wY : Exa Z Z.heap wY "com/example/tabulary/tabulary/date/CalendarDate$Precision") (Fa : Fld Z h0 a "com/example/tabulary/tabulary/date/CalendarDate" "month" "I" (.int z)) :
    MetFree l (⟨"com/example/tabulary/tabulary/date/CalendarDate", "month", "()I"⟩ : MethodName) (head1 (Jvm.Cond.code (⟨"com/example/tabulary/tabulary/date/CalendarDate", "month", "()I"⟩ : MethodName) prog_15_method_11_code 1 (some .int) :: ws) ({ frames := 0, cells := 0, slots := 0, locals := 0 } : Room)) (fun aa_ U_ => aa_ = #[(.ref a)] ∧ Z.Warmed39 U_.vm ∧ U_.heap = h0) (fun _ _ _ _ _ => True) (fun _ U_ oo_ V_ => ∃ vv_ LL_, oo_ = .returned vv_ ∧ Q_get_month Z wY a z h0 n0 vv_ V_.heap LL_ ∧ FrameEnd U_ oo_ V_ LL_ ({ frames := 0, cells := 0, slots := 0, locals := 0 } : Room).cells ({ frames := 0, cells := 0, slots := 0, locals := 0 } : Room).slots) := by
  refine MetFree.of_bodySF (plainFor_of_name pn_com_example_tabulary_tabulary_date_CalendarDate) hisR ?_
  intro p e s m args below meth c s₁ Bd hml0 hP hK
  obtain ⟨rfl, hZ, hh⟩ := hP
  have hx := Bd.exec
  have hby := Bd.bytes
  have hml : c.maxLocals = 1 := hml0
  have hown : s.vm.findClass "com/example/tabulary/tabulary/date/CalendarDate" = some m.cls := findClass_of_methodNamed Bd.named
  have hnm := (name_of_methodNamed Bd.named Bd.method).1
  have X0 : Stand p l e ({ frames := 0, cells := 0, slots := 0, locals := 0 } : Room) s m #[(.ref a)] below meth c s₁ [] 0 0 := Stand.of_body Bd
  have e0 : s₁.heap = h0 := by rw [← hh, Bd.state]; rfl
  have N0 := Fr.nil n0
  have Z0 : n0 ≤ h0.size := O0.1 ▸ O0.2.1
  have hk0 := Nat.zero_le h0.size
  have K0 : Keep h0 h0 [] := Keep.refl _ _
  have R0 : ∀ t, Steps p.tables e below (s₁.setTop (mkF m 0 #[.val (.ref a)] [])) t → Steps p.tables e below (s₁.setTop (entryFrame m #[(.ref a)] 1)) t := fun t k => castTop (ef_get_month m a z) k
  obtain ⟨T1, X1, e1, st1⟩ := getF X0 hx hZ hown (host := "") (Or.inl (hw _ (List.mem_of_getElem? (i := 22) rfl))) Via.refl e0 Fa (g := (mkF m 1 #[.val (.ref a)] [(.ref a)])) rfl rfl (hb hby d6_1)
  have R2 : ∀ t, Steps p.tables e below (T1.setTop (mkF m 4 #[.val (.ref a)] [(.int z)])) t → Steps p.tables e below (s₁.setTop (entryFrame m #[(.ref a)] 1)) t := by
    intro t k
    refine R0 t ?_
    show Steps p.tables e below (s₁.setTop (mkF m 0 #[.val (.ref a)] [])) t
    refine XS.aloadN X0.here hx rfl (hb hby d6_0) rfl rfl ?_
    show Steps p.tables e below (s₁.setTop (mkF m 1 #[.val (.ref a)] [(.ref a)])) t
    refine st1 _ ?_
    exact k
  obtain ⟨fs, hr, hrun, hended, hW, hsame⟩ := X1.leave (v := some (.int z)) (fun h => by rw [Bd.returns] at h; cases h)
  refine ⟨_, _, R2 _ ?_, hrun, hended, _, _, rfl, ?_, ⟨_, rfl⟩, hW, hsame.mono (by decide) (by decide)⟩
  · show Steps p.tables e below (T1.setTop (mkF m 4 #[.val (.ref a)] [(.int z)])) _
    exact retOut X1 hx Bd.returns rfl (Or.inl ⟨rfl, Or.inl rfl, _, rfl⟩) (hb hby d6_4) hr
  · show Q_get_month Z wY a z h0 n0 _ T1.heap _
    rw [e1]
    exact ⟨rfl, N0, rfl⟩
theorem d7_0 : decode prog_15_method_12_code 0 = .ok (.aload_n 0, 1) := by decide +kernel
theorem d7_1 : decode prog_15_method_12_code 1 = .ok (.getfield 16, 3) := by decide +kernel
theorem d7_4 : decode prog_15_method_12_code 4 = .ok (.ireturn, 1) := by decide +kernel
theorem ef_get_day (m : MethodId) (a : Addr) (z : Int32) : entryFrame m #[(.ref a)] 1 = mkF m 0 #[.val (.ref a)] [] := by first | (simp [entryFrame, mkF, argsToLocals, Value.category]; done) | rfl
def Q_get_day (Z : State) (wY : Addr) (a : Addr) (z : Int32) (h0 : Heap) (n0 : Nat) (vv_ : Option Value) (hh_ : Heap) (LL_ : List Loc) : Prop := vv_ = some (.int z) ∧ (Fr n0 LL_) ∧ (hh_ = h0)
set_option maxRecDepth 65536 in
set_option maxHeartbeats 40000000 in
theorem get_day (l : Launch) (Z : State) (a0 : Array Value) (hw : ∀ d ∈ tables_1, d.before a0 Z = true) (ws : List Jvm.Cond) (wY : Addr) (a : Addr) (z : Int32) (h0 : Heap) (n0 : Nat) (O0 : Old Z n0 h0) (S_wY : Sta Z Z.heap "com/example/tabulary/tabulary/date/CalendarDate$Precision" "YEAR" "Lcom/example/tabulary/tabulary/date/CalendarDate$Precision;" (.ref wY)) (E_wY : Exa Z Z.heap wY "com/example/tabulary/tabulary/date/CalendarDate$Precision") (Fa : Fld Z h0 a "com/example/tabulary/tabulary/date/CalendarDate" "day" "I" (.int z)) :
    MetFree l (⟨"com/example/tabulary/tabulary/date/CalendarDate", "day", "()I"⟩ : MethodName) (head1 (Jvm.Cond.code (⟨"com/example/tabulary/tabulary/date/CalendarDate", "day", "()I"⟩ : MethodName) prog_15_method_12_code 1 (some .int) :: ws) ({ frames := 0, cells := 0, slots := 0, locals := 0 } : Room)) (fun aa_ U_ => aa_ = #[(.ref a)] ∧ Z.Warmed39 U_.vm ∧ U_.heap = h0) (fun _ _ _ _ _ => True) (fun _ U_ oo_ V_ => ∃ vv_ LL_, oo_ = .returned vv_ ∧ Q_get_day Z wY a z h0 n0 vv_ V_.heap LL_ ∧ FrameEnd U_ oo_ V_ LL_ ({ frames := 0, cells := 0, slots := 0, locals := 0 } : Room).cells ({ frames := 0, cells := 0, slots := 0, locals := 0 } : Room).slots) := by
  refine MetFree.of_bodySF (plainFor_of_name pn_com_example_tabulary_tabulary_date_CalendarDate) hisR ?_
  intro p e s m args below meth c s₁ Bd hml0 hP hK
  obtain ⟨rfl, hZ, hh⟩ := hP
  have hx := Bd.exec
  have hby := Bd.bytes
  have hml : c.maxLocals = 1 := hml0
  have hown : s.vm.findClass "com/example/tabulary/tabulary/date/CalendarDate" = some m.cls := findClass_of_methodNamed Bd.named
  have hnm := (name_of_methodNamed Bd.named Bd.method).1
  have X0 : Stand p l e ({ frames := 0, cells := 0, slots := 0, locals := 0 } : Room) s m #[(.ref a)] below meth c s₁ [] 0 0 := Stand.of_body Bd
  have e0 : s₁.heap = h0 := by rw [← hh, Bd.state]; rfl
  have N0 := Fr.nil n0
  have Z0 : n0 ≤ h0.size := O0.1 ▸ O0.2.1
  have hk0 := Nat.zero_le h0.size
  have K0 : Keep h0 h0 [] := Keep.refl _ _
  have R0 : ∀ t, Steps p.tables e below (s₁.setTop (mkF m 0 #[.val (.ref a)] [])) t → Steps p.tables e below (s₁.setTop (entryFrame m #[(.ref a)] 1)) t := fun t k => castTop (ef_get_day m a z) k
  obtain ⟨T1, X1, e1, st1⟩ := getF X0 hx hZ hown (host := "") (Or.inl (hw _ (List.mem_of_getElem? (i := 24) rfl))) Via.refl e0 Fa (g := (mkF m 1 #[.val (.ref a)] [(.ref a)])) rfl rfl (hb hby d7_1)
  have R2 : ∀ t, Steps p.tables e below (T1.setTop (mkF m 4 #[.val (.ref a)] [(.int z)])) t → Steps p.tables e below (s₁.setTop (entryFrame m #[(.ref a)] 1)) t := by
    intro t k
    refine R0 t ?_
    show Steps p.tables e below (s₁.setTop (mkF m 0 #[.val (.ref a)] [])) t
    refine XS.aloadN X0.here hx rfl (hb hby d7_0) rfl rfl ?_
    show Steps p.tables e below (s₁.setTop (mkF m 1 #[.val (.ref a)] [(.ref a)])) t
    refine st1 _ ?_
    exact k
  obtain ⟨fs, hr, hrun, hended, hW, hsame⟩ := X1.leave (v := some (.int z)) (fun h => by rw [Bd.returns] at h; cases h)
  refine ⟨_, _, R2 _ ?_, hrun, hended, _, _, rfl, ?_, ⟨_, rfl⟩, hW, hsame.mono (by decide) (by decide)⟩
  · show Steps p.tables e below (T1.setTop (mkF m 4 #[.val (.ref a)] [(.int z)])) _
    exact retOut X1 hx Bd.returns rfl (Or.inl ⟨rfl, Or.inl rfl, _, rfl⟩) (hb hby d7_4) hr
  · show Q_get_day Z wY a z h0 n0 _ T1.heap _
    rw [e1]
    exact ⟨rfl, N0, rfl⟩
theorem d8_0 : decode prog_15_method_13_code 0 = .ok (.aload_n 0, 1) := by decide +kernel
theorem d8_1 : decode prog_15_method_13_code 1 = .ok (.getfield 19, 3) := by decide +kernel
theorem d8_4 : decode prog_15_method_13_code 4 = .ok (.areturn, 1) := by decide +kernel
theorem ef_get_precision (m : MethodId) (a : Addr) (z : Addr) : entryFrame m #[(.ref a)] 1 = mkF m 0 #[.val (.ref a)] [] := by first | (simp [entryFrame, mkF, argsToLocals, Value.category]; done) | rfl
def Q_get_precision (Z : State) (wY : Addr) (a : Addr) (z : Addr) (h0 : Heap) (n0 : Nat) (vv_ : Option Value) (hh_ : Heap) (LL_ : List Loc) : Prop := vv_ = some (.ref z) ∧ (Fr n0 LL_) ∧ (hh_ = h0)
set_option maxRecDepth 65536 in
set_option maxHeartbeats 40000000 in
theorem get_precision (l : Launch) (Z : State) (a0 : Array Value) (hw : ∀ d ∈ tables_1, d.before a0 Z = true) (ws : List Jvm.Cond) (wY : Addr) (a : Addr) (z : Addr) (h0 : Heap) (n0 : Nat) (O0 : Old Z n0 h0) (S_wY : Sta Z Z.heap "com/example/tabulary/tabulary/date/CalendarDate$Precision" "YEAR" "Lcom/example/tabulary/tabulary/date/CalendarDate$Precision;" (.ref wY)) (E_wY : Exa Z Z.heap wY "com/example/tabulary/tabulary/date/CalendarDate$Precision") (Fa : Fld Z h0 a "com/example/tabulary/tabulary/date/CalendarDate" "precision" "Lcom/example/tabulary/tabulary/date/CalendarDate$Precision;" (.ref z)) :
    MetFree l (⟨"com/example/tabulary/tabulary/date/CalendarDate", "precision", "()Lcom/example/tabulary/tabulary/date/CalendarDate$Precision;"⟩ : MethodName) (head1 (Jvm.Cond.code (⟨"com/example/tabulary/tabulary/date/CalendarDate", "precision", "()Lcom/example/tabulary/tabulary/date/CalendarDate$Precision;"⟩ : MethodName) prog_15_method_13_code 1 (some (.object "com/example/tabulary/tabulary/date/CalendarDate$Precision")) :: ws) ({ frames := 0, cells := 0, slots := 0, locals := 0 } : Room)) (fun aa_ U_ => aa_ = #[(.ref a)] ∧ Z.Warmed39 U_.vm ∧ U_.heap = h0) (fun _ _ _ _ _ => True) (fun _ U_ oo_ V_ => ∃ vv_ LL_, oo_ = .returned vv_ ∧ Q_get_precision Z wY a z h0 n0 vv_ V_.heap LL_ ∧ FrameEnd U_ oo_ V_ LL_ ({ frames := 0, cells := 0, slots := 0, locals := 0 } : Room).cells ({ frames := 0, cells := 0, slots := 0, locals := 0 } : Room).slots) := by
  refine MetFree.of_bodySF (plainFor_of_name pn_com_example_tabulary_tabulary_date_CalendarDate) hisR ?_
  intro p e s m args below meth c s₁ Bd hml0 hP hK
  obtain ⟨rfl, hZ, hh⟩ := hP
  have hx := Bd.exec
  have hby := Bd.bytes
  have hml : c.maxLocals = 1 := hml0
  have hown : s.vm.findClass "com/example/tabulary/tabulary/date/CalendarDate" = some m.cls := findClass_of_methodNamed Bd.named
  have hnm := (name_of_methodNamed Bd.named Bd.method).1
  have X0 : Stand p l e ({ frames := 0, cells := 0, slots := 0, locals := 0 } : Room) s m #[(.ref a)] below meth c s₁ [] 0 0 := Stand.of_body Bd
  have e0 : s₁.heap = h0 := by rw [← hh, Bd.state]; rfl
  have N0 := Fr.nil n0
  have Z0 : n0 ≤ h0.size := O0.1 ▸ O0.2.1
  have hk0 := Nat.zero_le h0.size
  have K0 : Keep h0 h0 [] := Keep.refl _ _
  have R0 : ∀ t, Steps p.tables e below (s₁.setTop (mkF m 0 #[.val (.ref a)] [])) t → Steps p.tables e below (s₁.setTop (entryFrame m #[(.ref a)] 1)) t := fun t k => castTop (ef_get_precision m a z) k
  obtain ⟨T1, X1, e1, st1⟩ := getF X0 hx hZ hown (host := "") (Or.inl (hw _ (List.mem_of_getElem? (i := 26) rfl))) Via.refl e0 Fa (g := (mkF m 1 #[.val (.ref a)] [(.ref a)])) rfl rfl (hb hby d8_1)
  have R2 : ∀ t, Steps p.tables e below (T1.setTop (mkF m 4 #[.val (.ref a)] [(.ref z)])) t → Steps p.tables e below (s₁.setTop (entryFrame m #[(.ref a)] 1)) t := by
    intro t k
    refine R0 t ?_
    show Steps p.tables e below (s₁.setTop (mkF m 0 #[.val (.ref a)] [])) t
    refine XS.aloadN X0.here hx rfl (hb hby d8_0) rfl rfl ?_
    show Steps p.tables e below (s₁.setTop (mkF m 1 #[.val (.ref a)] [(.ref a)])) t
    refine st1 _ ?_
    exact k
  obtain ⟨fs, hr, hrun, hended, hW, hsame⟩ := X1.leave (v := some (.ref z)) (fun h => by rw [Bd.returns] at h; cases h)
  refine ⟨_, _, R2 _ ?_, hrun, hended, _, _, rfl, ?_, ⟨_, rfl⟩, hW, hsame.mono (by decide) (by decide)⟩
  · show Steps p.tables e below (T1.setTop (mkF m 4 #[.val (.ref a)] [(.ref z)])) _
    exact retOut X1 hx Bd.returns rfl (Or.inr (Or.inr (Or.inr (Or.inr ⟨rfl, rfl, rfl⟩)))) (hb hby d8_4) hr
  · show Q_get_precision Z wY a z h0 n0 _ T1.heap _
    rw [e1]
    exact ⟨rfl, N0, rfl⟩
theorem d9_0 : decode prog_15_method_3_code 0 = .ok (.aload_n 0, 1) := by decide +kernel
theorem d9_1 : decode prog_15_method_3_code 1 = .ok (.getfield 19, 3) := by decide +kernel
theorem d9_4 : decode prog_15_method_3_code 4 = .ok (.getstatic 23, 3) := by decide +kernel
theorem d9_7 : decode prog_15_method_3_code 7 = .ok (.if_acmp .ne 5, 3) := by decide +kernel
theorem d9_10 : decode prog_15_method_3_code 10 = .ok (.iconst 1, 1) := by decide +kernel
theorem d9_11 : decode prog_15_method_3_code 11 = .ok (.ireturn, 1) := by decide +kernel
theorem ef_isReal (m : MethodId) (a : Addr) : entryFrame m #[(.ref a)] 1 = mkF m 0 #[.val (.ref a)] [] := by first | (simp [entryFrame, mkF, argsToLocals, Value.category]; done) | rfl
def Q_isReal (Z : State) (wY : Addr) (a : Addr) (h0 : Heap) (n0 : Nat) (vv_ : Option Value) (hh_ : Heap) (LL_ : List Loc) : Prop := vv_ = some (.int (1 : Int32)) ∧ (Fr n0 LL_) ∧ (hh_ = h0)
set_option maxRecDepth 65536 in
set_option maxHeartbeats 40000000 in
theorem isReal (l : Launch) (Z : State) (a0 : Array Value) (hw : ∀ d ∈ tables_1, d.before a0 Z = true) (ws : List Jvm.Cond) (wY : Addr) (a : Addr) (h0 : Heap) (n0 : Nat) (O0 : Old Z n0 h0) (S_wY : Sta Z Z.heap "com/example/tabulary/tabulary/date/CalendarDate$Precision" "YEAR" "Lcom/example/tabulary/tabulary/date/CalendarDate$Precision;" (.ref wY)) (E_wY : Exa Z Z.heap wY "com/example/tabulary/tabulary/date/CalendarDate$Precision") (Fa : Fld Z h0 a "com/example/tabulary/tabulary/date/CalendarDate" "precision" "Lcom/example/tabulary/tabulary/date/CalendarDate$Precision;" (.ref wY)) :
    MetFree l (⟨"com/example/tabulary/tabulary/date/CalendarDate", "isReal", "()Z"⟩ : MethodName) (head1 (Jvm.Cond.code (⟨"com/example/tabulary/tabulary/date/CalendarDate", "isReal", "()Z"⟩ : MethodName) prog_15_method_3_code 1 (some .boolean) :: ws) ({ frames := 0, cells := 0, slots := 0, locals := 0 } : Room)) (fun aa_ U_ => aa_ = #[(.ref a)] ∧ Z.Warmed39 U_.vm ∧ U_.heap = h0) (fun _ _ _ _ _ => True) (fun _ U_ oo_ V_ => ∃ vv_ LL_, oo_ = .returned vv_ ∧ Q_isReal Z wY a h0 n0 vv_ V_.heap LL_ ∧ FrameEnd U_ oo_ V_ LL_ ({ frames := 0, cells := 0, slots := 0, locals := 0 } : Room).cells ({ frames := 0, cells := 0, slots := 0, locals := 0 } : Room).slots) := by
  refine MetFree.of_bodySF (plainFor_of_name pn_com_example_tabulary_tabulary_date_CalendarDate) hisR ?_
  intro p e s m args below meth c s₁ Bd hml0 hP hK
  obtain ⟨rfl, hZ, hh⟩ := hP
  have hx := Bd.exec
  have hby := Bd.bytes
  have hml : c.maxLocals = 1 := hml0
  have hown : s.vm.findClass "com/example/tabulary/tabulary/date/CalendarDate" = some m.cls := findClass_of_methodNamed Bd.named
  have hnm := (name_of_methodNamed Bd.named Bd.method).1
  have X0 : Stand p l e ({ frames := 0, cells := 0, slots := 0, locals := 0 } : Room) s m #[(.ref a)] below meth c s₁ [] 0 0 := Stand.of_body Bd
  have e0 : s₁.heap = h0 := by rw [← hh, Bd.state]; rfl
  have N0 := Fr.nil n0
  have Z0 : n0 ≤ h0.size := O0.1 ▸ O0.2.1
  have hk0 := Nat.zero_le h0.size
  have K0 : Keep h0 h0 [] := Keep.refl _ _
  have R0 : ∀ t, Steps p.tables e below (s₁.setTop (mkF m 0 #[.val (.ref a)] [])) t → Steps p.tables e below (s₁.setTop (entryFrame m #[(.ref a)] 1)) t := fun t k => castTop (ef_isReal m a) k
  obtain ⟨T1, X1, e1, st1⟩ := getF X0 hx hZ hown (host := "") (Or.inl (hw _ (List.mem_of_getElem? (i := 26) rfl))) Via.refl e0 Fa (g := (mkF m 1 #[.val (.ref a)] [(.ref a)])) rfl rfl (hb hby d9_1)
  obtain ⟨T2, X2, e2, st2⟩ := getS2 X1 hx hZ hown (host := "") (Or.inl (hw _ (List.mem_of_getElem? (i := 6) rfl))) Via.refl e1 (S_wY.ext O0.2) (g := (mkF m 4 #[.val (.ref a)] [(.ref wY)])) rfl (hb hby d9_4)
  have R3 : ∀ t, Steps p.tables e below (T2.setTop (mkF m 11 #[.val (.ref a)] [(.int (1 : Int32))])) t → Steps p.tables e below (s₁.setTop (entryFrame m #[(.ref a)] 1)) t := by
    intro t k
    refine R0 t ?_
    show Steps p.tables e below (s₁.setTop (mkF m 0 #[.val (.ref a)] [])) t
    refine XS.aloadN X0.here hx rfl (hb hby d9_0) rfl rfl ?_
    show Steps p.tables e below (s₁.setTop (mkF m 1 #[.val (.ref a)] [(.ref a)])) t
    refine st1 _ ?_
    show Steps p.tables e below (T1.setTop (mkF m 4 #[.val (.ref a)] [(.ref wY)])) t
    refine st2 _ ?_
    show Steps p.tables e below (T2.setTop (mkF m 7 #[.val (.ref a)] [(.ref wY), (.ref wY)])) t
    refine Jvm.RoadKit.acmp (g := (mkF m 7 #[.val (.ref a)] [(.ref wY), (.ref wY)])) X2 hx rfl rfl rfl (pc0 := 7) (pc' := 10) (same := true) rfl (hb hby d9_7) rfl (decide_eq_true (congrArg Value.ref rfl)) (by decide) (by decide) ?_
    show Steps p.tables e below (T2.setTop (mkF m 10 #[.val (.ref a)] [])) t
    refine XS.iconst X2.here hx rfl (hb hby d9_10) ?_
    exact k
  obtain ⟨fs, hr, hrun, hended, hW, hsame⟩ := X2.leave (v := some (.int (1 : Int32))) (fun h => by rw [Bd.returns] at h; cases h)
  refine ⟨_, _, R3 _ ?_, hrun, hended, _, _, rfl, ?_, ⟨_, rfl⟩, hW, hsame.mono (by decide) (by decide)⟩
  · show Steps p.tables e below (T2.setTop (mkF m 11 #[.val (.ref a)] [(.int (1 : Int32))])) _
    exact retN X2 hx (t := .boolean) Bd.returns (by simp) (hb hby d9_11) hr
  · show Q_isReal Z wY a h0 n0 _ T2.heap _
    rw [e2]
    exact ⟨rfl, N0, rfl⟩
theorem pd_2 : parseMethodDescriptor "(I)Lcom/example/tabulary/tabulary/date/CalendarDate;" = some ⟨[.int], some (.object "com/example/tabulary/tabulary/date/CalendarDate")⟩ := by decide +kernel
theorem pd_3 : parseMethodDescriptor "()I" = some ⟨[], some .int⟩ := by decide +kernel
theorem pd_4 : parseMethodDescriptor "()Lcom/example/tabulary/tabulary/date/CalendarDate$Precision;" = some ⟨[], some (.object "com/example/tabulary/tabulary/date/CalendarDate$Precision")⟩ := by decide +kernel
theorem pd_5 : parseMethodDescriptor "()Z" = some ⟨[], some .boolean⟩ := by decide +kernel
theorem pn_com_example_tabulary_tabulary_date_CalendarDateOfYearPinLaw : plainName "com/example/tabulary/tabulary/date/CalendarDateOfYearPinLaw" = true := by first | (simp [plainName, overriddenIn]; done) | decide +kernel
theorem ef_rm0 (m : MethodId) (y : Int32) : entryFrame m #[(.int y)] maxLocals = mkF m 0 #[.val (.int y), .unset] [] := by first | (simp [entryFrame, mkF, argsToLocals, Value.category, maxLocals]; done) | rfl
def Q_rm0 (Z : State) (wY : Addr) (y : Int32) (h0 : Heap) (n0 : Nat) (vv_ : Option Value) (hh_ : Heap) (LL_ : List Loc) : Prop := vv_ = some (.int (1 : Int32)) ∧ (Fr n0 LL_)
set_option maxRecDepth 65536 in
set_option maxHeartbeats 40000000 in
theorem rm0 (l : Launch) (Z : State) (a0 : Array Value) (hw : ∀ d ∈ tables_1, d.before a0 Z = true) (ws : List Jvm.Cond) (wY : Addr) (y : Int32) (h0 : Heap) (n0 : Nat) (O0 : Old Z n0 h0) (S_wY : Sta Z Z.heap "com/example/tabulary/tabulary/date/CalendarDate$Precision" "YEAR" "Lcom/example/tabulary/tabulary/date/CalendarDate$Precision;" (.ref wY)) (E_wY : Exa Z Z.heap wY "com/example/tabulary/tabulary/date/CalendarDate$Precision") :
    MetFree l x (head1 (Jvm.Cond.code x code maxLocals ret :: ws) room_1) (fun aa_ U_ => aa_ = #[(.int y)] ∧ Z.Warmed39 U_.vm ∧ U_.heap = h0) (fun _ _ _ _ _ => True) (fun _ U_ oo_ V_ => ∃ vv_ LL_, oo_ = .returned vv_ ∧ Q_rm0 Z wY y h0 n0 vv_ V_.heap LL_ ∧ FrameEnd U_ oo_ V_ LL_ room_1.cells room_1.slots) := by
  refine MetFree.of_bodySF (plainFor_of_name pn_com_example_tabulary_tabulary_date_CalendarDateOfYearPinLaw) hisR ?_
  intro p e s m args below meth c s₁ Bd hml0 hP hK
  obtain ⟨rfl, hZ, hh⟩ := hP
  have hx := Bd.exec
  have hby := Bd.bytes
  have hml : c.maxLocals = 2 := hml0
  have hown : s.vm.findClass "com/example/tabulary/tabulary/date/CalendarDateOfYearPinLaw" = some m.cls := findClass_of_methodNamed Bd.named
  have hnm := (name_of_methodNamed Bd.named Bd.method).1
  have X0 : Stand p l e room_1 s m #[(.int y)] below meth c s₁ [] 0 0 := Stand.of_body Bd
  have e0 : s₁.heap = h0 := by rw [← hh, Bd.state]; rfl
  have N0 := Fr.nil n0
  have Z0 : n0 ≤ h0.size := O0.1 ▸ O0.2.1
  have hk0 := Nat.zero_le h0.size
  have K0 : Keep h0 h0 [] := Keep.refl _ _
  have R0 : ∀ t, Steps p.tables e below (s₁.setTop (mkF m 0 #[.val (.int y), .unset] [])) t → Steps p.tables e below (s₁.setTop (entryFrame m #[(.int y)] maxLocals)) t := fun t k => castTop (ef_rm0 m y) k
  obtain ⟨_, _, ⟨T1, L1, k1, n1⟩, -, X1, ⟨Lc1, hQ1, l1, y1, z1⟩, st1⟩ := Jvm.LawKit.callS X0 hx (y := (⟨"com/example/tabulary/tabulary/date/CalendarDate", "ofYear", "(I)Lcom/example/tabulary/tabulary/date/CalendarDate;"⟩ : MethodName)) hown (mvT hZ (hw _ (List.mem_of_getElem? (i := 0) rfl))) (mvT hZ (hw _ (List.mem_of_getElem? (i := 1) rfl))) (mvT hZ (hw _ (List.mem_of_getElem? (i := 2) rfl))) (mvT hZ (hw _ (List.mem_of_getElem? (i := 3) rfl))) (by decide) (backOf (W := 0) (ofYear l Z a0 hw [] wY y h0 n0 O0 S_wY E_wY   ) hZ (hw _ (List.mem_of_getElem? (i := 3) rfl)) (hw _ (List.mem_of_getElem? (i := 2) rfl)) (by decide) (by decide)) (g := (mkF m 1 #[.val (.int y), .unset] [(.int y)])) rfl (by rw [hml]; rfl) (argsL := [(.int y)]) (rest := []) (lenOf pd_2 rfl) rfl (by show 2 * 0 + _ ≤ _; exact Nat.le_of_eq rfl) (hb hby at_1) (fun _ _ => ⟨rfl, e0, (by decide : 0 + 1 ≤ _), (by decide : 0 + 4 ≤ _)⟩)
  dsimp only [Pt.U, Pt.locs, Pt.cells, Pt.slots] at X1 l1 y1 z1 st1 hQ1
  subst l1 y1 z1
  obtain ⟨b1, rfl, N1q, K1q, fr1_b, y1_0, y1_1, y1_2, y1_3, y1_4⟩ := hQ1
  have N1 := Fr.app N0 N1q
  have g_b1 : n0 ≤ b1 := Nat.le_trans Z0 fr1_b
  have sz_b1 : h0.size ≤ b1 := Nat.le_trans K0.1 fr1_b
  have Z1 : n0 ≤ T1.heap.size := Nat.le_trans Z0 K1q.1
  have K1 : Keep h0 T1.heap [] := K0.trans K1q all0
  have O1 : Old Z n0 T1.heap := O0.keep K1q all0
  obtain ⟨cq2, kq2, q2a, q2b, q2c⟩ := isOf hZ rfl y1_0
  obtain ⟨_, _, ⟨T2, L2, k2, n2⟩, -, X2, ⟨Lc2, hQ2, l2, y2, z2⟩, st2⟩ := X1.virtualBack hx (y := (⟨"com/example/tabulary/tabulary/date/CalendarDate", "year", "()I"⟩ : MethodName)) (z := (⟨"com/example/tabulary/tabulary/date/CalendarDate", "year", "()I"⟩ : MethodName)) hown (mvT hZ (hw _ (List.mem_of_getElem? (i := 28) rfl))) (mvT hZ (hw _ (List.mem_of_getElem? (i := 29) rfl))) (notFace_of_selects (args := #[]) (mvT hZ (hw _ (List.mem_of_getElem? (i := 31) rfl)))) (mvT hZ (hw _ (List.mem_of_getElem? (i := 31) rfl))) (mvT hZ (hw _ (List.mem_of_getElem? (i := 30) rfl))) (by decide) (backOf (W := 0) (get_year l Z a0 hw [] wY b1 y T1.heap n0 O1 S_wY E_wY   y1_1) hZ (hw _ (List.mem_of_getElem? (i := 32) rfl)) (hw _ (List.mem_of_getElem? (i := 2) rfl)) (by decide) (by decide)) q2a q2c (g := (mkF m 12 #[.val (.int y), .val (.ref b1)] [(.ref b1)])) rfl (by rw [hml]; rfl) (Steps.refl _) (argsL := []) (rest := []) (lenOf pd_3 rfl) rfl (by show 2 * 0 + _ ≤ _; exact Nat.le_of_eq rfl) (hb hby at_12) (fun _ _ => ⟨rfl, rfl, (by decide : 1 + 0 ≤ _), (by decide : 4 + 0 ≤ _)⟩)
  dsimp only [Pt.U, Pt.locs, Pt.cells, Pt.slots] at X2 l2 y2 z2 st2 hQ2
  subst l2 y2 z2
  obtain ⟨rfl, N2q, e2⟩ := hQ2
  have N2 := Fr.app N1 N2q
  obtain ⟨cq3, kq3, q3a, q3b, q3c⟩ := isOf hZ e2 y1_0
  obtain ⟨_, _, ⟨T3, L3, k3, n3⟩, -, X3, ⟨Lc3, hQ3, l3, y3, z3⟩, st3⟩ := X2.virtualBack hx (y := (⟨"com/example/tabulary/tabulary/date/CalendarDate", "month", "()I"⟩ : MethodName)) (z := (⟨"com/example/tabulary/tabulary/date/CalendarDate", "month", "()I"⟩ : MethodName)) hown (mvT hZ (hw _ (List.mem_of_getElem? (i := 33) rfl))) (mvT hZ (hw _ (List.mem_of_getElem? (i := 34) rfl))) (notFace_of_selects (args := #[]) (mvT hZ (hw _ (List.mem_of_getElem? (i := 36) rfl)))) (mvT hZ (hw _ (List.mem_of_getElem? (i := 36) rfl))) (mvT hZ (hw _ (List.mem_of_getElem? (i := 35) rfl))) (by decide) (backOf (W := 0) (get_month l Z a0 hw [] wY b1 (1 : Int32) T1.heap n0 O1 S_wY E_wY   y1_2) hZ (hw _ (List.mem_of_getElem? (i := 37) rfl)) (hw _ (List.mem_of_getElem? (i := 2) rfl)) (by decide) (by decide)) q3a q3c (g := (mkF m 20 #[.val (.int y), .val (.ref b1)] [(.ref b1)])) rfl (by rw [hml]; rfl) (Steps.refl _) (argsL := []) (rest := []) (lenOf pd_3 rfl) rfl (by show 2 * 0 + _ ≤ _; exact Nat.le_of_eq rfl) (hb hby at_20) (fun _ _ => ⟨rfl, e2, (by decide : 1 + 0 ≤ _), (by decide : 4 + 0 ≤ _)⟩)
  dsimp only [Pt.U, Pt.locs, Pt.cells, Pt.slots] at X3 l3 y3 z3 st3 hQ3
  subst l3 y3 z3
  obtain ⟨rfl, N3q, e3⟩ := hQ3
  have N3 := Fr.app N2 N3q
  obtain ⟨cq4, kq4, q4a, q4b, q4c⟩ := isOf hZ e3 y1_0
  obtain ⟨_, _, ⟨T4, L4, k4, n4⟩, -, X4, ⟨Lc4, hQ4, l4, y4, z4⟩, st4⟩ := X3.virtualBack hx (y := (⟨"com/example/tabulary/tabulary/date/CalendarDate", "day", "()I"⟩ : MethodName)) (z := (⟨"com/example/tabulary/tabulary/date/CalendarDate", "day", "()I"⟩ : MethodName)) hown (mvT hZ (hw _ (List.mem_of_getElem? (i := 38) rfl))) (mvT hZ (hw _ (List.mem_of_getElem? (i := 39) rfl))) (notFace_of_selects (args := #[]) (mvT hZ (hw _ (List.mem_of_getElem? (i := 41) rfl)))) (mvT hZ (hw _ (List.mem_of_getElem? (i := 41) rfl))) (mvT hZ (hw _ (List.mem_of_getElem? (i := 40) rfl))) (by decide) (backOf (W := 0) (get_day l Z a0 hw [] wY b1 (1 : Int32) T1.heap n0 O1 S_wY E_wY   y1_3) hZ (hw _ (List.mem_of_getElem? (i := 42) rfl)) (hw _ (List.mem_of_getElem? (i := 2) rfl)) (by decide) (by decide)) q4a q4c (g := (mkF m 28 #[.val (.int y), .val (.ref b1)] [(.ref b1)])) rfl (by rw [hml]; rfl) (Steps.refl _) (argsL := []) (rest := []) (lenOf pd_3 rfl) rfl (by show 2 * 0 + _ ≤ _; exact Nat.le_of_eq rfl) (hb hby at_28) (fun _ _ => ⟨rfl, e3, (by decide : 1 + 0 ≤ _), (by decide : 4 + 0 ≤ _)⟩)
  dsimp only [Pt.U, Pt.locs, Pt.cells, Pt.slots] at X4 l4 y4 z4 st4 hQ4
  subst l4 y4 z4
  obtain ⟨rfl, N4q, e4⟩ := hQ4
  have N4 := Fr.app N3 N4q
  obtain ⟨cq5, kq5, q5a, q5b, q5c⟩ := isOf hZ e4 y1_0
  obtain ⟨_, _, ⟨T5, L5, k5, n5⟩, -, X5, ⟨Lc5, hQ5, l5, y5, z5⟩, st5⟩ := X4.virtualBack hx (y := (⟨"com/example/tabulary/tabulary/date/CalendarDate", "precision", "()Lcom/example/tabulary/tabulary/date/CalendarDate$Precision;"⟩ : MethodName)) (z := (⟨"com/example/tabulary/tabulary/date/CalendarDate", "precision", "()Lcom/example/tabulary/tabulary/date/CalendarDate$Precision;"⟩ : MethodName)) hown (mvT hZ (hw _ (List.mem_of_getElem? (i := 43) rfl))) (mvT hZ (hw _ (List.mem_of_getElem? (i := 44) rfl))) (notFace_of_selects (args := #[]) (mvT hZ (hw _ (List.mem_of_getElem? (i := 46) rfl)))) (mvT hZ (hw _ (List.mem_of_getElem? (i := 46) rfl))) (mvT hZ (hw _ (List.mem_of_getElem? (i := 45) rfl))) (by decide) (backOf (W := 0) (get_precision l Z a0 hw [] wY b1 wY T1.heap n0 O1 S_wY E_wY   y1_4) hZ (hw _ (List.mem_of_getElem? (i := 47) rfl)) (hw _ (List.mem_of_getElem? (i := 2) rfl)) (by decide) (by decide)) q5a q5c (g := (mkF m 36 #[.val (.int y), .val (.ref b1)] [(.ref b1)])) rfl (by rw [hml]; rfl) (Steps.refl _) (argsL := []) (rest := []) (lenOf pd_4 rfl) rfl (by show 2 * 0 + _ ≤ _; exact Nat.le_of_eq rfl) (hb hby at_36) (fun _ _ => ⟨rfl, e4, (by decide : 1 + 0 ≤ _), (by decide : 4 + 0 ≤ _)⟩)
  dsimp only [Pt.U, Pt.locs, Pt.cells, Pt.slots] at X5 l5 y5 z5 st5 hQ5
  subst l5 y5 z5
  obtain ⟨rfl, N5q, e5⟩ := hQ5
  have N5 := Fr.app N4 N5q
  obtain ⟨T6, X6, e6, st6⟩ := getS2 X5 hx hZ hown (host := "") (Or.inl (hw _ (List.mem_of_getElem? (i := 48) rfl))) Via.refl e5 (S_wY.ext O1.2) (g := (mkF m 39 #[.val (.int y), .val (.ref b1)] [(.ref wY)])) rfl (hb hby at_39)
  obtain ⟨cq7, kq7, q7a, q7b, q7c⟩ := isOf hZ e6 y1_0
  obtain ⟨_, _, ⟨T7, L7, k7, n7⟩, -, X7, ⟨Lc7, hQ7, l7, y7, z7⟩, st7⟩ := X6.virtualBack hx (y := (⟨"com/example/tabulary/tabulary/date/CalendarDate", "isReal", "()Z"⟩ : MethodName)) (z := (⟨"com/example/tabulary/tabulary/date/CalendarDate", "isReal", "()Z"⟩ : MethodName)) hown (mvT hZ (hw _ (List.mem_of_getElem? (i := 49) rfl))) (mvT hZ (hw _ (List.mem_of_getElem? (i := 50) rfl))) (notFace_of_selects (args := #[]) (mvT hZ (hw _ (List.mem_of_getElem? (i := 52) rfl)))) (mvT hZ (hw _ (List.mem_of_getElem? (i := 52) rfl))) (mvT hZ (hw _ (List.mem_of_getElem? (i := 51) rfl))) (by decide) (backOf (W := 0) (isReal l Z a0 hw [] wY b1 T1.heap n0 O1 S_wY E_wY   y1_4) hZ (hw _ (List.mem_of_getElem? (i := 53) rfl)) (hw _ (List.mem_of_getElem? (i := 2) rfl)) (by decide) (by decide)) q7a q7c (g := (mkF m 46 #[.val (.int y), .val (.ref b1)] [(.ref b1)])) rfl (by rw [hml]; rfl) (Steps.refl _) (argsL := []) (rest := []) (lenOf pd_5 rfl) rfl (by show 2 * 0 + _ ≤ _; exact Nat.le_of_eq rfl) (hb hby at_46) (fun _ _ => ⟨rfl, e6, (by decide : 1 + 0 ≤ _), (by decide : 4 + 0 ≤ _)⟩)
  dsimp only [Pt.U, Pt.locs, Pt.cells, Pt.slots] at X7 l7 y7 z7 st7 hQ7
  subst l7 y7 z7
  obtain ⟨rfl, N7q, e7⟩ := hQ7
  have N7 := Fr.app N5 N7q
  have R8 : ∀ t, Steps p.tables e below (T7.setTop (mkF m 57 #[.val (.int y), .val (.ref b1)] [(.int (1 : Int32))])) t → Steps p.tables e below (s₁.setTop (entryFrame m #[(.int y)] maxLocals)) t := by
    intro t k
    refine R0 t ?_
    show Steps p.tables e below (s₁.setTop (mkF m 0 #[.val (.int y), .unset] [])) t
    refine XS.iloadN X0.here hx rfl (hb hby at_0) rfl ?_
    show Steps p.tables e below (s₁.setTop (mkF m 1 #[.val (.int y), .unset] [(.int y)])) t
    refine st1 _ ?_
    show Steps p.tables e below (T1.setTop (mkF m 4 #[.val (.int y), .unset] [(.ref b1)])) t
    refine XS.astoreN X1.here hx rfl (hb hby at_4) rfl rfl (l' := #[.val (.int y), .val (.ref b1)]) rfl ?_
    show Steps p.tables e below (T1.setTop (mkF m 5 #[.val (.int y), .val (.ref b1)] [])) t
    refine XS.aloadN X1.here hx rfl (hb hby at_5) rfl rfl ?_
    show Steps p.tables e below (T1.setTop (mkF m 6 #[.val (.int y), .val (.ref b1)] [(.ref b1)])) t
    refine XS.ifnonnullYes X1.here hx rfl (pc0 := 6) (pc' := 11) rfl (hb hby at_6) rfl (by decide) (by decide) ?_
    show Steps p.tables e below (T1.setTop (mkF m 11 #[.val (.int y), .val (.ref b1)] [])) t
    refine XS.aloadN X1.here hx rfl (hb hby at_11) rfl rfl ?_
    show Steps p.tables e below (T1.setTop (mkF m 12 #[.val (.int y), .val (.ref b1)] [(.ref b1)])) t
    refine st2.trans ?_
    show Steps p.tables e below (T2.setTop (mkF m 15 #[.val (.int y), .val (.ref b1)] [(.int y)])) t
    refine XS.iloadN X2.here hx rfl (hb hby at_15) rfl ?_
    show Steps p.tables e below (T2.setTop (mkF m 16 #[.val (.int y), .val (.ref b1)] [(.int y), (.int y)])) t
    refine XS.icmpNo X2.here hx rfl (hb hby at_16) rfl (teq (rfl : y = y)).2 ?_
    show Steps p.tables e below (T2.setTop (mkF m 19 #[.val (.int y), .val (.ref b1)] [])) t
    refine XS.aloadN X2.here hx rfl (hb hby at_19) rfl rfl ?_
    show Steps p.tables e below (T2.setTop (mkF m 20 #[.val (.int y), .val (.ref b1)] [(.ref b1)])) t
    refine st3.trans ?_
    show Steps p.tables e below (T3.setTop (mkF m 23 #[.val (.int y), .val (.ref b1)] [(.int (1 : Int32))])) t
    refine XS.iconst X3.here hx rfl (hb hby at_23) ?_
    show Steps p.tables e below (T3.setTop (mkF m 24 #[.val (.int y), .val (.ref b1)] [(.int (1 : Int32)), (.int (1 : Int32))])) t
    refine XS.icmpNo X3.here hx rfl (hb hby at_24) rfl (teq ((by decide) : (1 : Int32) = (1 : Int32))).2 ?_
    show Steps p.tables e below (T3.setTop (mkF m 27 #[.val (.int y), .val (.ref b1)] [])) t
    refine XS.aloadN X3.here hx rfl (hb hby at_27) rfl rfl ?_
    show Steps p.tables e below (T3.setTop (mkF m 28 #[.val (.int y), .val (.ref b1)] [(.ref b1)])) t
    refine st4.trans ?_
    show Steps p.tables e below (T4.setTop (mkF m 31 #[.val (.int y), .val (.ref b1)] [(.int (1 : Int32))])) t
    refine XS.iconst X4.here hx rfl (hb hby at_31) ?_
    show Steps p.tables e below (T4.setTop (mkF m 32 #[.val (.int y), .val (.ref b1)] [(.int (1 : Int32)), (.int (1 : Int32))])) t
    refine XS.icmpNo X4.here hx rfl (hb hby at_32) rfl (teq ((by decide) : (1 : Int32) = (1 : Int32))).2 ?_
    show Steps p.tables e below (T4.setTop (mkF m 35 #[.val (.int y), .val (.ref b1)] [])) t
    refine XS.aloadN X4.here hx rfl (hb hby at_35) rfl rfl ?_
    show Steps p.tables e below (T4.setTop (mkF m 36 #[.val (.int y), .val (.ref b1)] [(.ref b1)])) t
    refine st5.trans ?_
    show Steps p.tables e below (T5.setTop (mkF m 39 #[.val (.int y), .val (.ref b1)] [(.ref wY)])) t
    refine st6 _ ?_
    show Steps p.tables e below (T6.setTop (mkF m 42 #[.val (.int y), .val (.ref b1)] [(.ref wY), (.ref wY)])) t
    refine Jvm.RoadKit.acmp (g := (mkF m 42 #[.val (.int y), .val (.ref b1)] [(.ref wY), (.ref wY)])) X6 hx rfl rfl rfl (pc0 := 42) (pc' := 45) (same := true) rfl (hb hby at_42) rfl (decide_eq_true (congrArg Value.ref rfl)) (by decide) (by decide) ?_
    show Steps p.tables e below (T6.setTop (mkF m 45 #[.val (.int y), .val (.ref b1)] [])) t
    refine XS.aloadN X6.here hx rfl (hb hby at_45) rfl rfl ?_
    show Steps p.tables e below (T6.setTop (mkF m 46 #[.val (.int y), .val (.ref b1)] [(.ref b1)])) t
    refine st7.trans ?_
    show Steps p.tables e below (T7.setTop (mkF m 49 #[.val (.int y), .val (.ref b1)] [(.int (1 : Int32))])) t
    refine XS.ifNo X7.here hx rfl (hb hby at_49) rfl ((if0 _ _).trans (feq ((by decide) : ¬ ((1 : Int32) = (0 : Int32)))).1) ?_
    show Steps p.tables e below (T7.setTop (mkF m 52 #[.val (.int y), .val (.ref b1)] [])) t
    refine XS.iconst X7.here hx rfl (hb hby at_52) ?_
    show Steps p.tables e below (T7.setTop (mkF m 53 #[.val (.int y), .val (.ref b1)] [(.int (1 : Int32))])) t
    refine XS.goto X7.here hx rfl (pc0 := 53) (pc' := 57) rfl (hb hby at_53) (by decide) (by decide) ?_
    exact k
  obtain ⟨fs, hr, hrun, hended, hW, hsame⟩ := X7.leave (v := some (.int (1 : Int32))) (fun h => by rw [Bd.returns] at h; cases h)
  refine ⟨_, _, R8 _ ?_, hrun, hended, _, _, rfl, ?_, ⟨_, rfl⟩, hW, hsame.mono (by decide) (by decide)⟩
  · show Steps p.tables e below (T7.setTop (mkF m 57 #[.val (.int y), .val (.ref b1)] [(.int (1 : Int32))])) _
    exact retN X7 hx (t := .boolean) Bd.returns (by simp) (hb hby at_57) hr
  · show Q_rm0 Z wY y h0 n0 _ T7.heap _
    rw [e7]
    exact ⟨rfl, N7⟩
set_option maxRecDepth 65536 in
set_option maxHeartbeats 40000000 in
theorem comes_1 {Post : Tables → Env → Array Value → State → Outcome → State → Prop} (hpost : ∀ tb e args s v u, (limb_1_1.after args s (.returned v) u = true ∧ limb_1_2.after args s (.returned v) u = true ∧ True) → FrameEnd s (.returned v) u (Jvm.fieldLocs frame_1_writes args s ++ Jvm.arrayLocs frame_1_arrays args s ++ Jvm.staticLocs frame_1_statics s) 16 128 → Post tb e args s (.returned v) u) :
    ArmFor flags0 classFile x code maxLocals ret World_1 tables_1 room_1 Calls_1 rest_1 Pre_1 Post := by
  intro l hfl _ _ p e ha hc hk s m args below hf hA hF happ hP
  obtain ⟨hcalls, hrest, hpre⟩ := hP
  obtain ⟨-, -, -, hnamed, -, -, -, hat⟩ := (Spec.applies_iff hf).mp happ
  obtain ⟨hg, hn⟩ := and_e (Cond.before_iff.mp (show (Jvm.Cond.and given_1 narrow_1).before args s = true from hpre))
  obtain ⟨g1, g2⟩ := and_e hg
  obtain ⟨w0, rfl⟩ : ∃ w0 : Value, args = #[w0] := by
    have hs : args.size = 1 := by simpa [Cond.value, given_1] using g1
    obtain ⟨L⟩ := args
    match L, hs with
    | [w0], _ => exact ⟨w0, rfl⟩
  have hw := fun d (hd : d ∈ tables_1) => atoms_spec (ws := Jvm.Cond.code x code maxLocals ret :: tables_1) hat d (List.mem_cons_of_mem _ hd)
  have hfit : Fit s := fun {y c} hc i hi => by
    obtain ⟨ha, rfl⟩ := Array.getElem?_eq_some_iff.mp hc
    have q := List.all_eq_true.mp ((Array.all_eq_true_iff_forall_mem.mp hF) _ (Array.getElem_mem ha)) i (List.mem_range.mpr hi)
    simpa [Array.getElem?_eq_getElem hi] using q
  obtain ⟨i0, ei0⟩ := is_v g2
  obtain rfl : w0 = (.int i0) := Option.some.inj ei0
  obtain ⟨wY, ev_wY, S_wY, E_wY⟩ := own_sta hn (hw _ (List.mem_of_getElem? (i := 7) rfl)) (hw _ (List.mem_of_getElem? (i := 8) rfl))
  obtain ⟨n, o, h1, h2, h3, _, L, rfl, ⟨rfl, N⟩, hq⟩ := rm0 l s _ hw tables_1 wY i0 s.heap s.heap.size (Old.start s) S_wY E_wY p e ha hc hk s m _ below hf ((Spec.applies_iff_loose hf).mp happ).1 ⟨rfl, State.Warmed39.refl s, rfl⟩ trivial
  refine ⟨n, _, h1, h2, h3, hpost _ _ _ _ _ _ ⟨Cond.after_iff.mpr rfl, Cond.after_iff.mpr (eq_i res_at (Term.int_eval (1)) rfl), trivial⟩ ⟨hq.1, hq.2.1, (hq.2.2.sift fun y hy => Or.inr (N y hy)).mono (by decide) (by decide)⟩⟩
theorem main_1_1 : Claimed_1_1 := comes_1 fun _ _ _ _ _ _ h hF => ⟨h.1, hF⟩
theorem main_1_2 : Claimed_1_2 := comes_1 fun _ _ _ _ _ _ h hF => ⟨h.2.1, hF⟩
end Jvm.Pilot.@@N@@
namespace Jvm.Pilot.@@N@@
open Jvm Jvm.ClassFile Sem Op Lib Jvm.Free Jvm.Stand Jvm.Pilot.@@N@@.Jvm.D
/-! MADE BY PROGRAM (witnessworld.py) out of the Statement's table words and the real class files: 14 classes; the members and pool entries that the words name. The judged class is class 1, her method 1. -/
namespace start1
open Jvm.ClassFile
def u (s : String) : CpInfo := .utf8 (stringToUtf16 s)
/-- a pool by its gaps: so many unusable entries, then the entry; so many at the end -/
def gap : Nat → List CpInfo → List CpInfo
  | 0, r => r
  | n + 1, r => .unusable :: gap n r
def poolList (es : List (Nat × CpInfo)) (last : Nat) : List CpInfo := es.foldr (fun e r => gap e.1 (e.2 :: r)) (gap last [])
def pool (es : List (Nat × CpInfo)) (last : Nat) : Array CpInfo := ⟨poolList es last⟩
def fileOf (pool : Array CpInfo) (this : Nat) (attrs : Array Attribute := #[]) (ms : Array MethodInfo := #[]) (fl : Nat := 33) (sup : Nat := 0) (ifs : Array Nat := #[]) (fds : Array FieldInfo := #[]) : ClassFile where
  minorVersion := 0
  majorVersion := 65
  constantPool := pool
  accessFlags := fl
  thisClass := this
  superClass := sup
  interfaces := ifs
  fields := fds
  methods := ms
  attributes := attrs
def plain (name : String) (sup : Option ClassId) : Class where
  name := name
  kind := .ordinary
  loader := none
  accessFlags := 33
  super := sup
  interfaces := #[]
  cf := none
  fields := #[]
  methods := #[]
  instanceTypes := #[]
  staticTypes := #[]
  resolved := #[]
  callSites := []
  init := .initialized
  statics := none
  mirror := none

def pool0 : Array CpInfo := pool [(5, u "<init>"), (0, u "()V"), (1, .class_ 10), (1, u "java/lang/Object")] 113

def k0c0 : Code := { maxStack := 0, maxLocals := 1, code := object_method_1_code, exceptionTable := #[], attributes := #[] }
def k0m0 : Method := { name := "<init>", desc := "()V", sig := { parameters := [], returnType := none }, accessFlags := 1, code := some k0c0 }
/-- java/lang/Object -/
def k0 : Class := { plain "java/lang/Object" none with
  accessFlags := 33
  interfaces := #[]
  cf := some (fileOf pool0 8 #[] #[{ accessFlags := 1, nameIndex := 5, descriptorIndex := 6, attributes := #[] }] 33 0 #[] #[])
  fields := #[]
  methods := #[k0m0]
  instanceTypes := #[]
  staticTypes := #[]
  resolved := Array.replicate 124 none
  statics := none }

def pool1 : Array CpInfo := pool [(2, .class_ 4), (1, u "java/lang/Object"), (0, u "<init>"), (0, u "()V"), (0, .methodref 8 9), (0, .class_ 10), (0, .nameAndType 11 12), (0, u "com/example/tabulary/tabulary/date/CalendarDate"), (0, u "ofYear"), (0, u "(I)Lcom/example/tabulary/tabulary/date/CalendarDate;"), (0, .methodref 8 14), (0, .nameAndType 15 16), (0, u "year"), (0, u "()I"), (0, .methodref 8 18), (0, .nameAndType 19 16), (0, u "month"), (0, .methodref 8 21), (0, .nameAndType 22 16), (0, u "day"), (0, .methodref 8 24), (0, .nameAndType 25 26), (0, u "precision"), (0, u "()Lcom/example/tabulary/tabulary/date/CalendarDate$Precision;"), (0, .fieldref 28 29), (0, .class_ 30), (0, .nameAndType 31 32), (0, u "com/example/tabulary/tabulary/date/CalendarDate$Precision"), (0, u "YEAR"), (0, u "Lcom/example/tabulary/tabulary/date/CalendarDate$Precision;"), (0, .methodref 8 34), (0, .nameAndType 35 36), (0, u "isReal"), (0, u "()Z"), (0, .class_ 38), (0, u "com/example/tabulary/tabulary/date/CalendarDateOfYearPinLaw"), (2, u "law"), (0, u "(I)Z")] 5

def k1m0 : Method := { name := "<init>", desc := "()V", sig := { parameters := [], returnType := none }, accessFlags := 1, code := none }
def k1c1 : Code := { maxStack := 2, maxLocals := 2, code := code, exceptionTable := #[], attributes := #[] }
def k1m1 : Method := { name := "law", desc := "(I)Z", sig := { parameters := [.int], returnType := some .boolean }, accessFlags := 9, code := some k1c1 }
/-- com/example/tabulary/tabulary/date/CalendarDateOfYearPinLaw -/
def k1 : Class := { plain "com/example/tabulary/tabulary/date/CalendarDateOfYearPinLaw" (some 0) with
  accessFlags := 49
  interfaces := #[]
  cf := some (fileOf pool1 37 #[] #[{ accessFlags := 1, nameIndex := 5, descriptorIndex := 6, attributes := #[] }, { accessFlags := 9, nameIndex := 41, descriptorIndex := 42, attributes := #[] }] 49 2 #[] #[])
  fields := #[]
  methods := #[k1m0, k1m1]
  instanceTypes := #[]
  staticTypes := #[]
  resolved := Array.replicate 48 none
  statics := none }

def pool2 : Array CpInfo := pool [(1, .methodref 2 3), (0, .class_ 4), (0, .nameAndType 5 6), (0, u "java/lang/Object"), (0, u "<init>"), (0, u "()V"), (0, .class_ 8), (0, u "java/lang/Record")] 13

def k2c0 : Code := { maxStack := 1, maxLocals := 1, code := jdk_30_method_1_code, exceptionTable := #[], attributes := #[] }
def k2m0 : Method := { name := "<init>", desc := "()V", sig := { parameters := [], returnType := none }, accessFlags := 4, code := some k2c0 }
/-- java/lang/Record -/
def k2 : Class := { plain "java/lang/Record" (some 0) with
  accessFlags := 1057
  interfaces := #[]
  cf := some (fileOf pool2 7 #[] #[{ accessFlags := 4, nameIndex := 5, descriptorIndex := 6, attributes := #[] }] 1057 2 #[] #[])
  fields := #[]
  methods := #[k2m0]
  instanceTypes := #[]
  staticTypes := #[]
  resolved := Array.replicate 22 none
  statics := none }

def pool3 : Array CpInfo := pool [(1, .methodref 2 3), (0, .class_ 4), (0, .nameAndType 5 6), (0, u "java/lang/Record"), (0, u "<init>"), (0, u "()V"), (0, .fieldref 8 9), (0, .class_ 10), (0, .nameAndType 11 12), (0, u "com/example/tabulary/tabulary/date/CalendarDate"), (0, u "year"), (0, u "I"), (0, .fieldref 8 14), (0, .nameAndType 15 12), (0, u "month"), (0, .fieldref 8 17), (0, .nameAndType 18 12), (0, u "day"), (0, .fieldref 8 20), (0, .nameAndType 21 22), (0, u "precision"), (0, u "Lcom/example/tabulary/tabulary/date/CalendarDate$Precision;"), (0, .fieldref 24 25), (0, .class_ 26), (0, .nameAndType 27 22), (0, u "com/example/tabulary/tabulary/date/CalendarDate$Precision"), (0, u "YEAR"), (0, .methodref 8 29), (0, .nameAndType 5 30), (0, u "(IIILcom/example/tabulary/tabulary/date/CalendarDate$Precision;)V"), (12, u "()I"), (89, u "ofYear"), (0, u "(I)Lcom/example/tabulary/tabulary/date/CalendarDate;"), (0, u "isReal"), (0, u "()Z"), (3, u "()Lcom/example/tabulary/tabulary/date/CalendarDate$Precision;")] 33

def k3c0 : Code := { maxStack := 2, maxLocals := 5, code := prog_15_method_1_code, exceptionTable := #[], attributes := #[] }
def k3m0 : Method := { name := "<init>", desc := "(IIILcom/example/tabulary/tabulary/date/CalendarDate$Precision;)V", sig := { parameters := [.int, .int, .int, (.object "com/example/tabulary/tabulary/date/CalendarDate$Precision")], returnType := none }, accessFlags := 0, code := some k3c0 }
def k3c1 : Code := { maxStack := 6, maxLocals := 1, code := prog_15_method_2_code, exceptionTable := #[], attributes := #[] }
def k3m1 : Method := { name := "ofYear", desc := "(I)Lcom/example/tabulary/tabulary/date/CalendarDate;", sig := { parameters := [.int], returnType := some (.object "com/example/tabulary/tabulary/date/CalendarDate") }, accessFlags := 8, code := some k3c1 }
def k3c2 : Code := { maxStack := 3, maxLocals := 1, code := prog_15_method_3_code, exceptionTable := #[], attributes := #[] }
def k3m2 : Method := { name := "isReal", desc := "()Z", sig := { parameters := [], returnType := some .boolean }, accessFlags := 0, code := some k3c2 }
def k3c3 : Code := { maxStack := 1, maxLocals := 1, code := prog_15_method_10_code, exceptionTable := #[], attributes := #[] }
def k3m3 : Method := { name := "year", desc := "()I", sig := { parameters := [], returnType := some .int }, accessFlags := 1, code := some k3c3 }
def k3c4 : Code := { maxStack := 1, maxLocals := 1, code := prog_15_method_11_code, exceptionTable := #[], attributes := #[] }
def k3m4 : Method := { name := "month", desc := "()I", sig := { parameters := [], returnType := some .int }, accessFlags := 1, code := some k3c4 }
def k3c5 : Code := { maxStack := 1, maxLocals := 1, code := prog_15_method_12_code, exceptionTable := #[], attributes := #[] }
def k3m5 : Method := { name := "day", desc := "()I", sig := { parameters := [], returnType := some .int }, accessFlags := 1, code := some k3c5 }
def k3c6 : Code := { maxStack := 1, maxLocals := 1, code := prog_15_method_13_code, exceptionTable := #[], attributes := #[] }
def k3m6 : Method := { name := "precision", desc := "()Lcom/example/tabulary/tabulary/date/CalendarDate$Precision;", sig := { parameters := [], returnType := some (.object "com/example/tabulary/tabulary/date/CalendarDate$Precision") }, accessFlags := 1, code := some k3c6 }
/-- com/example/tabulary/tabulary/date/CalendarDate -/
def k3 : Class := { plain "com/example/tabulary/tabulary/date/CalendarDate" (some 2) with
  accessFlags := 48
  interfaces := #[]
  cf := some (fileOf pool3 8 #[.nestMembers #[24]] #[{ accessFlags := 0, nameIndex := 5, descriptorIndex := 30, attributes := #[] }, { accessFlags := 8, nameIndex := 133, descriptorIndex := 134, attributes := #[] }, { accessFlags := 0, nameIndex := 135, descriptorIndex := 136, attributes := #[] }, { accessFlags := 1, nameIndex := 11, descriptorIndex := 43, attributes := #[] }, { accessFlags := 1, nameIndex := 15, descriptorIndex := 43, attributes := #[] }, { accessFlags := 1, nameIndex := 18, descriptorIndex := 43, attributes := #[] }, { accessFlags := 1, nameIndex := 21, descriptorIndex := 140, attributes := #[] }] 48 2 #[] #[{ accessFlags := 18, nameIndex := 11, descriptorIndex := 12, attributes := #[] }, { accessFlags := 18, nameIndex := 15, descriptorIndex := 12, attributes := #[] }, { accessFlags := 18, nameIndex := 18, descriptorIndex := 12, attributes := #[] }, { accessFlags := 18, nameIndex := 21, descriptorIndex := 22, attributes := #[] }])
  fields := #[{ name := "year", type := .int, accessFlags := 18, slot := 0, constantValue := 0 }, { name := "month", type := .int, accessFlags := 18, slot := 1, constantValue := 0 }, { name := "day", type := .int, accessFlags := 18, slot := 2, constantValue := 0 }, { name := "precision", type := (.object "com/example/tabulary/tabulary/date/CalendarDate$Precision"), accessFlags := 18, slot := 3, constantValue := 0 }]
  methods := #[k3m0, k3m1, k3m2, k3m3, k3m4, k3m5, k3m6]
  instanceTypes := #[.int, .int, .int, (.object "com/example/tabulary/tabulary/date/CalendarDate$Precision")]
  staticTypes := #[]
  resolved := Array.replicate 174 none
  statics := none }

def pool4 : Array CpInfo := pool [(1, .class_ 2), (0, u "java/lang/constant/Constable"), (0, .class_ 4), (0, u "java/lang/Object")] 6

/-- java/lang/constant/Constable -/
def k4 : Class := { plain "java/lang/constant/Constable" (some 0) with
  accessFlags := 1537
  interfaces := #[]
  cf := some (fileOf pool4 1 #[] #[] 1537 3 #[] #[])
  fields := #[]
  methods := #[]
  instanceTypes := #[]
  staticTypes := #[]
  resolved := Array.replicate 11 none
  statics := none }

def pool5 : Array CpInfo := pool [(1, .class_ 2), (0, u "java/lang/Comparable"), (0, .class_ 4), (0, u "java/lang/Object")] 7

/-- java/lang/Comparable -/
def k5 : Class := { plain "java/lang/Comparable" (some 0) with
  accessFlags := 1537
  interfaces := #[]
  cf := some (fileOf pool5 1 #[] #[] 1537 3 #[] #[])
  fields := #[]
  methods := #[]
  instanceTypes := #[]
  staticTypes := #[]
  resolved := Array.replicate 12 none
  statics := none }

def pool6 : Array CpInfo := pool [(1, .class_ 2), (0, u "java/io/Serializable"), (0, .class_ 4), (0, u "java/lang/Object")] 2

/-- java/io/Serializable -/
def k6 : Class := { plain "java/io/Serializable" (some 0) with
  accessFlags := 1537
  interfaces := #[]
  cf := some (fileOf pool6 1 #[] #[] 1537 3 #[] #[])
  fields := #[]
  methods := #[]
  instanceTypes := #[]
  staticTypes := #[]
  resolved := Array.replicate 7 none
  statics := none }

def pool7 : Array CpInfo := pool [(2, .class_ 4), (1, u "java/lang/Enum"), (0, u "name"), (0, u "Ljava/lang/String;"), (2, u "ordinal"), (0, u "I"), (1, .class_ 14), (1, u "java/lang/Object"), (4, u "hash"), (86, .class_ 108), (1, u "java/lang/Enum$EnumDesc"), (2, .class_ 112), (0, u "java/lang/constant/Constable"), (0, .class_ 114), (0, u "java/lang/Comparable"), (0, .class_ 116), (0, u "java/io/Serializable")] 87

/-- java/lang/Enum -/
def k7 : Class := { plain "java/lang/Enum" (some 0) with
  accessFlags := 1057
  interfaces := #[4, 5, 6]
  cf := some (fileOf pool7 2 #[.nestMembers #[106]] #[] 1057 12 #[111, 113, 115] #[{ accessFlags := 18, nameIndex := 5, descriptorIndex := 6, attributes := #[] }, { accessFlags := 18, nameIndex := 9, descriptorIndex := 10, attributes := #[] }, { accessFlags := 2, nameIndex := 19, descriptorIndex := 10, attributes := #[] }])
  fields := #[{ name := "name", type := (.object "java/lang/String"), accessFlags := 18, slot := 0, constantValue := 0 }, { name := "ordinal", type := .int, accessFlags := 18, slot := 1, constantValue := 0 }, { name := "hash", type := .int, accessFlags := 2, slot := 2, constantValue := 0 }]
  methods := #[]
  instanceTypes := #[(.object "java/lang/String"), .int, .int]
  staticTypes := #[]
  resolved := Array.replicate 204 none
  statics := none }

def pool8 : Array CpInfo := pool [(1, .class_ 2), (0, u "com/example/tabulary/tabulary/date/CalendarDate$Precision"), (2, u "YEAR"), (0, u "Lcom/example/tabulary/tabulary/date/CalendarDate$Precision;"), (2, u "MONTH"), (2, u "DAY"), (2, u "$VALUES"), (0, u "[Lcom/example/tabulary/tabulary/date/CalendarDate$Precision;"), (6, .class_ 25), (1, u "java/lang/Enum"), (26, .class_ 53), (0, u "com/example/tabulary/tabulary/date/CalendarDate")] 2

/-- com/example/tabulary/tabulary/date/CalendarDate$Precision -/
def k8 : Class := { plain "com/example/tabulary/tabulary/date/CalendarDate$Precision" (some 7) with
  accessFlags := 16432
  interfaces := #[]
  cf := some (fileOf pool8 1 #[.nestHost 52] #[] 16432 23 #[] #[{ accessFlags := 16409, nameIndex := 5, descriptorIndex := 6, attributes := #[] }, { accessFlags := 16409, nameIndex := 9, descriptorIndex := 6, attributes := #[] }, { accessFlags := 16409, nameIndex := 12, descriptorIndex := 6, attributes := #[] }, { accessFlags := 4122, nameIndex := 15, descriptorIndex := 16, attributes := #[] }])
  fields := #[{ name := "YEAR", type := (.object "com/example/tabulary/tabulary/date/CalendarDate$Precision"), accessFlags := 16409, slot := 0, constantValue := 0 }, { name := "MONTH", type := (.object "com/example/tabulary/tabulary/date/CalendarDate$Precision"), accessFlags := 16409, slot := 1, constantValue := 0 }, { name := "DAY", type := (.object "com/example/tabulary/tabulary/date/CalendarDate$Precision"), accessFlags := 16409, slot := 2, constantValue := 0 }, { name := "$VALUES", type := (.array (.object "com/example/tabulary/tabulary/date/CalendarDate$Precision")), accessFlags := 4122, slot := 3, constantValue := 0 }]
  methods := #[]
  instanceTypes := #[(.object "java/lang/String"), .int, .int]
  staticTypes := #[(.object "com/example/tabulary/tabulary/date/CalendarDate$Precision"), (.object "com/example/tabulary/tabulary/date/CalendarDate$Precision"), (.object "com/example/tabulary/tabulary/date/CalendarDate$Precision"), (.array (.object "com/example/tabulary/tabulary/date/CalendarDate$Precision"))]
  resolved := Array.replicate 56 none
  statics := some 0 }

def pool9 : Array CpInfo := pool [(1, u "java/lang/Cloneable"), (0, .class_ 1), (0, u "java/lang/Object"), (0, .class_ 3)] 3

/-- java/lang/Cloneable -/
def k9 : Class := { plain "java/lang/Cloneable" (some 0) with
  accessFlags := 1537
  interfaces := #[]
  cf := some (fileOf pool9 2 #[] #[] 1537 4 #[] #[])
  fields := #[]
  methods := #[]
  instanceTypes := #[]
  staticTypes := #[]
  resolved := Array.replicate 8 none
  statics := none }

/-- the primitive byte -/
def k10 : Class := { plain "byte" none with kind := .primitive 'B', accessFlags := 0x411 }
/-- [B -/
def k11 : Class := { plain "[B" (some 0) with kind := .array 10 .byte, interfaces := #[9, 6], accessFlags := 1041 }

/-- the primitive int -/
def k12 : Class := { plain "int" none with kind := .primitive 'I', accessFlags := 0x411 }
/-- [I -/
def k13 : Class := { plain "[I" (some 0) with kind := .array 12 .int, interfaces := #[9, 6], accessFlags := 1041 }

def heap : Heap := #[{ cls := 8, slots := #[.ref 1, .null, .null, .null], vm := .statics 8 },
  { cls := 8, slots := #[.null, .int 0, .int 0], vm := .none }]
def classes : Array Class := #[k0, k1, k2, k3, k4, k5, k6, k7, k8, k9, k10, k11, k12, k13]
def interned : List (Array UInt16 × Addr) := []
def slotsUsed : Nat := 7
def theMethod : MethodId := ⟨1, 1⟩
def args0 : Array Value := #[.int 5]
def aboutOver (below : List Frame) : State where
  vm := { classes := classes, interned := interned.toArray }
  heap := heap
  slotsUsed := slotsUsed
  threads := #[{ frames := .invoking theMethod args0 :: below }]
def below0 : List Frame := [.native { method := ⟨0, 0⟩, args := #[] }]
def about1 : State := aboutOver below0
def p0 : Program := .bare "" "" ""
def e0 : Env := launch0.env 0 0 0
theorem w_frames : about1.frames = Frame.invoking theMethod args0 :: below0 := rfl
set_option maxRecDepth 65536 in
theorem w_args : argsFit about1.vm theMethod args0 = true := by decide +kernel
set_option maxRecDepth 65536 in
theorem w_heap : heapFits about1 = true := by decide +kernel
set_option maxRecDepth 65536 in
theorem w_runnable : about1.curStatus? = some .runnable := by decide +kernel
set_option maxRecDepth 65536 in
theorem w_alone : about1.alone = true := by decide +kernel
set_option maxRecDepth 65536 in
theorem w_named : about1.methodNamed? x = some theMethod := by decide +kernel
set_option maxRecDepth 65536 in
theorem w_hears : about1.hears theMethod below0 = true := by decide +kernel
set_option maxRecDepth 65536 in
theorem w_ripe : about1.ripe theMethod args0 below0 = true := by decide +kernel
theorem w_running : about1.status = .running := rfl
set_option maxRecDepth 65536 in
theorem w_room : about1.hasRoom e0.platform room_1 = true :=
  launch0.hasRoom_least _ room_1 (by decide +kernel) (by decide +kernel) (by decide +kernel) (by decide +kernel) (by decide +kernel) (by decide +kernel)
theorem allAtoms_all (ts : List Jvm.Cond) (a : Array Jvm.Value) (st : Jvm.State) : (allAtoms ts).before a st = ts.all (fun c => c.before a st) := by
  induction ts with
  | nil => rfl
  | cons c t ih =>
    show (Jvm.Cond.and c (allAtoms t)).before a st = _
    rw [Jvm.Cond.before_and, ih, List.all_cons]
def words1 : List Jvm.Cond := Jvm.Cond.code x code maxLocals ret :: tables_1
/-- a 'code' word, met by the world's own term for the bytes: nothing is compared byte by byte -/
theorem code_word {y : MethodName} {bytes : ByteArray} {mx : Nat} {rt : Option FieldType} {a : Array Value} {s : State} {m : MethodId} {meth : Method} {c : Code} (h1 : s.methodNamed? y = some m) (h2 : s.vm.method? m = some meth) (h3 : meth.code = some c) (h4 : c.code = bytes)
    (h5 : (c.maxLocals == mx && c.exceptionTable.isEmpty && decide (c.maxStack ≤ mostOperands) && decide (meth.sig.returnType = rt) && !meth.locks && decide (parseMethodDescriptor y.desc = some meth.sig)) = true) : (Jvm.Cond.code y bytes mx rt).before a s = true := by
  simp only [Bool.and_eq_true, beq_iff_eq, Bool.not_eq_true', decide_eq_true_eq] at h5
  obtain ⟨⟨⟨⟨⟨g1, g2⟩, g3⟩, g4⟩, g5⟩, g6⟩ := h5
  simp [Cond.before, Cond.holds, Cond.value, h1, h2, h3, h4, g1, g2, g3, g4, g5, g6]
def isCode : Jvm.Cond → Bool
  | .code _ _ _ _ => true
  | _ => false
theorem all_split {L : List Jvm.Cond} {P : Jvm.Cond → Bool} (h1 : L.all (fun c => isCode c || P c) = true) (h2 : ∀ c ∈ L.filter isCode, P c = true) : L.all P = true := by
  refine List.all_eq_true.mpr fun c hc => ?_
  have h := List.all_eq_true.mp h1 c hc
  rcases Bool.eq_false_or_eq_true (isCode c) with hi | hi
  · exact h2 c (List.mem_filter.mpr ⟨hc, hi⟩)
  · simpa [hi] using h
set_option maxRecDepth 65536 in
theorem w_c0 : (Jvm.Cond.code x code maxLocals ret).before args0 about1 = true := code_word (m := ⟨1, 1⟩) (meth := k1m1) (c := k1c1) (by decide +kernel) rfl rfl rfl (by decide +kernel)
set_option maxRecDepth 65536 in
theorem w_c1 : (Jvm.Cond.code ({ cls := "com/example/tabulary/tabulary/date/CalendarDate", name := "ofYear", desc := "(I)Lcom/example/tabulary/tabulary/date/CalendarDate;" } : Jvm.MethodName) prog_15_method_2_code (1 : Nat) (Option.some (Jvm.ClassFile.FieldType.object "com/example/tabulary/tabulary/date/CalendarDate"))).before args0 about1 = true := code_word (m := ⟨3, 1⟩) (meth := k3m1) (c := k3c1) (by decide +kernel) rfl rfl rfl (by decide +kernel)
set_option maxRecDepth 65536 in
theorem w_c2 : (Jvm.Cond.code ({ cls := "com/example/tabulary/tabulary/date/CalendarDate", name := "<init>", desc := "(IIILcom/example/tabulary/tabulary/date/CalendarDate$Precision;)V" } : Jvm.MethodName) prog_15_method_1_code (5 : Nat) (Option.none : Option Jvm.ClassFile.FieldType)).before args0 about1 = true := code_word (m := ⟨3, 0⟩) (meth := k3m0) (c := k3c0) (by decide +kernel) rfl rfl rfl (by decide +kernel)
set_option maxRecDepth 65536 in
theorem w_c3 : (Jvm.Cond.code ({ cls := "java/lang/Record", name := "<init>", desc := "()V" } : Jvm.MethodName) jdk_30_method_1_code (1 : Nat) (Option.none : Option Jvm.ClassFile.FieldType)).before args0 about1 = true := code_word (m := ⟨2, 0⟩) (meth := k2m0) (c := k2c0) (by decide +kernel) rfl rfl rfl (by decide +kernel)
set_option maxRecDepth 65536 in
theorem w_c4 : (Jvm.Cond.code ({ cls := "java/lang/Object", name := "<init>", desc := "()V" } : Jvm.MethodName) object_method_1_code (1 : Nat) (Option.none : Option Jvm.ClassFile.FieldType)).before args0 about1 = true := code_word (m := ⟨0, 0⟩) (meth := k0m0) (c := k0c0) (by decide +kernel) rfl rfl rfl (by decide +kernel)
set_option maxRecDepth 65536 in
theorem w_c5 : (Jvm.Cond.code ({ cls := "com/example/tabulary/tabulary/date/CalendarDate", name := "year", desc := "()I" } : Jvm.MethodName) prog_15_method_10_code (1 : Nat) (Option.some Jvm.ClassFile.FieldType.int)).before args0 about1 = true := code_word (m := ⟨3, 3⟩) (meth := k3m3) (c := k3c3) (by decide +kernel) rfl rfl rfl (by decide +kernel)
set_option maxRecDepth 65536 in
theorem w_c6 : (Jvm.Cond.code ({ cls := "com/example/tabulary/tabulary/date/CalendarDate", name := "month", desc := "()I" } : Jvm.MethodName) prog_15_method_11_code (1 : Nat) (Option.some Jvm.ClassFile.FieldType.int)).before args0 about1 = true := code_word (m := ⟨3, 4⟩) (meth := k3m4) (c := k3c4) (by decide +kernel) rfl rfl rfl (by decide +kernel)
set_option maxRecDepth 65536 in
theorem w_c7 : (Jvm.Cond.code ({ cls := "com/example/tabulary/tabulary/date/CalendarDate", name := "day", desc := "()I" } : Jvm.MethodName) prog_15_method_12_code (1 : Nat) (Option.some Jvm.ClassFile.FieldType.int)).before args0 about1 = true := code_word (m := ⟨3, 5⟩) (meth := k3m5) (c := k3c5) (by decide +kernel) rfl rfl rfl (by decide +kernel)
set_option maxRecDepth 65536 in
theorem w_c8 : (Jvm.Cond.code ({ cls := "com/example/tabulary/tabulary/date/CalendarDate", name := "precision", desc := "()Lcom/example/tabulary/tabulary/date/CalendarDate$Precision;" } : Jvm.MethodName) prog_15_method_13_code (1 : Nat) (Option.some (Jvm.ClassFile.FieldType.object "com/example/tabulary/tabulary/date/CalendarDate$Precision"))).before args0 about1 = true := code_word (m := ⟨3, 6⟩) (meth := k3m6) (c := k3c6) (by decide +kernel) rfl rfl rfl (by decide +kernel)
set_option maxRecDepth 65536 in
theorem w_c9 : (Jvm.Cond.code ({ cls := "com/example/tabulary/tabulary/date/CalendarDate", name := "isReal", desc := "()Z" } : Jvm.MethodName) prog_15_method_3_code (1 : Nat) (Option.some Jvm.ClassFile.FieldType.boolean)).before args0 about1 = true := code_word (m := ⟨3, 2⟩) (meth := k3m2) (c := k3c2) (by decide +kernel) rfl rfl rfl (by decide +kernel)
def codes1 : List Jvm.Cond := [Jvm.Cond.code x code maxLocals ret, Jvm.Cond.code ({ cls := "com/example/tabulary/tabulary/date/CalendarDate", name := "ofYear", desc := "(I)Lcom/example/tabulary/tabulary/date/CalendarDate;" } : Jvm.MethodName) prog_15_method_2_code (1 : Nat) (Option.some (Jvm.ClassFile.FieldType.object "com/example/tabulary/tabulary/date/CalendarDate")), Jvm.Cond.code ({ cls := "com/example/tabulary/tabulary/date/CalendarDate", name := "<init>", desc := "(IIILcom/example/tabulary/tabulary/date/CalendarDate$Precision;)V" } : Jvm.MethodName) prog_15_method_1_code (5 : Nat) (Option.none : Option Jvm.ClassFile.FieldType), Jvm.Cond.code ({ cls := "java/lang/Record", name := "<init>", desc := "()V" } : Jvm.MethodName) jdk_30_method_1_code (1 : Nat) (Option.none : Option Jvm.ClassFile.FieldType), Jvm.Cond.code ({ cls := "java/lang/Object", name := "<init>", desc := "()V" } : Jvm.MethodName) object_method_1_code (1 : Nat) (Option.none : Option Jvm.ClassFile.FieldType), Jvm.Cond.code ({ cls := "com/example/tabulary/tabulary/date/CalendarDate", name := "year", desc := "()I" } : Jvm.MethodName) prog_15_method_10_code (1 : Nat) (Option.some Jvm.ClassFile.FieldType.int), Jvm.Cond.code ({ cls := "com/example/tabulary/tabulary/date/CalendarDate", name := "month", desc := "()I" } : Jvm.MethodName) prog_15_method_11_code (1 : Nat) (Option.some Jvm.ClassFile.FieldType.int), Jvm.Cond.code ({ cls := "com/example/tabulary/tabulary/date/CalendarDate", name := "day", desc := "()I" } : Jvm.MethodName) prog_15_method_12_code (1 : Nat) (Option.some Jvm.ClassFile.FieldType.int), Jvm.Cond.code ({ cls := "com/example/tabulary/tabulary/date/CalendarDate", name := "precision", desc := "()Lcom/example/tabulary/tabulary/date/CalendarDate$Precision;" } : Jvm.MethodName) prog_15_method_13_code (1 : Nat) (Option.some (Jvm.ClassFile.FieldType.object "com/example/tabulary/tabulary/date/CalendarDate$Precision")), Jvm.Cond.code ({ cls := "com/example/tabulary/tabulary/date/CalendarDate", name := "isReal", desc := "()Z" } : Jvm.MethodName) prog_15_method_3_code (1 : Nat) (Option.some Jvm.ClassFile.FieldType.boolean)]
set_option maxRecDepth 65536 in
theorem codes_eq : words1.filter isCode = codes1 := rfl
theorem w_codes : ∀ c ∈ words1.filter isCode, c.before args0 about1 = true := by
  rw [codes_eq]
  intro c hc
  simp only [codes1, List.mem_cons, List.not_mem_nil, or_false] at hc
  rcases hc with rfl | rfl | rfl | rfl | rfl | rfl | rfl | rfl | rfl | rfl
  · exact w_c0
  · exact w_c1
  · exact w_c2
  · exact w_c3
  · exact w_c4
  · exact w_c5
  · exact w_c6
  · exact w_c7
  · exact w_c8
  · exact w_c9
set_option maxRecDepth 65536 in
theorem w_t1 : (words1.take 24).all (fun c => isCode c || c.before args0 about1) = true := by decide +kernel
set_option maxRecDepth 65536 in
theorem w_t2 : ((words1.drop 24).take 24).all (fun c => isCode c || c.before args0 about1) = true := by decide +kernel
set_option maxRecDepth 65536 in
theorem w_t3 : ((words1.drop 24).drop 24).all (fun c => isCode c || c.before args0 about1) = true := by decide +kernel
theorem w_tables : (allAtoms (Jvm.Cond.code x code maxLocals ret :: tables_1)).before args0 about1 = true := by
  rw [allAtoms_all]
  show words1.all (fun c => c.before args0 about1) = true
  refine all_split ?_ w_codes
  rw [← List.take_append_drop 24 words1, List.all_append, w_t1, ← List.take_append_drop 24 (words1.drop 24), List.all_append, w_t2, w_t3]
  rfl
set_option maxRecDepth 65536 in
theorem w_case : (Jvm.Cond.and given_1 narrow_1).before args0 about1 = true := by decide +kernel
theorem w_applies : (headSpec (Jvm.Cond.code x code maxLocals ret :: tables_1) room_1).applies x e0.platform about1 = true :=
  (Spec.applies_iff w_frames).mpr ⟨w_running, w_runnable, w_alone, w_named, w_hears, w_ripe, w_room, w_tables⟩
theorem atStart : AtStart classFile x code maxLocals ret World_1 tables_1 room_1 Calls_1 rest_1 Pre_1 launch0 p0 e0 about1 theMethod args0 below0 :=
  ⟨lists_1, trivial, launch0.admits_env _ _ _, launch0.least_env, fairChoices_fair.cas, fairChoices_fair.clock, w_frames, w_args, w_heap, w_applies, trivial, trivial, w_case⟩
end start1
theorem witness_1 : WitnessClaimed_1 := ⟨start1.p0, start1.e0, start1.about1, start1.theMethod, start1.args0, start1.below0, start1.atStart⟩
end Jvm.Pilot.@@N@@
