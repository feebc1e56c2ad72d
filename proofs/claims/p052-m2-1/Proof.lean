import JvmDerived
import JvmDerived.Pilot.@@N@@Statement
import JvmDerived.Pilot.@@N@@Code
set_option linter.unusedVariables false
set_option linter.unusedSimpArgs false
namespace Jvm.Pilot.@@N@@
open Jvm Jvm.ClassFile Sem Op Lib Jvm.Free Jvm.Stand Jvm.LawKit Jvm.RoadKit Bundle Jvm.Pilot.@@N@@.Jvm.D
theorem own_sta {s : State} {args : Array Value} {C n d K : String} (hx : (Jvm.Cond.exactly (Term.static C n d) K).value args s none s [] = some true) (wi : (Jvm.Cond.initialized C).before args s = true) (wl : (Jvm.Cond.laysStatic C n d).before args s = true) :
    ∃ w : Addr, (Term.static C n d).eval args s none [] s = some (.ref w) ∧ Sta s s.heap C n d (.ref w) ∧ Exa s s.heap w K := by
  obtain ⟨w, ew⟩ := exa_v hx
  exact ⟨w, ew, Sta.start ew (Or.inr ⟨wi, wl⟩), Exa.start ew hx⟩
theorem own_fld {s : State} {args : Array Value} {t : Term} {w : Addr} {C n d : String} {k : Int32} (ev : t.eval args s none [] s = some (.ref w)) (hx : (Jvm.Cond.eq (Term.field t C n d) (Term.int k)).value args s none s [] = some true) : Fld s s.heap w C n d (.int k) := by
  have e1 := fld_at (C := C) (n := n) (dd := d) ev
  refine Fld.start ?_
  cases hv : s.fieldOf? w C n d with
  | none => rw [hv] at e1; simp [Cond.value, e1] at hx
  | some v =>
    rw [hv] at e1
    have e2 : (Term.int k).eval args s none [] s = some (.int k) := Term.int_eval k
    cases v <;> simp [Cond.value, e1, e2] at hx ⊢
    exact hx
theorem own_fldR {s : State} {args : Array Value} {t u : Term} {w z : Addr} {C n d : String} (ev : t.eval args s none [] s = some (.ref w)) (eu : u.eval args s none [] s = some (.ref z)) (hx : (Jvm.Cond.eq (Term.field t C n d) u).value args s none s [] = some true) : Fld s s.heap w C n d (.ref z) := by
  have e1 := fld_at (C := C) (n := n) (dd := d) ev
  refine Fld.start ?_
  cases hv : s.fieldOf? w C n d with
  | none => rw [hv] at e1; simp [Cond.value, e1] at hx
  | some v =>
    rw [hv] at e1
    cases v <;> simp [Cond.value, e1, eu] at hx ⊢
    exact hx
theorem own_nsR {Z : State} {a0 : Array Value} {O K : String} {n : Nat} (w : (Jvm.Cond.noSuperclass O).before a0 Z = true) (wi : (Jvm.Cond.instantiable K n).before a0 Z = true) (hn : O ≠ K) : NS Z O K := by
  obtain ⟨c, k, h1, h2, h3, -⟩ := Cond.noSuperclass_spec w
  obtain ⟨t, kt, g1, -⟩ := Cond.instantiable_spec wi
  exact ⟨c, t, h1, g1, fun fuel => by cases fuel <;> simp [Vm.isSubclassAux, ids_ne h1 g1 hn, h2, h3]⟩
theorem own_nsN {Z : State} {a0 : Array Value} {C S K : String} {n : Nat} (w : (Jvm.Cond.superclass C S).before a0 Z = true) (wi : (Jvm.Cond.instantiable K n).before a0 Z = true) (nn : NS Z C K) (hn : C ≠ K) : ∃ c t, Z.vm.findClass C = some c ∧ Z.vm.findClass K = some t ∧ Z.vm.assignable c t = false := by
  obtain ⟨c, t, h0, g0, n3⟩ := nn
  obtain ⟨_, k, _, -, h2, -, -, h5, -⟩ := Cond.superclass_spec h0 w
  obtain ⟨t', kt, g1, g2, g3, g4, -⟩ := Cond.instantiable_spec wi
  cases g0.symm.trans g1
  have g5 : kt.isInterface = false := (Bool.or_eq_false_iff.mp g4).1
  exact ⟨c, t, h0, g0, by show Z.vm.assignableAux (255 + 1) c t = false; simp [Vm.assignableAux, ids_ne h0 g0 hn, h2, g2, h5, g3, g5, Vm.isSubclass, n3]⟩
theorem own_elem {s : State} {args : Array Value} {t u : Term} {a z : Addr} {cl : Cell} {j : Int32} (ev : t.eval args s none [] s = some (.ref a)) (eu : u.eval args s none [] s = some (.ref z)) (ha : s.arrayAt? a = some cl) (hn : ¬ j < 0) (hx : (Jvm.Cond.eq (Term.elem t (Term.int j)) u).value args s none s [] = some true) : cl.slots[j.toNatClampNeg]? = some (.ref z) := by
  have e1 := elem_f ev (Term.int_eval j) ha hn
  cases hv : cl.slots[j.toNatClampNeg]? with
  | none => rw [hv] at e1; simp [Cond.value, e1] at hx
  | some v =>
    rw [hv] at e1
    cases v <;> simp [Cond.value, e1, eu] at hx ⊢
    exact hx
theorem own_fldN {s : State} {args : Array Value} {t : Term} {w : Addr} {C n d : String} (ev : t.eval args s none [] s = some (.ref w)) (hx : (Jvm.Cond.eq (Term.field t C n d) Term.null).value args s none s [] = some true) : Fld s s.heap w C n d .null := by
  have e1 := fld_at (C := C) (n := n) (dd := d) ev
  have e2 := null_v hx
  rw [e1] at e2
  exact Fld.start e2
theorem refCat {v : Value} (h : v.isRef = true) : v.category = 1 := by rcases ref_cases h with rfl | ⟨a, rfl⟩ <;> rfl
theorem refNar {v : Value} {C : String} (h : v.isRef = true) : narrow (.object C) v = v := by rcases ref_cases h with rfl | ⟨a, rfl⟩ <;> rfl
theorem refFit {v : Value} {C : String} (h : v.isRef = true) : fits (.object C) v = true := by rcases ref_cases h with rfl | ⟨a, rfl⟩ <;> rfl
theorem d1_0 : decode prog_9_method_8_code 0 = .ok (.aload_n 0, 1) := by decide +kernel
theorem d1_1 : decode prog_9_method_8_code 1 = .ok (.getstatic 34, 3) := by decide +kernel
theorem d1_4 : decode prog_9_method_8_code 4 = .ok (.if_acmp .eq 10, 3) := by decide +kernel
theorem d1_14 : decode prog_9_method_8_code 14 = .ok (.iconst 1, 1) := by decide +kernel
theorem d1_15 : decode prog_9_method_8_code 15 = .ok (.goto 4, 3) := by decide +kernel
theorem d1_19 : decode prog_9_method_8_code 19 = .ok (.ireturn, 1) := by decide +kernel
theorem pn_com_example_transcript_search_transcriptsearch_fusion_FusionMethod : plainName "com/example/transcript_search/transcriptsearch/fusion/FusionMethod" = true := by first | (simp [plainName, overriddenIn]; done) | decide +kernel
theorem ef_cz10 (m : MethodId)  : entryFrame m #[(.ref w10)] 1 = mkF m 0 #[.val (.ref w10)] [] := by first | (simp [entryFrame, mkF, argsToLocals, Value.category]; done) | rfl
def Q_cz10 (Z : State) (w0 : Addr) (w1 : Addr) (w2 : Addr) (w3 : Addr) (w4 : Addr) (w5 : Addr) (w6 : Addr) (w7 : Addr) (w8 : Addr) (w9 : Addr) (w10 : Addr) (w11 : Addr) (w12 : Addr) (v0 : Addr) (v1 : Addr) (v2 : Addr)  (h0 : Heap) (n0 : Nat) (vv_ : Option Value) (hh_ : Heap) (LL_ : List Loc) : Prop := vv_ = some (.int (1 : Int32)) ∧ (Fr n0 LL_) ∧ (hh_ = h0)
set_option maxRecDepth 65536 in
set_option maxHeartbeats 40000000 in
theorem cz10 (l : Launch) (Z : State) (a0 : Array Value) (hw : ∀ d ∈ tables_1, d.before a0 Z = true) (ws : List Jvm.Cond) (w0 : Addr) (w1 : Addr) (w2 : Addr) (w3 : Addr) (w4 : Addr) (w5 : Addr) (w6 : Addr) (w7 : Addr) (w8 : Addr) (w9 : Addr) (w10 : Addr) (w11 : Addr) (w12 : Addr) (v0 : Addr) (v1 : Addr) (v2 : Addr)  (h0 : Heap) (n0 : Nat) (O0 : Old Z n0 h0) (S_w0 : Sta Z Z.heap "com/example/transcript_search/transcriptsearch/fusion/FusionMethod" "COMBSUM" "Lcom/example/transcript_search/transcriptsearch/fusion/FusionMethod;" (.ref w0)) (S_w1 : Sta Z Z.heap "com/example/transcript_search/transcriptsearch/fusion/FusionMethod" "COMBMNZ" "Lcom/example/transcript_search/transcriptsearch/fusion/FusionMethod;" (.ref w1)) (S_w2 : Sta Z Z.heap "com/example/transcript_search/transcriptsearch/fusion/FusionMethod" "COMBANZ" "Lcom/example/transcript_search/transcriptsearch/fusion/FusionMethod;" (.ref w2)) (S_w3 : Sta Z Z.heap "com/example/transcript_search/transcriptsearch/fusion/FusionMethod" "COMBMAX" "Lcom/example/transcript_search/transcriptsearch/fusion/FusionMethod;" (.ref w3)) (S_w4 : Sta Z Z.heap "com/example/transcript_search/transcriptsearch/fusion/FusionMethod" "COMBMIN" "Lcom/example/transcript_search/transcriptsearch/fusion/FusionMethod;" (.ref w4)) (S_w5 : Sta Z Z.heap "com/example/transcript_search/transcriptsearch/fusion/FusionMethod" "COMBMED" "Lcom/example/transcript_search/transcriptsearch/fusion/FusionMethod;" (.ref w5)) (S_w6 : Sta Z Z.heap "com/example/transcript_search/transcriptsearch/fusion/FusionMethod" "COMBTOTPROB" "Lcom/example/transcript_search/transcriptsearch/fusion/FusionMethod;" (.ref w6)) (S_w7 : Sta Z Z.heap "com/example/transcript_search/transcriptsearch/fusion/FusionMethod" "COMBMULTPROB" "Lcom/example/transcript_search/transcriptsearch/fusion/FusionMethod;" (.ref w7)) (S_w8 : Sta Z Z.heap "com/example/transcript_search/transcriptsearch/fusion/FusionMethod" "WCOMBSUM" "Lcom/example/transcript_search/transcriptsearch/fusion/FusionMethod;" (.ref w8)) (S_w9 : Sta Z Z.heap "com/example/transcript_search/transcriptsearch/fusion/FusionMethod" "WCOMBMNZ" "Lcom/example/transcript_search/transcriptsearch/fusion/FusionMethod;" (.ref w9)) (S_w10 : Sta Z Z.heap "com/example/transcript_search/transcriptsearch/fusion/FusionMethod" "FUSION1" "Lcom/example/transcript_search/transcriptsearch/fusion/FusionMethod;" (.ref w10)) (S_w11 : Sta Z Z.heap "com/example/transcript_search/transcriptsearch/fusion/FusionMethod" "FUSION2" "Lcom/example/transcript_search/transcriptsearch/fusion/FusionMethod;" (.ref w11)) (S_w12 : Sta Z Z.heap "com/example/transcript_search/transcriptsearch/fusion/FusionMethod" "LINCOMB" "Lcom/example/transcript_search/transcriptsearch/fusion/FusionMethod;" (.ref w12)) (S_v1 : Sta Z Z.heap "com/example/transcript_search/transcriptsearch/fusion/Normalisation" "MAX" "Lcom/example/transcript_search/transcriptsearch/fusion/Normalisation;" (.ref v1)) (E_w0 : Exa Z Z.heap w0 "com/example/transcript_search/transcriptsearch/fusion/FusionMethod") (E_w1 : Exa Z Z.heap w1 "com/example/transcript_search/transcriptsearch/fusion/FusionMethod") (E_w2 : Exa Z Z.heap w2 "com/example/transcript_search/transcriptsearch/fusion/FusionMethod") (E_w3 : Exa Z Z.heap w3 "com/example/transcript_search/transcriptsearch/fusion/FusionMethod") (E_w4 : Exa Z Z.heap w4 "com/example/transcript_search/transcriptsearch/fusion/FusionMethod") (E_w5 : Exa Z Z.heap w5 "com/example/transcript_search/transcriptsearch/fusion/FusionMethod") (E_w6 : Exa Z Z.heap w6 "com/example/transcript_search/transcriptsearch/fusion/FusionMethod") (E_w7 : Exa Z Z.heap w7 "com/example/transcript_search/transcriptsearch/fusion/FusionMethod") (E_w8 : Exa Z Z.heap w8 "com/example/transcript_search/transcriptsearch/fusion/FusionMethod") (E_w9 : Exa Z Z.heap w9 "com/example/transcript_search/transcriptsearch/fusion/FusionMethod") (E_w10 : Exa Z Z.heap w10 "com/example/transcript_search/transcriptsearch/fusion/FusionMethod") (E_w11 : Exa Z Z.heap w11 "com/example/transcript_search/transcriptsearch/fusion/FusionMethod") (E_w12 : Exa Z Z.heap w12 "com/example/transcript_search/transcriptsearch/fusion/FusionMethod") (M_w0 : Fld Z Z.heap w0 "com/example/transcript_search/transcriptsearch/fusion/FusionMethod" "normalisation" "Lcom/example/transcript_search/transcriptsearch/fusion/Normalisation;" (.ref v0)) (M_w1 : Fld Z Z.heap w1 "com/example/transcript_search/transcriptsearch/fusion/FusionMethod" "normalisation" "Lcom/example/transcript_search/transcriptsearch/fusion/Normalisation;" (.ref v0)) (M_w2 : Fld Z Z.heap w2 "com/example/transcript_search/transcriptsearch/fusion/FusionMethod" "normalisation" "Lcom/example/transcript_search/transcriptsearch/fusion/Normalisation;" (.ref v0)) (M_w3 : Fld Z Z.heap w3 "com/example/transcript_search/transcriptsearch/fusion/FusionMethod" "normalisation" "Lcom/example/transcript_search/transcriptsearch/fusion/Normalisation;" (.ref v0)) (M_w4 : Fld Z Z.heap w4 "com/example/transcript_search/transcriptsearch/fusion/FusionMethod" "normalisation" "Lcom/example/transcript_search/transcriptsearch/fusion/Normalisation;" (.ref v0)) (M_w5 : Fld Z Z.heap w5 "com/example/transcript_search/transcriptsearch/fusion/FusionMethod" "normalisation" "Lcom/example/transcript_search/transcriptsearch/fusion/Normalisation;" (.ref v0)) (M_w6 : Fld Z Z.heap w6 "com/example/transcript_search/transcriptsearch/fusion/FusionMethod" "normalisation" "Lcom/example/transcript_search/transcriptsearch/fusion/Normalisation;" (.ref v0)) (M_w7 : Fld Z Z.heap w7 "com/example/transcript_search/transcriptsearch/fusion/FusionMethod" "normalisation" "Lcom/example/transcript_search/transcriptsearch/fusion/Normalisation;" (.ref v0)) (M_w8 : Fld Z Z.heap w8 "com/example/transcript_search/transcriptsearch/fusion/FusionMethod" "normalisation" "Lcom/example/transcript_search/transcriptsearch/fusion/Normalisation;" (.ref v2)) (M_w9 : Fld Z Z.heap w9 "com/example/transcript_search/transcriptsearch/fusion/FusionMethod" "normalisation" "Lcom/example/transcript_search/transcriptsearch/fusion/Normalisation;" (.ref v2)) (M_w10 : Fld Z Z.heap w10 "com/example/transcript_search/transcriptsearch/fusion/FusionMethod" "normalisation" "Lcom/example/transcript_search/transcriptsearch/fusion/Normalisation;" (.ref v1)) (M_w11 : Fld Z Z.heap w11 "com/example/transcript_search/transcriptsearch/fusion/FusionMethod" "normalisation" "Lcom/example/transcript_search/transcriptsearch/fusion/Normalisation;" (.ref v1)) (M_w12 : Fld Z Z.heap w12 "com/example/transcript_search/transcriptsearch/fusion/FusionMethod" "normalisation" "Lcom/example/transcript_search/transcriptsearch/fusion/Normalisation;" (.ref v2)) (ne_w0_w10 : w0 ≠ w10) (ne_w1_w10 : w1 ≠ w10) (ne_w2_w10 : w2 ≠ w10) (ne_w3_w10 : w3 ≠ w10) (ne_w4_w10 : w4 ≠ w10) (ne_w5_w10 : w5 ≠ w10) (ne_w6_w10 : w6 ≠ w10) (ne_w7_w10 : w7 ≠ w10) (ne_w8_w10 : w8 ≠ w10) (ne_w9_w10 : w9 ≠ w10) (ne_w11_w10 : w11 ≠ w10) (ne_w12_w10 : w12 ≠ w10) (ne_w0_w11 : w0 ≠ w11) (ne_w1_w11 : w1 ≠ w11) (ne_w2_w11 : w2 ≠ w11) (ne_w3_w11 : w3 ≠ w11) (ne_w4_w11 : w4 ≠ w11) (ne_w5_w11 : w5 ≠ w11) (ne_w6_w11 : w6 ≠ w11) (ne_w7_w11 : w7 ≠ w11) (ne_w8_w11 : w8 ≠ w11) (ne_w9_w11 : w9 ≠ w11) (ne_w12_w11 : w12 ≠ w11) (ne_v0_v1 : v0 ≠ v1) (ne_v2_v1 : v2 ≠ v1) :
    MetFree l (⟨"com/example/transcript_search/transcriptsearch/fusion/FusionMethod", "countsUnscalableRunsAsZero", "()Z"⟩ : MethodName) (head1 (Jvm.Cond.code (⟨"com/example/transcript_search/transcriptsearch/fusion/FusionMethod", "countsUnscalableRunsAsZero", "()Z"⟩ : MethodName) prog_9_method_8_code 1 (some .boolean) :: ws) ({ frames := 0, cells := 0, slots := 0, locals := 0 } : Room)) (fun aa_ U_ => aa_ = #[(.ref w10)] ∧ Z.Warmed39 U_.vm ∧ U_.heap = h0) (fun _ _ _ _ _ => True) (fun _ U_ oo_ V_ => ∃ vv_ LL_, oo_ = .returned vv_ ∧ Q_cz10 Z w0 w1 w2 w3 w4 w5 w6 w7 w8 w9 w10 w11 w12 v0 v1 v2  h0 n0 vv_ V_.heap LL_ ∧ FrameEnd U_ oo_ V_ LL_ ({ frames := 0, cells := 0, slots := 0, locals := 0 } : Room).cells ({ frames := 0, cells := 0, slots := 0, locals := 0 } : Room).slots) := by
  refine MetFree.of_bodySF (plainFor_of_name pn_com_example_transcript_search_transcriptsearch_fusion_FusionMethod) hisR ?_
  intro p e s m args below meth c s₁ Bd hml0 hP hK
  obtain ⟨rfl, hZ, hh⟩ := hP
  have hx := Bd.exec
  have hby := Bd.bytes
  have hml : c.maxLocals = 1 := hml0
  have hown : s.vm.findClass "com/example/transcript_search/transcriptsearch/fusion/FusionMethod" = some m.cls := findClass_of_methodNamed Bd.named
  have hnm := (name_of_methodNamed Bd.named Bd.method).1
  have X0 : Stand p l e ({ frames := 0, cells := 0, slots := 0, locals := 0 } : Room) s m #[(.ref w10)] below meth c s₁ [] 0 0 := Stand.of_body Bd
  have e0 : s₁.heap = h0 := by rw [← hh, Bd.state]; rfl
  have N0 := Fr.nil n0
  have Z0 : n0 ≤ h0.size := O0.1 ▸ O0.2.1
  have hk0 := Nat.zero_le h0.size
  have K0 : Keep h0 h0 [] := Keep.refl _ _
  have R0 : ∀ t, Steps p.tables e below (s₁.setTop (mkF m 0 #[.val (.ref w10)] [])) t → Steps p.tables e below (s₁.setTop (entryFrame m #[(.ref w10)] 1)) t := fun t k => castTop (ef_cz10 m ) k
  obtain ⟨T1, X1, e1, st1⟩ := getS2 X0 hx hZ hown (host := "") (Or.inl (hw _ (List.mem_of_getElem? (i := 37) rfl))) Via.refl e0 (S_w10.ext O0.2) (g := (mkF m 1 #[.val (.ref w10)] [(.ref w10)])) rfl (hb hby d1_1)
  have R2 : ∀ t, Steps p.tables e below (T1.setTop (mkF m 19 #[.val (.ref w10)] [(.int (1 : Int32))])) t → Steps p.tables e below (s₁.setTop (entryFrame m #[(.ref w10)] 1)) t := by
    intro t k
    refine R0 t ?_
    show Steps p.tables e below (s₁.setTop (mkF m 0 #[.val (.ref w10)] [])) t
    refine XS.aloadN X0.here hx rfl (hb hby d1_0) rfl rfl ?_
    show Steps p.tables e below (s₁.setTop (mkF m 1 #[.val (.ref w10)] [(.ref w10)])) t
    refine st1 _ ?_
    show Steps p.tables e below (T1.setTop (mkF m 4 #[.val (.ref w10)] [(.ref w10), (.ref w10)])) t
    refine Jvm.RoadKit.acmp (g := (mkF m 4 #[.val (.ref w10)] [(.ref w10), (.ref w10)])) X1 hx rfl rfl rfl (pc0 := 4) (pc' := 14) (same := true) rfl (hb hby d1_4) rfl (decide_eq_true (congrArg Value.ref rfl)) (by decide) (by decide) ?_
    show Steps p.tables e below (T1.setTop (mkF m 14 #[.val (.ref w10)] [])) t
    refine XS.iconst X1.here hx rfl (hb hby d1_14) ?_
    show Steps p.tables e below (T1.setTop (mkF m 15 #[.val (.ref w10)] [(.int (1 : Int32))])) t
    refine XS.goto X1.here hx rfl (pc0 := 15) (pc' := 19) rfl (hb hby d1_15) (by decide) (by decide) ?_
    exact k
  obtain ⟨fs, hr, hrun, hended, hW, hsame⟩ := X1.leave (v := some (.int (1 : Int32))) (fun h => by rw [Bd.returns] at h; cases h)
  refine ⟨_, _, R2 _ ?_, hrun, hended, _, _, rfl, ?_, ⟨_, rfl⟩, hW, hsame.mono (by decide) (by decide)⟩
  · show Steps p.tables e below (T1.setTop (mkF m 19 #[.val (.ref w10)] [(.int (1 : Int32))])) _
    exact retN X1 hx (t := .boolean) Bd.returns (by simp) (hb hby d1_19) hr
  · show Q_cz10 Z w0 w1 w2 w3 w4 w5 w6 w7 w8 w9 w10 w11 w12 v0 v1 v2  h0 n0 _ T1.heap _
    rw [e1]
    exact ⟨rfl, N0, rfl⟩
theorem d1_7 : decode prog_9_method_8_code 7 = .ok (.aload_n 0, 1) := by decide +kernel
theorem d1_8 : decode prog_9_method_8_code 8 = .ok (.getstatic 37, 3) := by decide +kernel
theorem d1_11 : decode prog_9_method_8_code 11 = .ok (.if_acmp .ne 7, 3) := by decide +kernel
theorem ef_cz11 (m : MethodId)  : entryFrame m #[(.ref w11)] 1 = mkF m 0 #[.val (.ref w11)] [] := by first | (simp [entryFrame, mkF, argsToLocals, Value.category]; done) | rfl
def Q_cz11 (Z : State) (w0 : Addr) (w1 : Addr) (w2 : Addr) (w3 : Addr) (w4 : Addr) (w5 : Addr) (w6 : Addr) (w7 : Addr) (w8 : Addr) (w9 : Addr) (w10 : Addr) (w11 : Addr) (w12 : Addr) (v0 : Addr) (v1 : Addr) (v2 : Addr)  (h0 : Heap) (n0 : Nat) (vv_ : Option Value) (hh_ : Heap) (LL_ : List Loc) : Prop := vv_ = some (.int (1 : Int32)) ∧ (Fr n0 LL_) ∧ (hh_ = h0)
set_option maxRecDepth 65536 in
set_option maxHeartbeats 40000000 in
theorem cz11 (l : Launch) (Z : State) (a0 : Array Value) (hw : ∀ d ∈ tables_1, d.before a0 Z = true) (ws : List Jvm.Cond) (w0 : Addr) (w1 : Addr) (w2 : Addr) (w3 : Addr) (w4 : Addr) (w5 : Addr) (w6 : Addr) (w7 : Addr) (w8 : Addr) (w9 : Addr) (w10 : Addr) (w11 : Addr) (w12 : Addr) (v0 : Addr) (v1 : Addr) (v2 : Addr)  (h0 : Heap) (n0 : Nat) (O0 : Old Z n0 h0) (S_w0 : Sta Z Z.heap "com/example/transcript_search/transcriptsearch/fusion/FusionMethod" "COMBSUM" "Lcom/example/transcript_search/transcriptsearch/fusion/FusionMethod;" (.ref w0)) (S_w1 : Sta Z Z.heap "com/example/transcript_search/transcriptsearch/fusion/FusionMethod" "COMBMNZ" "Lcom/example/transcript_search/transcriptsearch/fusion/FusionMethod;" (.ref w1)) (S_w2 : Sta Z Z.heap "com/example/transcript_search/transcriptsearch/fusion/FusionMethod" "COMBANZ" "Lcom/example/transcript_search/transcriptsearch/fusion/FusionMethod;" (.ref w2)) (S_w3 : Sta Z Z.heap "com/example/transcript_search/transcriptsearch/fusion/FusionMethod" "COMBMAX" "Lcom/example/transcript_search/transcriptsearch/fusion/FusionMethod;" (.ref w3)) (S_w4 : Sta Z Z.heap "com/example/transcript_search/transcriptsearch/fusion/FusionMethod" "COMBMIN" "Lcom/example/transcript_search/transcriptsearch/fusion/FusionMethod;" (.ref w4)) (S_w5 : Sta Z Z.heap "com/example/transcript_search/transcriptsearch/fusion/FusionMethod" "COMBMED" "Lcom/example/transcript_search/transcriptsearch/fusion/FusionMethod;" (.ref w5)) (S_w6 : Sta Z Z.heap "com/example/transcript_search/transcriptsearch/fusion/FusionMethod" "COMBTOTPROB" "Lcom/example/transcript_search/transcriptsearch/fusion/FusionMethod;" (.ref w6)) (S_w7 : Sta Z Z.heap "com/example/transcript_search/transcriptsearch/fusion/FusionMethod" "COMBMULTPROB" "Lcom/example/transcript_search/transcriptsearch/fusion/FusionMethod;" (.ref w7)) (S_w8 : Sta Z Z.heap "com/example/transcript_search/transcriptsearch/fusion/FusionMethod" "WCOMBSUM" "Lcom/example/transcript_search/transcriptsearch/fusion/FusionMethod;" (.ref w8)) (S_w9 : Sta Z Z.heap "com/example/transcript_search/transcriptsearch/fusion/FusionMethod" "WCOMBMNZ" "Lcom/example/transcript_search/transcriptsearch/fusion/FusionMethod;" (.ref w9)) (S_w10 : Sta Z Z.heap "com/example/transcript_search/transcriptsearch/fusion/FusionMethod" "FUSION1" "Lcom/example/transcript_search/transcriptsearch/fusion/FusionMethod;" (.ref w10)) (S_w11 : Sta Z Z.heap "com/example/transcript_search/transcriptsearch/fusion/FusionMethod" "FUSION2" "Lcom/example/transcript_search/transcriptsearch/fusion/FusionMethod;" (.ref w11)) (S_w12 : Sta Z Z.heap "com/example/transcript_search/transcriptsearch/fusion/FusionMethod" "LINCOMB" "Lcom/example/transcript_search/transcriptsearch/fusion/FusionMethod;" (.ref w12)) (S_v1 : Sta Z Z.heap "com/example/transcript_search/transcriptsearch/fusion/Normalisation" "MAX" "Lcom/example/transcript_search/transcriptsearch/fusion/Normalisation;" (.ref v1)) (E_w0 : Exa Z Z.heap w0 "com/example/transcript_search/transcriptsearch/fusion/FusionMethod") (E_w1 : Exa Z Z.heap w1 "com/example/transcript_search/transcriptsearch/fusion/FusionMethod") (E_w2 : Exa Z Z.heap w2 "com/example/transcript_search/transcriptsearch/fusion/FusionMethod") (E_w3 : Exa Z Z.heap w3 "com/example/transcript_search/transcriptsearch/fusion/FusionMethod") (E_w4 : Exa Z Z.heap w4 "com/example/transcript_search/transcriptsearch/fusion/FusionMethod") (E_w5 : Exa Z Z.heap w5 "com/example/transcript_search/transcriptsearch/fusion/FusionMethod") (E_w6 : Exa Z Z.heap w6 "com/example/transcript_search/transcriptsearch/fusion/FusionMethod") (E_w7 : Exa Z Z.heap w7 "com/example/transcript_search/transcriptsearch/fusion/FusionMethod") (E_w8 : Exa Z Z.heap w8 "com/example/transcript_search/transcriptsearch/fusion/FusionMethod") (E_w9 : Exa Z Z.heap w9 "com/example/transcript_search/transcriptsearch/fusion/FusionMethod") (E_w10 : Exa Z Z.heap w10 "com/example/transcript_search/transcriptsearch/fusion/FusionMethod") (E_w11 : Exa Z Z.heap w11 "com/example/transcript_search/transcriptsearch/fusion/FusionMethod") (E_w12 : Exa Z Z.heap w12 "com/example/transcript_search/transcriptsearch/fusion/FusionMethod") (M_w0 : Fld Z Z.heap w0 "com/example/transcript_search/transcriptsearch/fusion/FusionMethod" "normalisation" "Lcom/example/transcript_search/transcriptsearch/fusion/Normalisation;" (.ref v0)) (M_w1 : Fld Z Z.heap w1 "com/example/transcript_search/transcriptsearch/fusion/FusionMethod" "normalisation" "Lcom/example/transcript_search/transcriptsearch/fusion/Normalisation;" (.ref v0)) (M_w2 : Fld Z Z.heap w2 "com/example/transcript_search/transcriptsearch/fusion/FusionMethod" "normalisation" "Lcom/example/transcript_search/transcriptsearch/fusion/Normalisation;" (.ref v0)) (M_w3 : Fld Z Z.heap w3 "com/example/transcript_search/transcriptsearch/fusion/FusionMethod" "normalisation" "Lcom/example/transcript_search/transcriptsearch/fusion/Normalisation;" (.ref v0)) (M_w4 : Fld Z Z.heap w4 "com/example/transcript_search/transcriptsearch/fusion/FusionMethod" "normalisation" "Lcom/example/transcript_search/transcriptsearch/fusion/Normalisation;" (.ref v0)) (M_w5 : Fld Z Z.heap w5 "com/example/transcript_search/transcriptsearch/fusion/FusionMethod" "normalisation" "Lcom/example/transcript_search/transcriptsearch/fusion/Normalisation;" (.ref v0)) (M_w6 : Fld Z Z.heap w6 "com/example/transcript_search/transcriptsearch/fusion/FusionMethod" "normalisation" "Lcom/example/transcript_search/transcriptsearch/fusion/Normalisation;" (.ref v0)) (M_w7 : Fld Z Z.heap w7 "com/example/transcript_search/transcriptsearch/fusion/FusionMethod" "normalisation" "Lcom/example/transcript_search/transcriptsearch/fusion/Normalisation;" (.ref v0)) (M_w8 : Fld Z Z.heap w8 "com/example/transcript_search/transcriptsearch/fusion/FusionMethod" "normalisation" "Lcom/example/transcript_search/transcriptsearch/fusion/Normalisation;" (.ref v2)) (M_w9 : Fld Z Z.heap w9 "com/example/transcript_search/transcriptsearch/fusion/FusionMethod" "normalisation" "Lcom/example/transcript_search/transcriptsearch/fusion/Normalisation;" (.ref v2)) (M_w10 : Fld Z Z.heap w10 "com/example/transcript_search/transcriptsearch/fusion/FusionMethod" "normalisation" "Lcom/example/transcript_search/transcriptsearch/fusion/Normalisation;" (.ref v1)) (M_w11 : Fld Z Z.heap w11 "com/example/transcript_search/transcriptsearch/fusion/FusionMethod" "normalisation" "Lcom/example/transcript_search/transcriptsearch/fusion/Normalisation;" (.ref v1)) (M_w12 : Fld Z Z.heap w12 "com/example/transcript_search/transcriptsearch/fusion/FusionMethod" "normalisation" "Lcom/example/transcript_search/transcriptsearch/fusion/Normalisation;" (.ref v2)) (ne_w0_w10 : w0 ≠ w10) (ne_w1_w10 : w1 ≠ w10) (ne_w2_w10 : w2 ≠ w10) (ne_w3_w10 : w3 ≠ w10) (ne_w4_w10 : w4 ≠ w10) (ne_w5_w10 : w5 ≠ w10) (ne_w6_w10 : w6 ≠ w10) (ne_w7_w10 : w7 ≠ w10) (ne_w8_w10 : w8 ≠ w10) (ne_w9_w10 : w9 ≠ w10) (ne_w11_w10 : w11 ≠ w10) (ne_w12_w10 : w12 ≠ w10) (ne_w0_w11 : w0 ≠ w11) (ne_w1_w11 : w1 ≠ w11) (ne_w2_w11 : w2 ≠ w11) (ne_w3_w11 : w3 ≠ w11) (ne_w4_w11 : w4 ≠ w11) (ne_w5_w11 : w5 ≠ w11) (ne_w6_w11 : w6 ≠ w11) (ne_w7_w11 : w7 ≠ w11) (ne_w8_w11 : w8 ≠ w11) (ne_w9_w11 : w9 ≠ w11) (ne_w12_w11 : w12 ≠ w11) (ne_v0_v1 : v0 ≠ v1) (ne_v2_v1 : v2 ≠ v1) :
    MetFree l (⟨"com/example/transcript_search/transcriptsearch/fusion/FusionMethod", "countsUnscalableRunsAsZero", "()Z"⟩ : MethodName) (head1 (Jvm.Cond.code (⟨"com/example/transcript_search/transcriptsearch/fusion/FusionMethod", "countsUnscalableRunsAsZero", "()Z"⟩ : MethodName) prog_9_method_8_code 1 (some .boolean) :: ws) ({ frames := 0, cells := 0, slots := 0, locals := 0 } : Room)) (fun aa_ U_ => aa_ = #[(.ref w11)] ∧ Z.Warmed39 U_.vm ∧ U_.heap = h0) (fun _ _ _ _ _ => True) (fun _ U_ oo_ V_ => ∃ vv_ LL_, oo_ = .returned vv_ ∧ Q_cz11 Z w0 w1 w2 w3 w4 w5 w6 w7 w8 w9 w10 w11 w12 v0 v1 v2  h0 n0 vv_ V_.heap LL_ ∧ FrameEnd U_ oo_ V_ LL_ ({ frames := 0, cells := 0, slots := 0, locals := 0 } : Room).cells ({ frames := 0, cells := 0, slots := 0, locals := 0 } : Room).slots) := by
  refine MetFree.of_bodySF (plainFor_of_name pn_com_example_transcript_search_transcriptsearch_fusion_FusionMethod) hisR ?_
  intro p e s m args below meth c s₁ Bd hml0 hP hK
  obtain ⟨rfl, hZ, hh⟩ := hP
  have hx := Bd.exec
  have hby := Bd.bytes
  have hml : c.maxLocals = 1 := hml0
  have hown : s.vm.findClass "com/example/transcript_search/transcriptsearch/fusion/FusionMethod" = some m.cls := findClass_of_methodNamed Bd.named
  have hnm := (name_of_methodNamed Bd.named Bd.method).1
  have X0 : Stand p l e ({ frames := 0, cells := 0, slots := 0, locals := 0 } : Room) s m #[(.ref w11)] below meth c s₁ [] 0 0 := Stand.of_body Bd
  have e0 : s₁.heap = h0 := by rw [← hh, Bd.state]; rfl
  have N0 := Fr.nil n0
  have Z0 : n0 ≤ h0.size := O0.1 ▸ O0.2.1
  have hk0 := Nat.zero_le h0.size
  have K0 : Keep h0 h0 [] := Keep.refl _ _
  have R0 : ∀ t, Steps p.tables e below (s₁.setTop (mkF m 0 #[.val (.ref w11)] [])) t → Steps p.tables e below (s₁.setTop (entryFrame m #[(.ref w11)] 1)) t := fun t k => castTop (ef_cz11 m ) k
  obtain ⟨T1, X1, e1, st1⟩ := getS2 X0 hx hZ hown (host := "") (Or.inl (hw _ (List.mem_of_getElem? (i := 37) rfl))) Via.refl e0 (S_w10.ext O0.2) (g := (mkF m 1 #[.val (.ref w11)] [(.ref w11)])) rfl (hb hby d1_1)
  obtain ⟨T2, X2, e2, st2⟩ := getS2 X1 hx hZ hown (host := "") (Or.inl (hw _ (List.mem_of_getElem? (i := 38) rfl))) Via.refl e1 (S_w11.ext O0.2) (g := (mkF m 8 #[.val (.ref w11)] [(.ref w11)])) rfl (hb hby d1_8)
  have R3 : ∀ t, Steps p.tables e below (T2.setTop (mkF m 19 #[.val (.ref w11)] [(.int (1 : Int32))])) t → Steps p.tables e below (s₁.setTop (entryFrame m #[(.ref w11)] 1)) t := by
    intro t k
    refine R0 t ?_
    show Steps p.tables e below (s₁.setTop (mkF m 0 #[.val (.ref w11)] [])) t
    refine XS.aloadN X0.here hx rfl (hb hby d1_0) rfl rfl ?_
    show Steps p.tables e below (s₁.setTop (mkF m 1 #[.val (.ref w11)] [(.ref w11)])) t
    refine st1 _ ?_
    show Steps p.tables e below (T1.setTop (mkF m 4 #[.val (.ref w11)] [(.ref w10), (.ref w11)])) t
    refine Jvm.RoadKit.acmp (g := (mkF m 4 #[.val (.ref w11)] [(.ref w10), (.ref w11)])) X1 hx rfl rfl rfl (pc0 := 4) (pc' := 7) (same := false) rfl (hb hby d1_4) rfl (decide_eq_false (fun q => ne_w11_w10 (Value.ref.inj q))) (by decide) (by decide) ?_
    show Steps p.tables e below (T1.setTop (mkF m 7 #[.val (.ref w11)] [])) t
    refine XS.aloadN X1.here hx rfl (hb hby d1_7) rfl rfl ?_
    show Steps p.tables e below (T1.setTop (mkF m 8 #[.val (.ref w11)] [(.ref w11)])) t
    refine st2 _ ?_
    show Steps p.tables e below (T2.setTop (mkF m 11 #[.val (.ref w11)] [(.ref w11), (.ref w11)])) t
    refine Jvm.RoadKit.acmp (g := (mkF m 11 #[.val (.ref w11)] [(.ref w11), (.ref w11)])) X2 hx rfl rfl rfl (pc0 := 11) (pc' := 14) (same := true) rfl (hb hby d1_11) rfl (decide_eq_true (congrArg Value.ref rfl)) (by decide) (by decide) ?_
    show Steps p.tables e below (T2.setTop (mkF m 14 #[.val (.ref w11)] [])) t
    refine XS.iconst X2.here hx rfl (hb hby d1_14) ?_
    show Steps p.tables e below (T2.setTop (mkF m 15 #[.val (.ref w11)] [(.int (1 : Int32))])) t
    refine XS.goto X2.here hx rfl (pc0 := 15) (pc' := 19) rfl (hb hby d1_15) (by decide) (by decide) ?_
    exact k
  obtain ⟨fs, hr, hrun, hended, hW, hsame⟩ := X2.leave (v := some (.int (1 : Int32))) (fun h => by rw [Bd.returns] at h; cases h)
  refine ⟨_, _, R3 _ ?_, hrun, hended, _, _, rfl, ?_, ⟨_, rfl⟩, hW, hsame.mono (by decide) (by decide)⟩
  · show Steps p.tables e below (T2.setTop (mkF m 19 #[.val (.ref w11)] [(.int (1 : Int32))])) _
    exact retN X2 hx (t := .boolean) Bd.returns (by simp) (hb hby d1_19) hr
  · show Q_cz11 Z w0 w1 w2 w3 w4 w5 w6 w7 w8 w9 w10 w11 w12 v0 v1 v2  h0 n0 _ T2.heap _
    rw [e2]
    exact ⟨rfl, N0, rfl⟩
theorem d1_18 : decode prog_9_method_8_code 18 = .ok (.iconst 0, 1) := by decide +kernel
theorem ef_czo (m : MethodId) (a : Addr) : entryFrame m #[(.ref a)] 1 = mkF m 0 #[.val (.ref a)] [] := by first | (simp [entryFrame, mkF, argsToLocals, Value.category]; done) | rfl
def Q_czo (Z : State) (w0 : Addr) (w1 : Addr) (w2 : Addr) (w3 : Addr) (w4 : Addr) (w5 : Addr) (w6 : Addr) (w7 : Addr) (w8 : Addr) (w9 : Addr) (w10 : Addr) (w11 : Addr) (w12 : Addr) (v0 : Addr) (v1 : Addr) (v2 : Addr) (a : Addr) (h0 : Heap) (n0 : Nat) (vv_ : Option Value) (hh_ : Heap) (LL_ : List Loc) : Prop := vv_ = some (.int (0 : Int32)) ∧ (Fr n0 LL_) ∧ (hh_ = h0)
set_option maxRecDepth 65536 in
set_option maxHeartbeats 40000000 in
theorem czo (l : Launch) (Z : State) (a0 : Array Value) (hw : ∀ d ∈ tables_1, d.before a0 Z = true) (ws : List Jvm.Cond) (w0 : Addr) (w1 : Addr) (w2 : Addr) (w3 : Addr) (w4 : Addr) (w5 : Addr) (w6 : Addr) (w7 : Addr) (w8 : Addr) (w9 : Addr) (w10 : Addr) (w11 : Addr) (w12 : Addr) (v0 : Addr) (v1 : Addr) (v2 : Addr) (a : Addr) (h0 : Heap) (n0 : Nat) (O0 : Old Z n0 h0) (S_w0 : Sta Z Z.heap "com/example/transcript_search/transcriptsearch/fusion/FusionMethod" "COMBSUM" "Lcom/example/transcript_search/transcriptsearch/fusion/FusionMethod;" (.ref w0)) (S_w1 : Sta Z Z.heap "com/example/transcript_search/transcriptsearch/fusion/FusionMethod" "COMBMNZ" "Lcom/example/transcript_search/transcriptsearch/fusion/FusionMethod;" (.ref w1)) (S_w2 : Sta Z Z.heap "com/example/transcript_search/transcriptsearch/fusion/FusionMethod" "COMBANZ" "Lcom/example/transcript_search/transcriptsearch/fusion/FusionMethod;" (.ref w2)) (S_w3 : Sta Z Z.heap "com/example/transcript_search/transcriptsearch/fusion/FusionMethod" "COMBMAX" "Lcom/example/transcript_search/transcriptsearch/fusion/FusionMethod;" (.ref w3)) (S_w4 : Sta Z Z.heap "com/example/transcript_search/transcriptsearch/fusion/FusionMethod" "COMBMIN" "Lcom/example/transcript_search/transcriptsearch/fusion/FusionMethod;" (.ref w4)) (S_w5 : Sta Z Z.heap "com/example/transcript_search/transcriptsearch/fusion/FusionMethod" "COMBMED" "Lcom/example/transcript_search/transcriptsearch/fusion/FusionMethod;" (.ref w5)) (S_w6 : Sta Z Z.heap "com/example/transcript_search/transcriptsearch/fusion/FusionMethod" "COMBTOTPROB" "Lcom/example/transcript_search/transcriptsearch/fusion/FusionMethod;" (.ref w6)) (S_w7 : Sta Z Z.heap "com/example/transcript_search/transcriptsearch/fusion/FusionMethod" "COMBMULTPROB" "Lcom/example/transcript_search/transcriptsearch/fusion/FusionMethod;" (.ref w7)) (S_w8 : Sta Z Z.heap "com/example/transcript_search/transcriptsearch/fusion/FusionMethod" "WCOMBSUM" "Lcom/example/transcript_search/transcriptsearch/fusion/FusionMethod;" (.ref w8)) (S_w9 : Sta Z Z.heap "com/example/transcript_search/transcriptsearch/fusion/FusionMethod" "WCOMBMNZ" "Lcom/example/transcript_search/transcriptsearch/fusion/FusionMethod;" (.ref w9)) (S_w10 : Sta Z Z.heap "com/example/transcript_search/transcriptsearch/fusion/FusionMethod" "FUSION1" "Lcom/example/transcript_search/transcriptsearch/fusion/FusionMethod;" (.ref w10)) (S_w11 : Sta Z Z.heap "com/example/transcript_search/transcriptsearch/fusion/FusionMethod" "FUSION2" "Lcom/example/transcript_search/transcriptsearch/fusion/FusionMethod;" (.ref w11)) (S_w12 : Sta Z Z.heap "com/example/transcript_search/transcriptsearch/fusion/FusionMethod" "LINCOMB" "Lcom/example/transcript_search/transcriptsearch/fusion/FusionMethod;" (.ref w12)) (S_v1 : Sta Z Z.heap "com/example/transcript_search/transcriptsearch/fusion/Normalisation" "MAX" "Lcom/example/transcript_search/transcriptsearch/fusion/Normalisation;" (.ref v1)) (E_w0 : Exa Z Z.heap w0 "com/example/transcript_search/transcriptsearch/fusion/FusionMethod") (E_w1 : Exa Z Z.heap w1 "com/example/transcript_search/transcriptsearch/fusion/FusionMethod") (E_w2 : Exa Z Z.heap w2 "com/example/transcript_search/transcriptsearch/fusion/FusionMethod") (E_w3 : Exa Z Z.heap w3 "com/example/transcript_search/transcriptsearch/fusion/FusionMethod") (E_w4 : Exa Z Z.heap w4 "com/example/transcript_search/transcriptsearch/fusion/FusionMethod") (E_w5 : Exa Z Z.heap w5 "com/example/transcript_search/transcriptsearch/fusion/FusionMethod") (E_w6 : Exa Z Z.heap w6 "com/example/transcript_search/transcriptsearch/fusion/FusionMethod") (E_w7 : Exa Z Z.heap w7 "com/example/transcript_search/transcriptsearch/fusion/FusionMethod") (E_w8 : Exa Z Z.heap w8 "com/example/transcript_search/transcriptsearch/fusion/FusionMethod") (E_w9 : Exa Z Z.heap w9 "com/example/transcript_search/transcriptsearch/fusion/FusionMethod") (E_w10 : Exa Z Z.heap w10 "com/example/transcript_search/transcriptsearch/fusion/FusionMethod") (E_w11 : Exa Z Z.heap w11 "com/example/transcript_search/transcriptsearch/fusion/FusionMethod") (E_w12 : Exa Z Z.heap w12 "com/example/transcript_search/transcriptsearch/fusion/FusionMethod") (M_w0 : Fld Z Z.heap w0 "com/example/transcript_search/transcriptsearch/fusion/FusionMethod" "normalisation" "Lcom/example/transcript_search/transcriptsearch/fusion/Normalisation;" (.ref v0)) (M_w1 : Fld Z Z.heap w1 "com/example/transcript_search/transcriptsearch/fusion/FusionMethod" "normalisation" "Lcom/example/transcript_search/transcriptsearch/fusion/Normalisation;" (.ref v0)) (M_w2 : Fld Z Z.heap w2 "com/example/transcript_search/transcriptsearch/fusion/FusionMethod" "normalisation" "Lcom/example/transcript_search/transcriptsearch/fusion/Normalisation;" (.ref v0)) (M_w3 : Fld Z Z.heap w3 "com/example/transcript_search/transcriptsearch/fusion/FusionMethod" "normalisation" "Lcom/example/transcript_search/transcriptsearch/fusion/Normalisation;" (.ref v0)) (M_w4 : Fld Z Z.heap w4 "com/example/transcript_search/transcriptsearch/fusion/FusionMethod" "normalisation" "Lcom/example/transcript_search/transcriptsearch/fusion/Normalisation;" (.ref v0)) (M_w5 : Fld Z Z.heap w5 "com/example/transcript_search/transcriptsearch/fusion/FusionMethod" "normalisation" "Lcom/example/transcript_search/transcriptsearch/fusion/Normalisation;" (.ref v0)) (M_w6 : Fld Z Z.heap w6 "com/example/transcript_search/transcriptsearch/fusion/FusionMethod" "normalisation" "Lcom/example/transcript_search/transcriptsearch/fusion/Normalisation;" (.ref v0)) (M_w7 : Fld Z Z.heap w7 "com/example/transcript_search/transcriptsearch/fusion/FusionMethod" "normalisation" "Lcom/example/transcript_search/transcriptsearch/fusion/Normalisation;" (.ref v0)) (M_w8 : Fld Z Z.heap w8 "com/example/transcript_search/transcriptsearch/fusion/FusionMethod" "normalisation" "Lcom/example/transcript_search/transcriptsearch/fusion/Normalisation;" (.ref v2)) (M_w9 : Fld Z Z.heap w9 "com/example/transcript_search/transcriptsearch/fusion/FusionMethod" "normalisation" "Lcom/example/transcript_search/transcriptsearch/fusion/Normalisation;" (.ref v2)) (M_w10 : Fld Z Z.heap w10 "com/example/transcript_search/transcriptsearch/fusion/FusionMethod" "normalisation" "Lcom/example/transcript_search/transcriptsearch/fusion/Normalisation;" (.ref v1)) (M_w11 : Fld Z Z.heap w11 "com/example/transcript_search/transcriptsearch/fusion/FusionMethod" "normalisation" "Lcom/example/transcript_search/transcriptsearch/fusion/Normalisation;" (.ref v1)) (M_w12 : Fld Z Z.heap w12 "com/example/transcript_search/transcriptsearch/fusion/FusionMethod" "normalisation" "Lcom/example/transcript_search/transcriptsearch/fusion/Normalisation;" (.ref v2)) (ne_w0_w10 : w0 ≠ w10) (ne_w1_w10 : w1 ≠ w10) (ne_w2_w10 : w2 ≠ w10) (ne_w3_w10 : w3 ≠ w10) (ne_w4_w10 : w4 ≠ w10) (ne_w5_w10 : w5 ≠ w10) (ne_w6_w10 : w6 ≠ w10) (ne_w7_w10 : w7 ≠ w10) (ne_w8_w10 : w8 ≠ w10) (ne_w9_w10 : w9 ≠ w10) (ne_w11_w10 : w11 ≠ w10) (ne_w12_w10 : w12 ≠ w10) (ne_w0_w11 : w0 ≠ w11) (ne_w1_w11 : w1 ≠ w11) (ne_w2_w11 : w2 ≠ w11) (ne_w3_w11 : w3 ≠ w11) (ne_w4_w11 : w4 ≠ w11) (ne_w5_w11 : w5 ≠ w11) (ne_w6_w11 : w6 ≠ w11) (ne_w7_w11 : w7 ≠ w11) (ne_w8_w11 : w8 ≠ w11) (ne_w9_w11 : w9 ≠ w11) (ne_w12_w11 : w12 ≠ w11) (ne_v0_v1 : v0 ≠ v1) (ne_v2_v1 : v2 ≠ v1) (ne_a_w10 : a ≠ w10) (ne_a_w11 : a ≠ w11) :
    MetFree l (⟨"com/example/transcript_search/transcriptsearch/fusion/FusionMethod", "countsUnscalableRunsAsZero", "()Z"⟩ : MethodName) (head1 (Jvm.Cond.code (⟨"com/example/transcript_search/transcriptsearch/fusion/FusionMethod", "countsUnscalableRunsAsZero", "()Z"⟩ : MethodName) prog_9_method_8_code 1 (some .boolean) :: ws) ({ frames := 0, cells := 0, slots := 0, locals := 0 } : Room)) (fun aa_ U_ => aa_ = #[(.ref a)] ∧ Z.Warmed39 U_.vm ∧ U_.heap = h0) (fun _ _ _ _ _ => True) (fun _ U_ oo_ V_ => ∃ vv_ LL_, oo_ = .returned vv_ ∧ Q_czo Z w0 w1 w2 w3 w4 w5 w6 w7 w8 w9 w10 w11 w12 v0 v1 v2 a h0 n0 vv_ V_.heap LL_ ∧ FrameEnd U_ oo_ V_ LL_ ({ frames := 0, cells := 0, slots := 0, locals := 0 } : Room).cells ({ frames := 0, cells := 0, slots := 0, locals := 0 } : Room).slots) := by
  refine MetFree.of_bodySF (plainFor_of_name pn_com_example_transcript_search_transcriptsearch_fusion_FusionMethod) hisR ?_
  intro p e s m args below meth c s₁ Bd hml0 hP hK
  obtain ⟨rfl, hZ, hh⟩ := hP
  have hx := Bd.exec
  have hby := Bd.bytes
  have hml : c.maxLocals = 1 := hml0
  have hown : s.vm.findClass "com/example/transcript_search/transcriptsearch/fusion/FusionMethod" = some m.cls := findClass_of_methodNamed Bd.named
  have hnm := (name_of_methodNamed Bd.named Bd.method).1
  have X0 : Stand p l e ({ frames := 0, cells := 0, slots := 0, locals := 0 } : Room) s m #[(.ref a)] below meth c s₁ [] 0 0 := Stand.of_body Bd
  have e0 : s₁.heap = h0 := by rw [← hh, Bd.state]; rfl
  have N0 := Fr.nil n0
  have Z0 : n0 ≤ h0.size := O0.1 ▸ O0.2.1
  have hk0 := Nat.zero_le h0.size
  have K0 : Keep h0 h0 [] := Keep.refl _ _
  have R0 : ∀ t, Steps p.tables e below (s₁.setTop (mkF m 0 #[.val (.ref a)] [])) t → Steps p.tables e below (s₁.setTop (entryFrame m #[(.ref a)] 1)) t := fun t k => castTop (ef_czo m a) k
  obtain ⟨T1, X1, e1, st1⟩ := getS2 X0 hx hZ hown (host := "") (Or.inl (hw _ (List.mem_of_getElem? (i := 37) rfl))) Via.refl e0 (S_w10.ext O0.2) (g := (mkF m 1 #[.val (.ref a)] [(.ref a)])) rfl (hb hby d1_1)
  obtain ⟨T2, X2, e2, st2⟩ := getS2 X1 hx hZ hown (host := "") (Or.inl (hw _ (List.mem_of_getElem? (i := 38) rfl))) Via.refl e1 (S_w11.ext O0.2) (g := (mkF m 8 #[.val (.ref a)] [(.ref a)])) rfl (hb hby d1_8)
  have R3 : ∀ t, Steps p.tables e below (T2.setTop (mkF m 19 #[.val (.ref a)] [(.int (0 : Int32))])) t → Steps p.tables e below (s₁.setTop (entryFrame m #[(.ref a)] 1)) t := by
    intro t k
    refine R0 t ?_
    show Steps p.tables e below (s₁.setTop (mkF m 0 #[.val (.ref a)] [])) t
    refine XS.aloadN X0.here hx rfl (hb hby d1_0) rfl rfl ?_
    show Steps p.tables e below (s₁.setTop (mkF m 1 #[.val (.ref a)] [(.ref a)])) t
    refine st1 _ ?_
    show Steps p.tables e below (T1.setTop (mkF m 4 #[.val (.ref a)] [(.ref w10), (.ref a)])) t
    refine Jvm.RoadKit.acmp (g := (mkF m 4 #[.val (.ref a)] [(.ref w10), (.ref a)])) X1 hx rfl rfl rfl (pc0 := 4) (pc' := 7) (same := false) rfl (hb hby d1_4) rfl (decide_eq_false (fun q => ne_a_w10 (Value.ref.inj q))) (by decide) (by decide) ?_
    show Steps p.tables e below (T1.setTop (mkF m 7 #[.val (.ref a)] [])) t
    refine XS.aloadN X1.here hx rfl (hb hby d1_7) rfl rfl ?_
    show Steps p.tables e below (T1.setTop (mkF m 8 #[.val (.ref a)] [(.ref a)])) t
    refine st2 _ ?_
    show Steps p.tables e below (T2.setTop (mkF m 11 #[.val (.ref a)] [(.ref w11), (.ref a)])) t
    refine Jvm.RoadKit.acmp (g := (mkF m 11 #[.val (.ref a)] [(.ref w11), (.ref a)])) X2 hx rfl rfl rfl (pc0 := 11) (pc' := 18) (same := false) rfl (hb hby d1_11) rfl (decide_eq_false (fun q => ne_a_w11 (Value.ref.inj q))) (by decide) (by decide) ?_
    show Steps p.tables e below (T2.setTop (mkF m 18 #[.val (.ref a)] [])) t
    refine XS.iconst X2.here hx rfl (hb hby d1_18) ?_
    exact k
  obtain ⟨fs, hr, hrun, hended, hW, hsame⟩ := X2.leave (v := some (.int (0 : Int32))) (fun h => by rw [Bd.returns] at h; cases h)
  refine ⟨_, _, R3 _ ?_, hrun, hended, _, _, rfl, ?_, ⟨_, rfl⟩, hW, hsame.mono (by decide) (by decide)⟩
  · show Steps p.tables e below (T2.setTop (mkF m 19 #[.val (.ref a)] [(.int (0 : Int32))])) _
    exact retN X2 hx (t := .boolean) Bd.returns (by simp) (hb hby d1_19) hr
  · show Q_czo Z w0 w1 w2 w3 w4 w5 w6 w7 w8 w9 w10 w11 w12 v0 v1 v2 a h0 n0 _ T2.heap _
    rw [e2]
    exact ⟨rfl, N0, rfl⟩
theorem d2_0 : decode prog_9_method_6_code 0 = .ok (.aload_n 0, 1) := by decide +kernel
theorem d2_1 : decode prog_9_method_6_code 1 = .ok (.getfield 66, 3) := by decide +kernel
theorem d2_4 : decode prog_9_method_6_code 4 = .ok (.areturn, 1) := by decide +kernel
theorem ef_dn (m : MethodId) (a : Addr) (z : Addr) : entryFrame m #[(.ref a)] 1 = mkF m 0 #[.val (.ref a)] [] := by first | (simp [entryFrame, mkF, argsToLocals, Value.category]; done) | rfl
def Q_dn (Z : State) (w0 : Addr) (w1 : Addr) (w2 : Addr) (w3 : Addr) (w4 : Addr) (w5 : Addr) (w6 : Addr) (w7 : Addr) (w8 : Addr) (w9 : Addr) (w10 : Addr) (w11 : Addr) (w12 : Addr) (v0 : Addr) (v1 : Addr) (v2 : Addr) (a : Addr) (z : Addr) (h0 : Heap) (n0 : Nat) (vv_ : Option Value) (hh_ : Heap) (LL_ : List Loc) : Prop := vv_ = some (.ref z) ∧ (Fr n0 LL_) ∧ (hh_ = h0)
set_option maxRecDepth 65536 in
set_option maxHeartbeats 40000000 in
theorem dn (l : Launch) (Z : State) (a0 : Array Value) (hw : ∀ d ∈ tables_1, d.before a0 Z = true) (ws : List Jvm.Cond) (w0 : Addr) (w1 : Addr) (w2 : Addr) (w3 : Addr) (w4 : Addr) (w5 : Addr) (w6 : Addr) (w7 : Addr) (w8 : Addr) (w9 : Addr) (w10 : Addr) (w11 : Addr) (w12 : Addr) (v0 : Addr) (v1 : Addr) (v2 : Addr) (a : Addr) (z : Addr) (h0 : Heap) (n0 : Nat) (O0 : Old Z n0 h0) (S_w0 : Sta Z Z.heap "com/example/transcript_search/transcriptsearch/fusion/FusionMethod" "COMBSUM" "Lcom/example/transcript_search/transcriptsearch/fusion/FusionMethod;" (.ref w0)) (S_w1 : Sta Z Z.heap "com/example/transcript_search/transcriptsearch/fusion/FusionMethod" "COMBMNZ" "Lcom/example/transcript_search/transcriptsearch/fusion/FusionMethod;" (.ref w1)) (S_w2 : Sta Z Z.heap "com/example/transcript_search/transcriptsearch/fusion/FusionMethod" "COMBANZ" "Lcom/example/transcript_search/transcriptsearch/fusion/FusionMethod;" (.ref w2)) (S_w3 : Sta Z Z.heap "com/example/transcript_search/transcriptsearch/fusion/FusionMethod" "COMBMAX" "Lcom/example/transcript_search/transcriptsearch/fusion/FusionMethod;" (.ref w3)) (S_w4 : Sta Z Z.heap "com/example/transcript_search/transcriptsearch/fusion/FusionMethod" "COMBMIN" "Lcom/example/transcript_search/transcriptsearch/fusion/FusionMethod;" (.ref w4)) (S_w5 : Sta Z Z.heap "com/example/transcript_search/transcriptsearch/fusion/FusionMethod" "COMBMED" "Lcom/example/transcript_search/transcriptsearch/fusion/FusionMethod;" (.ref w5)) (S_w6 : Sta Z Z.heap "com/example/transcript_search/transcriptsearch/fusion/FusionMethod" "COMBTOTPROB" "Lcom/example/transcript_search/transcriptsearch/fusion/FusionMethod;" (.ref w6)) (S_w7 : Sta Z Z.heap "com/example/transcript_search/transcriptsearch/fusion/FusionMethod" "COMBMULTPROB" "Lcom/example/transcript_search/transcriptsearch/fusion/FusionMethod;" (.ref w7)) (S_w8 : Sta Z Z.heap "com/example/transcript_search/transcriptsearch/fusion/FusionMethod" "WCOMBSUM" "Lcom/example/transcript_search/transcriptsearch/fusion/FusionMethod;" (.ref w8)) (S_w9 : Sta Z Z.heap "com/example/transcript_search/transcriptsearch/fusion/FusionMethod" "WCOMBMNZ" "Lcom/example/transcript_search/transcriptsearch/fusion/FusionMethod;" (.ref w9)) (S_w10 : Sta Z Z.heap "com/example/transcript_search/transcriptsearch/fusion/FusionMethod" "FUSION1" "Lcom/example/transcript_search/transcriptsearch/fusion/FusionMethod;" (.ref w10)) (S_w11 : Sta Z Z.heap "com/example/transcript_search/transcriptsearch/fusion/FusionMethod" "FUSION2" "Lcom/example/transcript_search/transcriptsearch/fusion/FusionMethod;" (.ref w11)) (S_w12 : Sta Z Z.heap "com/example/transcript_search/transcriptsearch/fusion/FusionMethod" "LINCOMB" "Lcom/example/transcript_search/transcriptsearch/fusion/FusionMethod;" (.ref w12)) (S_v1 : Sta Z Z.heap "com/example/transcript_search/transcriptsearch/fusion/Normalisation" "MAX" "Lcom/example/transcript_search/transcriptsearch/fusion/Normalisation;" (.ref v1)) (E_w0 : Exa Z Z.heap w0 "com/example/transcript_search/transcriptsearch/fusion/FusionMethod") (E_w1 : Exa Z Z.heap w1 "com/example/transcript_search/transcriptsearch/fusion/FusionMethod") (E_w2 : Exa Z Z.heap w2 "com/example/transcript_search/transcriptsearch/fusion/FusionMethod") (E_w3 : Exa Z Z.heap w3 "com/example/transcript_search/transcriptsearch/fusion/FusionMethod") (E_w4 : Exa Z Z.heap w4 "com/example/transcript_search/transcriptsearch/fusion/FusionMethod") (E_w5 : Exa Z Z.heap w5 "com/example/transcript_search/transcriptsearch/fusion/FusionMethod") (E_w6 : Exa Z Z.heap w6 "com/example/transcript_search/transcriptsearch/fusion/FusionMethod") (E_w7 : Exa Z Z.heap w7 "com/example/transcript_search/transcriptsearch/fusion/FusionMethod") (E_w8 : Exa Z Z.heap w8 "com/example/transcript_search/transcriptsearch/fusion/FusionMethod") (E_w9 : Exa Z Z.heap w9 "com/example/transcript_search/transcriptsearch/fusion/FusionMethod") (E_w10 : Exa Z Z.heap w10 "com/example/transcript_search/transcriptsearch/fusion/FusionMethod") (E_w11 : Exa Z Z.heap w11 "com/example/transcript_search/transcriptsearch/fusion/FusionMethod") (E_w12 : Exa Z Z.heap w12 "com/example/transcript_search/transcriptsearch/fusion/FusionMethod") (M_w0 : Fld Z Z.heap w0 "com/example/transcript_search/transcriptsearch/fusion/FusionMethod" "normalisation" "Lcom/example/transcript_search/transcriptsearch/fusion/Normalisation;" (.ref v0)) (M_w1 : Fld Z Z.heap w1 "com/example/transcript_search/transcriptsearch/fusion/FusionMethod" "normalisation" "Lcom/example/transcript_search/transcriptsearch/fusion/Normalisation;" (.ref v0)) (M_w2 : Fld Z Z.heap w2 "com/example/transcript_search/transcriptsearch/fusion/FusionMethod" "normalisation" "Lcom/example/transcript_search/transcriptsearch/fusion/Normalisation;" (.ref v0)) (M_w3 : Fld Z Z.heap w3 "com/example/transcript_search/transcriptsearch/fusion/FusionMethod" "normalisation" "Lcom/example/transcript_search/transcriptsearch/fusion/Normalisation;" (.ref v0)) (M_w4 : Fld Z Z.heap w4 "com/example/transcript_search/transcriptsearch/fusion/FusionMethod" "normalisation" "Lcom/example/transcript_search/transcriptsearch/fusion/Normalisation;" (.ref v0)) (M_w5 : Fld Z Z.heap w5 "com/example/transcript_search/transcriptsearch/fusion/FusionMethod" "normalisation" "Lcom/example/transcript_search/transcriptsearch/fusion/Normalisation;" (.ref v0)) (M_w6 : Fld Z Z.heap w6 "com/example/transcript_search/transcriptsearch/fusion/FusionMethod" "normalisation" "Lcom/example/transcript_search/transcriptsearch/fusion/Normalisation;" (.ref v0)) (M_w7 : Fld Z Z.heap w7 "com/example/transcript_search/transcriptsearch/fusion/FusionMethod" "normalisation" "Lcom/example/transcript_search/transcriptsearch/fusion/Normalisation;" (.ref v0)) (M_w8 : Fld Z Z.heap w8 "com/example/transcript_search/transcriptsearch/fusion/FusionMethod" "normalisation" "Lcom/example/transcript_search/transcriptsearch/fusion/Normalisation;" (.ref v2)) (M_w9 : Fld Z Z.heap w9 "com/example/transcript_search/transcriptsearch/fusion/FusionMethod" "normalisation" "Lcom/example/transcript_search/transcriptsearch/fusion/Normalisation;" (.ref v2)) (M_w10 : Fld Z Z.heap w10 "com/example/transcript_search/transcriptsearch/fusion/FusionMethod" "normalisation" "Lcom/example/transcript_search/transcriptsearch/fusion/Normalisation;" (.ref v1)) (M_w11 : Fld Z Z.heap w11 "com/example/transcript_search/transcriptsearch/fusion/FusionMethod" "normalisation" "Lcom/example/transcript_search/transcriptsearch/fusion/Normalisation;" (.ref v1)) (M_w12 : Fld Z Z.heap w12 "com/example/transcript_search/transcriptsearch/fusion/FusionMethod" "normalisation" "Lcom/example/transcript_search/transcriptsearch/fusion/Normalisation;" (.ref v2)) (ne_w0_w10 : w0 ≠ w10) (ne_w1_w10 : w1 ≠ w10) (ne_w2_w10 : w2 ≠ w10) (ne_w3_w10 : w3 ≠ w10) (ne_w4_w10 : w4 ≠ w10) (ne_w5_w10 : w5 ≠ w10) (ne_w6_w10 : w6 ≠ w10) (ne_w7_w10 : w7 ≠ w10) (ne_w8_w10 : w8 ≠ w10) (ne_w9_w10 : w9 ≠ w10) (ne_w11_w10 : w11 ≠ w10) (ne_w12_w10 : w12 ≠ w10) (ne_w0_w11 : w0 ≠ w11) (ne_w1_w11 : w1 ≠ w11) (ne_w2_w11 : w2 ≠ w11) (ne_w3_w11 : w3 ≠ w11) (ne_w4_w11 : w4 ≠ w11) (ne_w5_w11 : w5 ≠ w11) (ne_w6_w11 : w6 ≠ w11) (ne_w7_w11 : w7 ≠ w11) (ne_w8_w11 : w8 ≠ w11) (ne_w9_w11 : w9 ≠ w11) (ne_w12_w11 : w12 ≠ w11) (ne_v0_v1 : v0 ≠ v1) (ne_v2_v1 : v2 ≠ v1) (Fa : Fld Z h0 a "com/example/transcript_search/transcriptsearch/fusion/FusionMethod" "normalisation" "Lcom/example/transcript_search/transcriptsearch/fusion/Normalisation;" (.ref z)) :
    MetFree l (⟨"com/example/transcript_search/transcriptsearch/fusion/FusionMethod", "defaultNormalisation", "()Lcom/example/transcript_search/transcriptsearch/fusion/Normalisation;"⟩ : MethodName) (head1 (Jvm.Cond.code (⟨"com/example/transcript_search/transcriptsearch/fusion/FusionMethod", "defaultNormalisation", "()Lcom/example/transcript_search/transcriptsearch/fusion/Normalisation;"⟩ : MethodName) prog_9_method_6_code 1 (some (.object "com/example/transcript_search/transcriptsearch/fusion/Normalisation")) :: ws) ({ frames := 0, cells := 0, slots := 0, locals := 0 } : Room)) (fun aa_ U_ => aa_ = #[(.ref a)] ∧ Z.Warmed39 U_.vm ∧ U_.heap = h0) (fun _ _ _ _ _ => True) (fun _ U_ oo_ V_ => ∃ vv_ LL_, oo_ = .returned vv_ ∧ Q_dn Z w0 w1 w2 w3 w4 w5 w6 w7 w8 w9 w10 w11 w12 v0 v1 v2 a z h0 n0 vv_ V_.heap LL_ ∧ FrameEnd U_ oo_ V_ LL_ ({ frames := 0, cells := 0, slots := 0, locals := 0 } : Room).cells ({ frames := 0, cells := 0, slots := 0, locals := 0 } : Room).slots) := by
  refine MetFree.of_bodySF (plainFor_of_name pn_com_example_transcript_search_transcriptsearch_fusion_FusionMethod) hisR ?_
  intro p e s m args below meth c s₁ Bd hml0 hP hK
  obtain ⟨rfl, hZ, hh⟩ := hP
  have hx := Bd.exec
  have hby := Bd.bytes
  have hml : c.maxLocals = 1 := hml0
  have hown : s.vm.findClass "com/example/transcript_search/transcriptsearch/fusion/FusionMethod" = some m.cls := findClass_of_methodNamed Bd.named
  have hnm := (name_of_methodNamed Bd.named Bd.method).1
  have X0 : Stand p l e ({ frames := 0, cells := 0, slots := 0, locals := 0 } : Room) s m #[(.ref a)] below meth c s₁ [] 0 0 := Stand.of_body Bd
  have e0 : s₁.heap = h0 := by rw [← hh, Bd.state]; rfl
  have N0 := Fr.nil n0
  have Z0 : n0 ≤ h0.size := O0.1 ▸ O0.2.1
  have hk0 := Nat.zero_le h0.size
  have K0 : Keep h0 h0 [] := Keep.refl _ _
  have R0 : ∀ t, Steps p.tables e below (s₁.setTop (mkF m 0 #[.val (.ref a)] [])) t → Steps p.tables e below (s₁.setTop (entryFrame m #[(.ref a)] 1)) t := fun t k => castTop (ef_dn m a z) k
  obtain ⟨T1, X1, e1, st1⟩ := getF X0 hx hZ hown (host := "") (Or.inl (hw _ (List.mem_of_getElem? (i := 44) rfl))) Via.refl e0 Fa (g := (mkF m 1 #[.val (.ref a)] [(.ref a)])) rfl rfl (hb hby d2_1)
  have R2 : ∀ t, Steps p.tables e below (T1.setTop (mkF m 4 #[.val (.ref a)] [(.ref z)])) t → Steps p.tables e below (s₁.setTop (entryFrame m #[(.ref a)] 1)) t := by
    intro t k
    refine R0 t ?_
    show Steps p.tables e below (s₁.setTop (mkF m 0 #[.val (.ref a)] [])) t
    refine XS.aloadN X0.here hx rfl (hb hby d2_0) rfl rfl ?_
    show Steps p.tables e below (s₁.setTop (mkF m 1 #[.val (.ref a)] [(.ref a)])) t
    refine st1 _ ?_
    exact k
  obtain ⟨fs, hr, hrun, hended, hW, hsame⟩ := X1.leave (v := some (.ref z)) (fun h => by rw [Bd.returns] at h; cases h)
  refine ⟨_, _, R2 _ ?_, hrun, hended, _, _, rfl, ?_, ⟨_, rfl⟩, hW, hsame.mono (by decide) (by decide)⟩
  · show Steps p.tables e below (T1.setTop (mkF m 4 #[.val (.ref a)] [(.ref z)])) _
    exact retOut X1 hx Bd.returns rfl (Or.inr (Or.inr (Or.inr (Or.inr ⟨rfl, rfl, rfl⟩)))) (hb hby d2_4) hr
  · show Q_dn Z w0 w1 w2 w3 w4 w5 w6 w7 w8 w9 w10 w11 w12 v0 v1 v2 a z h0 n0 _ T1.heap _
    rw [e1]
    exact ⟨rfl, N0, rfl⟩
theorem own_13 (y : Int32) : ((y &&& (2147483647 : Int32)) % (13 : Int32)) = (0 : Int32) ∨ ((y &&& (2147483647 : Int32)) % (13 : Int32)) = (1 : Int32) ∨ ((y &&& (2147483647 : Int32)) % (13 : Int32)) = (2 : Int32) ∨ ((y &&& (2147483647 : Int32)) % (13 : Int32)) = (3 : Int32) ∨ ((y &&& (2147483647 : Int32)) % (13 : Int32)) = (4 : Int32) ∨ ((y &&& (2147483647 : Int32)) % (13 : Int32)) = (5 : Int32) ∨ ((y &&& (2147483647 : Int32)) % (13 : Int32)) = (6 : Int32) ∨ ((y &&& (2147483647 : Int32)) % (13 : Int32)) = (7 : Int32) ∨ ((y &&& (2147483647 : Int32)) % (13 : Int32)) = (8 : Int32) ∨ ((y &&& (2147483647 : Int32)) % (13 : Int32)) = (9 : Int32) ∨ ((y &&& (2147483647 : Int32)) % (13 : Int32)) = (10 : Int32) ∨ ((y &&& (2147483647 : Int32)) % (13 : Int32)) = (11 : Int32) ∨ ((y &&& (2147483647 : Int32)) % (13 : Int32)) = (12 : Int32) := by
  have h1 := (c_mask y (2147483647 : Int32) 31 (by decide) (by decide)); have h2 := (c_irem (y &&& (2147483647 : Int32)) (13 : Int32) 13 (by decide)).1
  have h3 : ∀ k : Nat, k < 13 → (Int32.ofNat k).toInt = k := by decide
  simp only [← Int32.toInt_inj]
  rw [show (0 : Int32).toInt = 0 from by decide]
  rw [show (1 : Int32).toInt = 1 from by decide]
  rw [show (2 : Int32).toInt = 2 from by decide]
  rw [show (3 : Int32).toInt = 3 from by decide]
  rw [show (4 : Int32).toInt = 4 from by decide]
  rw [show (5 : Int32).toInt = 5 from by decide]
  rw [show (6 : Int32).toInt = 6 from by decide]
  rw [show (7 : Int32).toInt = 7 from by decide]
  rw [show (8 : Int32).toInt = 8 from by decide]
  rw [show (9 : Int32).toInt = 9 from by decide]
  rw [show (10 : Int32).toInt = 10 from by decide]
  rw [show (11 : Int32).toInt = 11 from by decide]
  rw [show (12 : Int32).toInt = 12 from by decide]
  omega
theorem pd_0 : parseMethodDescriptor "()Z" = some ⟨[], some .boolean⟩ := by decide +kernel
theorem pd_1 : parseMethodDescriptor "()Lcom/example/transcript_search/transcriptsearch/fusion/Normalisation;" = some ⟨[], some (.object "com/example/transcript_search/transcriptsearch/fusion/Normalisation")⟩ := by decide +kernel
theorem pn_com_example_transcript_search_transcriptsearch_fusion_FusionMethodCountsUnscalableRunsAsZeroPinLaw : plainName "com/example/transcript_search/transcriptsearch/fusion/FusionMethodCountsUnscalableRunsAsZeroPinLaw" = true := by first | (simp [plainName, overriddenIn]; done) | decide +kernel
theorem ef_rm0 (m : MethodId) (y : Int32) : entryFrame m #[(.int y)] maxLocals = mkF m 0 #[.val (.int y), .unset, .unset, .unset, .unset, .unset] [] := by first | (simp [entryFrame, mkF, argsToLocals, Value.category, maxLocals]; done) | rfl
def Q_rm0 (Z : State) (w0 : Addr) (w1 : Addr) (w2 : Addr) (w3 : Addr) (w4 : Addr) (w5 : Addr) (w6 : Addr) (w7 : Addr) (w8 : Addr) (w9 : Addr) (w10 : Addr) (w11 : Addr) (w12 : Addr) (v0 : Addr) (v1 : Addr) (v2 : Addr) (y : Int32) (h0 : Heap) (n0 : Nat) (vv_ : Option Value) (hh_ : Heap) (LL_ : List Loc) : Prop := vv_ = some (.int (1 : Int32)) ∧ (Fr n0 LL_)
set_option maxRecDepth 65536 in
set_option maxHeartbeats 40000000 in
theorem rm0 (l : Launch) (Z : State) (a0 : Array Value) (hw : ∀ d ∈ tables_1, d.before a0 Z = true) (ws : List Jvm.Cond) (w0 : Addr) (w1 : Addr) (w2 : Addr) (w3 : Addr) (w4 : Addr) (w5 : Addr) (w6 : Addr) (w7 : Addr) (w8 : Addr) (w9 : Addr) (w10 : Addr) (w11 : Addr) (w12 : Addr) (v0 : Addr) (v1 : Addr) (v2 : Addr) (y : Int32) (h0 : Heap) (n0 : Nat) (O0 : Old Z n0 h0) (S_w0 : Sta Z Z.heap "com/example/transcript_search/transcriptsearch/fusion/FusionMethod" "COMBSUM" "Lcom/example/transcript_search/transcriptsearch/fusion/FusionMethod;" (.ref w0)) (S_w1 : Sta Z Z.heap "com/example/transcript_search/transcriptsearch/fusion/FusionMethod" "COMBMNZ" "Lcom/example/transcript_search/transcriptsearch/fusion/FusionMethod;" (.ref w1)) (S_w2 : Sta Z Z.heap "com/example/transcript_search/transcriptsearch/fusion/FusionMethod" "COMBANZ" "Lcom/example/transcript_search/transcriptsearch/fusion/FusionMethod;" (.ref w2)) (S_w3 : Sta Z Z.heap "com/example/transcript_search/transcriptsearch/fusion/FusionMethod" "COMBMAX" "Lcom/example/transcript_search/transcriptsearch/fusion/FusionMethod;" (.ref w3)) (S_w4 : Sta Z Z.heap "com/example/transcript_search/transcriptsearch/fusion/FusionMethod" "COMBMIN" "Lcom/example/transcript_search/transcriptsearch/fusion/FusionMethod;" (.ref w4)) (S_w5 : Sta Z Z.heap "com/example/transcript_search/transcriptsearch/fusion/FusionMethod" "COMBMED" "Lcom/example/transcript_search/transcriptsearch/fusion/FusionMethod;" (.ref w5)) (S_w6 : Sta Z Z.heap "com/example/transcript_search/transcriptsearch/fusion/FusionMethod" "COMBTOTPROB" "Lcom/example/transcript_search/transcriptsearch/fusion/FusionMethod;" (.ref w6)) (S_w7 : Sta Z Z.heap "com/example/transcript_search/transcriptsearch/fusion/FusionMethod" "COMBMULTPROB" "Lcom/example/transcript_search/transcriptsearch/fusion/FusionMethod;" (.ref w7)) (S_w8 : Sta Z Z.heap "com/example/transcript_search/transcriptsearch/fusion/FusionMethod" "WCOMBSUM" "Lcom/example/transcript_search/transcriptsearch/fusion/FusionMethod;" (.ref w8)) (S_w9 : Sta Z Z.heap "com/example/transcript_search/transcriptsearch/fusion/FusionMethod" "WCOMBMNZ" "Lcom/example/transcript_search/transcriptsearch/fusion/FusionMethod;" (.ref w9)) (S_w10 : Sta Z Z.heap "com/example/transcript_search/transcriptsearch/fusion/FusionMethod" "FUSION1" "Lcom/example/transcript_search/transcriptsearch/fusion/FusionMethod;" (.ref w10)) (S_w11 : Sta Z Z.heap "com/example/transcript_search/transcriptsearch/fusion/FusionMethod" "FUSION2" "Lcom/example/transcript_search/transcriptsearch/fusion/FusionMethod;" (.ref w11)) (S_w12 : Sta Z Z.heap "com/example/transcript_search/transcriptsearch/fusion/FusionMethod" "LINCOMB" "Lcom/example/transcript_search/transcriptsearch/fusion/FusionMethod;" (.ref w12)) (S_v1 : Sta Z Z.heap "com/example/transcript_search/transcriptsearch/fusion/Normalisation" "MAX" "Lcom/example/transcript_search/transcriptsearch/fusion/Normalisation;" (.ref v1)) (E_w0 : Exa Z Z.heap w0 "com/example/transcript_search/transcriptsearch/fusion/FusionMethod") (E_w1 : Exa Z Z.heap w1 "com/example/transcript_search/transcriptsearch/fusion/FusionMethod") (E_w2 : Exa Z Z.heap w2 "com/example/transcript_search/transcriptsearch/fusion/FusionMethod") (E_w3 : Exa Z Z.heap w3 "com/example/transcript_search/transcriptsearch/fusion/FusionMethod") (E_w4 : Exa Z Z.heap w4 "com/example/transcript_search/transcriptsearch/fusion/FusionMethod") (E_w5 : Exa Z Z.heap w5 "com/example/transcript_search/transcriptsearch/fusion/FusionMethod") (E_w6 : Exa Z Z.heap w6 "com/example/transcript_search/transcriptsearch/fusion/FusionMethod") (E_w7 : Exa Z Z.heap w7 "com/example/transcript_search/transcriptsearch/fusion/FusionMethod") (E_w8 : Exa Z Z.heap w8 "com/example/transcript_search/transcriptsearch/fusion/FusionMethod") (E_w9 : Exa Z Z.heap w9 "com/example/transcript_search/transcriptsearch/fusion/FusionMethod") (E_w10 : Exa Z Z.heap w10 "com/example/transcript_search/transcriptsearch/fusion/FusionMethod") (E_w11 : Exa Z Z.heap w11 "com/example/transcript_search/transcriptsearch/fusion/FusionMethod") (E_w12 : Exa Z Z.heap w12 "com/example/transcript_search/transcriptsearch/fusion/FusionMethod") (M_w0 : Fld Z Z.heap w0 "com/example/transcript_search/transcriptsearch/fusion/FusionMethod" "normalisation" "Lcom/example/transcript_search/transcriptsearch/fusion/Normalisation;" (.ref v0)) (M_w1 : Fld Z Z.heap w1 "com/example/transcript_search/transcriptsearch/fusion/FusionMethod" "normalisation" "Lcom/example/transcript_search/transcriptsearch/fusion/Normalisation;" (.ref v0)) (M_w2 : Fld Z Z.heap w2 "com/example/transcript_search/transcriptsearch/fusion/FusionMethod" "normalisation" "Lcom/example/transcript_search/transcriptsearch/fusion/Normalisation;" (.ref v0)) (M_w3 : Fld Z Z.heap w3 "com/example/transcript_search/transcriptsearch/fusion/FusionMethod" "normalisation" "Lcom/example/transcript_search/transcriptsearch/fusion/Normalisation;" (.ref v0)) (M_w4 : Fld Z Z.heap w4 "com/example/transcript_search/transcriptsearch/fusion/FusionMethod" "normalisation" "Lcom/example/transcript_search/transcriptsearch/fusion/Normalisation;" (.ref v0)) (M_w5 : Fld Z Z.heap w5 "com/example/transcript_search/transcriptsearch/fusion/FusionMethod" "normalisation" "Lcom/example/transcript_search/transcriptsearch/fusion/Normalisation;" (.ref v0)) (M_w6 : Fld Z Z.heap w6 "com/example/transcript_search/transcriptsearch/fusion/FusionMethod" "normalisation" "Lcom/example/transcript_search/transcriptsearch/fusion/Normalisation;" (.ref v0)) (M_w7 : Fld Z Z.heap w7 "com/example/transcript_search/transcriptsearch/fusion/FusionMethod" "normalisation" "Lcom/example/transcript_search/transcriptsearch/fusion/Normalisation;" (.ref v0)) (M_w8 : Fld Z Z.heap w8 "com/example/transcript_search/transcriptsearch/fusion/FusionMethod" "normalisation" "Lcom/example/transcript_search/transcriptsearch/fusion/Normalisation;" (.ref v2)) (M_w9 : Fld Z Z.heap w9 "com/example/transcript_search/transcriptsearch/fusion/FusionMethod" "normalisation" "Lcom/example/transcript_search/transcriptsearch/fusion/Normalisation;" (.ref v2)) (M_w10 : Fld Z Z.heap w10 "com/example/transcript_search/transcriptsearch/fusion/FusionMethod" "normalisation" "Lcom/example/transcript_search/transcriptsearch/fusion/Normalisation;" (.ref v1)) (M_w11 : Fld Z Z.heap w11 "com/example/transcript_search/transcriptsearch/fusion/FusionMethod" "normalisation" "Lcom/example/transcript_search/transcriptsearch/fusion/Normalisation;" (.ref v1)) (M_w12 : Fld Z Z.heap w12 "com/example/transcript_search/transcriptsearch/fusion/FusionMethod" "normalisation" "Lcom/example/transcript_search/transcriptsearch/fusion/Normalisation;" (.ref v2)) (ne_w0_w10 : w0 ≠ w10) (ne_w1_w10 : w1 ≠ w10) (ne_w2_w10 : w2 ≠ w10) (ne_w3_w10 : w3 ≠ w10) (ne_w4_w10 : w4 ≠ w10) (ne_w5_w10 : w5 ≠ w10) (ne_w6_w10 : w6 ≠ w10) (ne_w7_w10 : w7 ≠ w10) (ne_w8_w10 : w8 ≠ w10) (ne_w9_w10 : w9 ≠ w10) (ne_w11_w10 : w11 ≠ w10) (ne_w12_w10 : w12 ≠ w10) (ne_w0_w11 : w0 ≠ w11) (ne_w1_w11 : w1 ≠ w11) (ne_w2_w11 : w2 ≠ w11) (ne_w3_w11 : w3 ≠ w11) (ne_w4_w11 : w4 ≠ w11) (ne_w5_w11 : w5 ≠ w11) (ne_w6_w11 : w6 ≠ w11) (ne_w7_w11 : w7 ≠ w11) (ne_w8_w11 : w8 ≠ w11) (ne_w9_w11 : w9 ≠ w11) (ne_w12_w11 : w12 ≠ w11) (ne_v0_v1 : v0 ≠ v1) (ne_v2_v1 : v2 ≠ v1) :
    MetFree l x (head1 (Jvm.Cond.code x code maxLocals ret :: ws) room_1) (fun aa_ U_ => aa_ = #[(.int y)] ∧ Z.Warmed39 U_.vm ∧ U_.heap = h0) (fun _ _ _ _ _ => True) (fun _ U_ oo_ V_ => ∃ vv_ LL_, oo_ = .returned vv_ ∧ Q_rm0 Z w0 w1 w2 w3 w4 w5 w6 w7 w8 w9 w10 w11 w12 v0 v1 v2 y h0 n0 vv_ V_.heap LL_ ∧ FrameEnd U_ oo_ V_ LL_ room_1.cells room_1.slots) := by
  refine MetFree.of_bodySF (plainFor_of_name pn_com_example_transcript_search_transcriptsearch_fusion_FusionMethodCountsUnscalableRunsAsZeroPinLaw) hisR ?_
  intro p e s m args below meth c s₁ Bd hml0 hP hK
  obtain ⟨rfl, hZ, hh⟩ := hP
  have hx := Bd.exec
  have hby := Bd.bytes
  have hml : c.maxLocals = 6 := hml0
  have hown : s.vm.findClass "com/example/transcript_search/transcriptsearch/fusion/FusionMethodCountsUnscalableRunsAsZeroPinLaw" = some m.cls := findClass_of_methodNamed Bd.named
  have hnm := (name_of_methodNamed Bd.named Bd.method).1
  have X0 : Stand p l e room_1 s m #[(.int y)] below meth c s₁ [] 0 0 := Stand.of_body Bd
  have e0 : s₁.heap = h0 := by rw [← hh, Bd.state]; rfl
  have N0 := Fr.nil n0
  have Z0 : n0 ≤ h0.size := O0.1 ▸ O0.2.1
  have hk0 := Nat.zero_le h0.size
  have K0 : Keep h0 h0 [] := Keep.refl _ _
  have R0 : ∀ t, Steps p.tables e below (s₁.setTop (mkF m 0 #[.val (.int y), .unset, .unset, .unset, .unset, .unset] [])) t → Steps p.tables e below (s₁.setTop (entryFrame m #[(.int y)] maxLocals)) t := fun t k => castTop (ef_rm0 m y) k
  obtain ⟨T1, h1, k1, X1, e1, E1, A1, Ov1, st1⟩ := newR X0 hx hZ hown (hw _ (List.mem_of_getElem? (i := 0) rfl)) (hw _ (List.mem_of_getElem? (i := 1) rfl)) e0 (g := (mkF m 2 #[.val (.int y), .unset, .unset, .unset, .unset, .unset] [(.int (13 : Int32))])) rfl (hb hby at_2) rfl (by decide) (cap := 13) (by decide) (by decide) (by decide) (by decide)
  obtain ⟨b1, gg1⟩ : ∃ z, z = h0.size := ⟨_, rfl⟩
  rw [← gg1] at A1 st1
  have g_b1 : n0 ≤ b1 := Nat.le_trans Z0 (Nat.le_of_eq gg1.symm)
  have sz_b1 : h0.size ≤ b1 := Nat.le_trans K0.1 (Nat.le_of_eq gg1.symm)
  have Z1 : n0 ≤ h1.size := Nat.le_trans Z0 E1.1
  have K1 : Keep h0 h1 [] := K0.ext E1
  have O1 : Old Z n0 h1 := O0.ext E1
  have V1 : Arv Z h1 b1 k1 (.object "com/example/transcript_search/transcriptsearch/fusion/FusionMethod") (13 : Int32) [.null, .null, .null, .null, .null, .null, .null, .null, .null, .null, .null, .null, .null] .null := (Arv.new A1 (by decide)).pad (pad_rep [] .null 13)
  obtain ⟨T2, X2, e2, st2⟩ := getS2 X1 hx hZ hown (host := "") (Or.inl (hw _ (List.mem_of_getElem? (i := 2) rfl))) Via.refl e1 (S_w0.ext O1.2) (g := (mkF m 7 #[.val (.int y), .unset, .unset, .unset, .unset, .unset] [(.int (0 : Int32)), (.ref b1), (.ref b1)])) rfl (hb hby at_7)
  obtain ⟨cl3, Ar3, q3, S3, M3, H3, G3⟩ := id V1
  have in3 : ¬ ((0 : Int32) < 0 ∨ cl3.slots.size ≤ ((0 : Int32)).toNatClampNeg) := inb_of S3 ⟨by decide, by decide⟩
  obtain ⟨T3, h3, X3, e3, W3, st3⟩ := stR X2 hx hZ e2 Ar3 (j := (0 : Int32)) in3 rfl (Sto.ofV Ar3 q3 Ov1 (Ins.self (E_w0.ext O1.2))) (g := (mkF m 10 #[.val (.int y), .unset, .unset, .unset, .unset, .unset] [(.ref w0), (.int (0 : Int32)), (.ref b1), (.ref b1)])) rfl rfl (hb hby at_10)
  have Z3 : n0 ≤ h3.size := Nat.le_trans Z1 (Keep.of_wr W3).1
  have K3 : Keep h0 h3 [] := K1.wr W3 (Or.inr sz_b1)
  have O3 : Old Z n0 h3 := O1.wr W3 g_b1
  have N3 := Fr.snoc X3 N0 g_b1
  have V3 : Arv Z h3 b1 k1 (.object "com/example/transcript_search/transcriptsearch/fusion/FusionMethod") (13 : Int32) [(.ref w0), .null, .null, .null, .null, .null, .null, .null, .null, .null, .null, .null, .null] .null := Arv.set Ar3 q3 S3 M3 H3 G3 rfl W3 0 rfl (Nat.le_of_ble_eq_true rfl)
  obtain ⟨T4, X4, e4, st4⟩ := getS2 X3 hx hZ hown (host := "") (Or.inl (hw _ (List.mem_of_getElem? (i := 6) rfl))) Via.refl e3 (S_w1.ext O3.2) (g := (mkF m 13 #[.val (.int y), .unset, .unset, .unset, .unset, .unset] [(.int (1 : Int32)), (.ref b1), (.ref b1)])) rfl (hb hby at_13)
  obtain ⟨cl5, Ar5, q5, S5, M5, H5, G5⟩ := id V3
  have in5 : ¬ ((1 : Int32) < 0 ∨ cl5.slots.size ≤ ((1 : Int32)).toNatClampNeg) := inb_of S5 ⟨by decide, by decide⟩
  obtain ⟨T5, h5, X5, e5, W5, st5⟩ := stR X4 hx hZ e4 Ar5 (j := (1 : Int32)) in5 rfl (Sto.ofV Ar5 q5 Ov1 (Ins.self (E_w1.ext O3.2))) (g := (mkF m 16 #[.val (.int y), .unset, .unset, .unset, .unset, .unset] [(.ref w1), (.int (1 : Int32)), (.ref b1), (.ref b1)])) rfl rfl (hb hby at_16)
  have Z5 : n0 ≤ h5.size := Nat.le_trans Z3 (Keep.of_wr W5).1
  have K5 : Keep h0 h5 [] := K3.wr W5 (Or.inr sz_b1)
  have O5 : Old Z n0 h5 := O3.wr W5 g_b1
  have N5 := Fr.snoc X5 N3 g_b1
  have V5 : Arv Z h5 b1 k1 (.object "com/example/transcript_search/transcriptsearch/fusion/FusionMethod") (13 : Int32) [(.ref w0), (.ref w1), .null, .null, .null, .null, .null, .null, .null, .null, .null, .null, .null] .null := Arv.set Ar5 q5 S5 M5 H5 G5 rfl W5 1 rfl (Nat.le_of_ble_eq_true rfl)
  obtain ⟨T6, X6, e6, st6⟩ := getS2 X5 hx hZ hown (host := "") (Or.inl (hw _ (List.mem_of_getElem? (i := 8) rfl))) Via.refl e5 (S_w2.ext O5.2) (g := (mkF m 19 #[.val (.int y), .unset, .unset, .unset, .unset, .unset] [(.int (2 : Int32)), (.ref b1), (.ref b1)])) rfl (hb hby at_19)
  obtain ⟨cl7, Ar7, q7, S7, M7, H7, G7⟩ := id V5
  have in7 : ¬ ((2 : Int32) < 0 ∨ cl7.slots.size ≤ ((2 : Int32)).toNatClampNeg) := inb_of S7 ⟨by decide, by decide⟩
  obtain ⟨T7, h7, X7, e7, W7, st7⟩ := stR X6 hx hZ e6 Ar7 (j := (2 : Int32)) in7 rfl (Sto.ofV Ar7 q7 Ov1 (Ins.self (E_w2.ext O5.2))) (g := (mkF m 22 #[.val (.int y), .unset, .unset, .unset, .unset, .unset] [(.ref w2), (.int (2 : Int32)), (.ref b1), (.ref b1)])) rfl rfl (hb hby at_22)
  have Z7 : n0 ≤ h7.size := Nat.le_trans Z5 (Keep.of_wr W7).1
  have K7 : Keep h0 h7 [] := K5.wr W7 (Or.inr sz_b1)
  have O7 : Old Z n0 h7 := O5.wr W7 g_b1
  have N7 := Fr.snoc X7 N5 g_b1
  have V7 : Arv Z h7 b1 k1 (.object "com/example/transcript_search/transcriptsearch/fusion/FusionMethod") (13 : Int32) [(.ref w0), (.ref w1), (.ref w2), .null, .null, .null, .null, .null, .null, .null, .null, .null, .null] .null := Arv.set Ar7 q7 S7 M7 H7 G7 rfl W7 2 rfl (Nat.le_of_ble_eq_true rfl)
  obtain ⟨T8, X8, e8, st8⟩ := getS2 X7 hx hZ hown (host := "") (Or.inl (hw _ (List.mem_of_getElem? (i := 10) rfl))) Via.refl e7 (S_w3.ext O7.2) (g := (mkF m 25 #[.val (.int y), .unset, .unset, .unset, .unset, .unset] [(.int (3 : Int32)), (.ref b1), (.ref b1)])) rfl (hb hby at_25)
  obtain ⟨cl9, Ar9, q9, S9, M9, H9, G9⟩ := id V7
  have in9 : ¬ ((3 : Int32) < 0 ∨ cl9.slots.size ≤ ((3 : Int32)).toNatClampNeg) := inb_of S9 ⟨by decide, by decide⟩
  obtain ⟨T9, h9, X9, e9, W9, st9⟩ := stR X8 hx hZ e8 Ar9 (j := (3 : Int32)) in9 rfl (Sto.ofV Ar9 q9 Ov1 (Ins.self (E_w3.ext O7.2))) (g := (mkF m 28 #[.val (.int y), .unset, .unset, .unset, .unset, .unset] [(.ref w3), (.int (3 : Int32)), (.ref b1), (.ref b1)])) rfl rfl (hb hby at_28)
  have Z9 : n0 ≤ h9.size := Nat.le_trans Z7 (Keep.of_wr W9).1
  have K9 : Keep h0 h9 [] := K7.wr W9 (Or.inr sz_b1)
  have O9 : Old Z n0 h9 := O7.wr W9 g_b1
  have N9 := Fr.snoc X9 N7 g_b1
  have V9 : Arv Z h9 b1 k1 (.object "com/example/transcript_search/transcriptsearch/fusion/FusionMethod") (13 : Int32) [(.ref w0), (.ref w1), (.ref w2), (.ref w3), .null, .null, .null, .null, .null, .null, .null, .null, .null] .null := Arv.set Ar9 q9 S9 M9 H9 G9 rfl W9 3 rfl (Nat.le_of_ble_eq_true rfl)
  obtain ⟨T10, X10, e10, st10⟩ := getS2 X9 hx hZ hown (host := "") (Or.inl (hw _ (List.mem_of_getElem? (i := 12) rfl))) Via.refl e9 (S_w4.ext O9.2) (g := (mkF m 31 #[.val (.int y), .unset, .unset, .unset, .unset, .unset] [(.int (4 : Int32)), (.ref b1), (.ref b1)])) rfl (hb hby at_31)
  obtain ⟨cl11, Ar11, q11, S11, M11, H11, G11⟩ := id V9
  have in11 : ¬ ((4 : Int32) < 0 ∨ cl11.slots.size ≤ ((4 : Int32)).toNatClampNeg) := inb_of S11 ⟨by decide, by decide⟩
  obtain ⟨T11, h11, X11, e11, W11, st11⟩ := stR X10 hx hZ e10 Ar11 (j := (4 : Int32)) in11 rfl (Sto.ofV Ar11 q11 Ov1 (Ins.self (E_w4.ext O9.2))) (g := (mkF m 34 #[.val (.int y), .unset, .unset, .unset, .unset, .unset] [(.ref w4), (.int (4 : Int32)), (.ref b1), (.ref b1)])) rfl rfl (hb hby at_34)
  have Z11 : n0 ≤ h11.size := Nat.le_trans Z9 (Keep.of_wr W11).1
  have K11 : Keep h0 h11 [] := K9.wr W11 (Or.inr sz_b1)
  have O11 : Old Z n0 h11 := O9.wr W11 g_b1
  have N11 := Fr.snoc X11 N9 g_b1
  have V11 : Arv Z h11 b1 k1 (.object "com/example/transcript_search/transcriptsearch/fusion/FusionMethod") (13 : Int32) [(.ref w0), (.ref w1), (.ref w2), (.ref w3), (.ref w4), .null, .null, .null, .null, .null, .null, .null, .null] .null := Arv.set Ar11 q11 S11 M11 H11 G11 rfl W11 4 rfl (Nat.le_of_ble_eq_true rfl)
  obtain ⟨T12, X12, e12, st12⟩ := getS2 X11 hx hZ hown (host := "") (Or.inl (hw _ (List.mem_of_getElem? (i := 14) rfl))) Via.refl e11 (S_w5.ext O11.2) (g := (mkF m 37 #[.val (.int y), .unset, .unset, .unset, .unset, .unset] [(.int (5 : Int32)), (.ref b1), (.ref b1)])) rfl (hb hby at_37)
  obtain ⟨cl13, Ar13, q13, S13, M13, H13, G13⟩ := id V11
  have in13 : ¬ ((5 : Int32) < 0 ∨ cl13.slots.size ≤ ((5 : Int32)).toNatClampNeg) := inb_of S13 ⟨by decide, by decide⟩
  obtain ⟨T13, h13, X13, e13, W13, st13⟩ := stR X12 hx hZ e12 Ar13 (j := (5 : Int32)) in13 rfl (Sto.ofV Ar13 q13 Ov1 (Ins.self (E_w5.ext O11.2))) (g := (mkF m 40 #[.val (.int y), .unset, .unset, .unset, .unset, .unset] [(.ref w5), (.int (5 : Int32)), (.ref b1), (.ref b1)])) rfl rfl (hb hby at_40)
  have Z13 : n0 ≤ h13.size := Nat.le_trans Z11 (Keep.of_wr W13).1
  have K13 : Keep h0 h13 [] := K11.wr W13 (Or.inr sz_b1)
  have O13 : Old Z n0 h13 := O11.wr W13 g_b1
  have N13 := Fr.snoc X13 N11 g_b1
  have V13 : Arv Z h13 b1 k1 (.object "com/example/transcript_search/transcriptsearch/fusion/FusionMethod") (13 : Int32) [(.ref w0), (.ref w1), (.ref w2), (.ref w3), (.ref w4), (.ref w5), .null, .null, .null, .null, .null, .null, .null] .null := Arv.set Ar13 q13 S13 M13 H13 G13 rfl W13 5 rfl (Nat.le_of_ble_eq_true rfl)
  obtain ⟨T14, X14, e14, st14⟩ := getS2 X13 hx hZ hown (host := "") (Or.inl (hw _ (List.mem_of_getElem? (i := 16) rfl))) Via.refl e13 (S_w6.ext O13.2) (g := (mkF m 44 #[.val (.int y), .unset, .unset, .unset, .unset, .unset] [(.int (6 : Int32)), (.ref b1), (.ref b1)])) rfl (hb hby at_44)
  obtain ⟨cl15, Ar15, q15, S15, M15, H15, G15⟩ := id V13
  have in15 : ¬ ((6 : Int32) < 0 ∨ cl15.slots.size ≤ ((6 : Int32)).toNatClampNeg) := inb_of S15 ⟨by decide, by decide⟩
  obtain ⟨T15, h15, X15, e15, W15, st15⟩ := stR X14 hx hZ e14 Ar15 (j := (6 : Int32)) in15 rfl (Sto.ofV Ar15 q15 Ov1 (Ins.self (E_w6.ext O13.2))) (g := (mkF m 47 #[.val (.int y), .unset, .unset, .unset, .unset, .unset] [(.ref w6), (.int (6 : Int32)), (.ref b1), (.ref b1)])) rfl rfl (hb hby at_47)
  have Z15 : n0 ≤ h15.size := Nat.le_trans Z13 (Keep.of_wr W15).1
  have K15 : Keep h0 h15 [] := K13.wr W15 (Or.inr sz_b1)
  have O15 : Old Z n0 h15 := O13.wr W15 g_b1
  have N15 := Fr.snoc X15 N13 g_b1
  have V15 : Arv Z h15 b1 k1 (.object "com/example/transcript_search/transcriptsearch/fusion/FusionMethod") (13 : Int32) [(.ref w0), (.ref w1), (.ref w2), (.ref w3), (.ref w4), (.ref w5), (.ref w6), .null, .null, .null, .null, .null, .null] .null := Arv.set Ar15 q15 S15 M15 H15 G15 rfl W15 6 rfl (Nat.le_of_ble_eq_true rfl)
  obtain ⟨T16, X16, e16, st16⟩ := getS2 X15 hx hZ hown (host := "") (Or.inl (hw _ (List.mem_of_getElem? (i := 18) rfl))) Via.refl e15 (S_w7.ext O15.2) (g := (mkF m 51 #[.val (.int y), .unset, .unset, .unset, .unset, .unset] [(.int (7 : Int32)), (.ref b1), (.ref b1)])) rfl (hb hby at_51)
  obtain ⟨cl17, Ar17, q17, S17, M17, H17, G17⟩ := id V15
  have in17 : ¬ ((7 : Int32) < 0 ∨ cl17.slots.size ≤ ((7 : Int32)).toNatClampNeg) := inb_of S17 ⟨by decide, by decide⟩
  obtain ⟨T17, h17, X17, e17, W17, st17⟩ := stR X16 hx hZ e16 Ar17 (j := (7 : Int32)) in17 rfl (Sto.ofV Ar17 q17 Ov1 (Ins.self (E_w7.ext O15.2))) (g := (mkF m 54 #[.val (.int y), .unset, .unset, .unset, .unset, .unset] [(.ref w7), (.int (7 : Int32)), (.ref b1), (.ref b1)])) rfl rfl (hb hby at_54)
  have Z17 : n0 ≤ h17.size := Nat.le_trans Z15 (Keep.of_wr W17).1
  have K17 : Keep h0 h17 [] := K15.wr W17 (Or.inr sz_b1)
  have O17 : Old Z n0 h17 := O15.wr W17 g_b1
  have N17 := Fr.snoc X17 N15 g_b1
  have V17 : Arv Z h17 b1 k1 (.object "com/example/transcript_search/transcriptsearch/fusion/FusionMethod") (13 : Int32) [(.ref w0), (.ref w1), (.ref w2), (.ref w3), (.ref w4), (.ref w5), (.ref w6), (.ref w7), .null, .null, .null, .null, .null] .null := Arv.set Ar17 q17 S17 M17 H17 G17 rfl W17 7 rfl (Nat.le_of_ble_eq_true rfl)
  obtain ⟨T18, X18, e18, st18⟩ := getS2 X17 hx hZ hown (host := "") (Or.inl (hw _ (List.mem_of_getElem? (i := 20) rfl))) Via.refl e17 (S_w8.ext O17.2) (g := (mkF m 58 #[.val (.int y), .unset, .unset, .unset, .unset, .unset] [(.int (8 : Int32)), (.ref b1), (.ref b1)])) rfl (hb hby at_58)
  obtain ⟨cl19, Ar19, q19, S19, M19, H19, G19⟩ := id V17
  have in19 : ¬ ((8 : Int32) < 0 ∨ cl19.slots.size ≤ ((8 : Int32)).toNatClampNeg) := inb_of S19 ⟨by decide, by decide⟩
  obtain ⟨T19, h19, X19, e19, W19, st19⟩ := stR X18 hx hZ e18 Ar19 (j := (8 : Int32)) in19 rfl (Sto.ofV Ar19 q19 Ov1 (Ins.self (E_w8.ext O17.2))) (g := (mkF m 61 #[.val (.int y), .unset, .unset, .unset, .unset, .unset] [(.ref w8), (.int (8 : Int32)), (.ref b1), (.ref b1)])) rfl rfl (hb hby at_61)
  have Z19 : n0 ≤ h19.size := Nat.le_trans Z17 (Keep.of_wr W19).1
  have K19 : Keep h0 h19 [] := K17.wr W19 (Or.inr sz_b1)
  have O19 : Old Z n0 h19 := O17.wr W19 g_b1
  have N19 := Fr.snoc X19 N17 g_b1
  have V19 : Arv Z h19 b1 k1 (.object "com/example/transcript_search/transcriptsearch/fusion/FusionMethod") (13 : Int32) [(.ref w0), (.ref w1), (.ref w2), (.ref w3), (.ref w4), (.ref w5), (.ref w6), (.ref w7), (.ref w8), .null, .null, .null, .null] .null := Arv.set Ar19 q19 S19 M19 H19 G19 rfl W19 8 rfl (Nat.le_of_ble_eq_true rfl)
  obtain ⟨T20, X20, e20, st20⟩ := getS2 X19 hx hZ hown (host := "") (Or.inl (hw _ (List.mem_of_getElem? (i := 22) rfl))) Via.refl e19 (S_w9.ext O19.2) (g := (mkF m 65 #[.val (.int y), .unset, .unset, .unset, .unset, .unset] [(.int (9 : Int32)), (.ref b1), (.ref b1)])) rfl (hb hby at_65)
  obtain ⟨cl21, Ar21, q21, S21, M21, H21, G21⟩ := id V19
  have in21 : ¬ ((9 : Int32) < 0 ∨ cl21.slots.size ≤ ((9 : Int32)).toNatClampNeg) := inb_of S21 ⟨by decide, by decide⟩
  obtain ⟨T21, h21, X21, e21, W21, st21⟩ := stR X20 hx hZ e20 Ar21 (j := (9 : Int32)) in21 rfl (Sto.ofV Ar21 q21 Ov1 (Ins.self (E_w9.ext O19.2))) (g := (mkF m 68 #[.val (.int y), .unset, .unset, .unset, .unset, .unset] [(.ref w9), (.int (9 : Int32)), (.ref b1), (.ref b1)])) rfl rfl (hb hby at_68)
  have Z21 : n0 ≤ h21.size := Nat.le_trans Z19 (Keep.of_wr W21).1
  have K21 : Keep h0 h21 [] := K19.wr W21 (Or.inr sz_b1)
  have O21 : Old Z n0 h21 := O19.wr W21 g_b1
  have N21 := Fr.snoc X21 N19 g_b1
  have V21 : Arv Z h21 b1 k1 (.object "com/example/transcript_search/transcriptsearch/fusion/FusionMethod") (13 : Int32) [(.ref w0), (.ref w1), (.ref w2), (.ref w3), (.ref w4), (.ref w5), (.ref w6), (.ref w7), (.ref w8), (.ref w9), .null, .null, .null] .null := Arv.set Ar21 q21 S21 M21 H21 G21 rfl W21 9 rfl (Nat.le_of_ble_eq_true rfl)
  obtain ⟨T22, X22, e22, st22⟩ := getS2 X21 hx hZ hown (host := "") (Or.inl (hw _ (List.mem_of_getElem? (i := 24) rfl))) Via.refl e21 (S_w10.ext O21.2) (g := (mkF m 72 #[.val (.int y), .unset, .unset, .unset, .unset, .unset] [(.int (10 : Int32)), (.ref b1), (.ref b1)])) rfl (hb hby at_72)
  obtain ⟨cl23, Ar23, q23, S23, M23, H23, G23⟩ := id V21
  have in23 : ¬ ((10 : Int32) < 0 ∨ cl23.slots.size ≤ ((10 : Int32)).toNatClampNeg) := inb_of S23 ⟨by decide, by decide⟩
  obtain ⟨T23, h23, X23, e23, W23, st23⟩ := stR X22 hx hZ e22 Ar23 (j := (10 : Int32)) in23 rfl (Sto.ofV Ar23 q23 Ov1 (Ins.self (E_w10.ext O21.2))) (g := (mkF m 75 #[.val (.int y), .unset, .unset, .unset, .unset, .unset] [(.ref w10), (.int (10 : Int32)), (.ref b1), (.ref b1)])) rfl rfl (hb hby at_75)
  have Z23 : n0 ≤ h23.size := Nat.le_trans Z21 (Keep.of_wr W23).1
  have K23 : Keep h0 h23 [] := K21.wr W23 (Or.inr sz_b1)
  have O23 : Old Z n0 h23 := O21.wr W23 g_b1
  have N23 := Fr.snoc X23 N21 g_b1
  have V23 : Arv Z h23 b1 k1 (.object "com/example/transcript_search/transcriptsearch/fusion/FusionMethod") (13 : Int32) [(.ref w0), (.ref w1), (.ref w2), (.ref w3), (.ref w4), (.ref w5), (.ref w6), (.ref w7), (.ref w8), (.ref w9), (.ref w10), .null, .null] .null := Arv.set Ar23 q23 S23 M23 H23 G23 rfl W23 10 rfl (Nat.le_of_ble_eq_true rfl)
  obtain ⟨T24, X24, e24, st24⟩ := getS2 X23 hx hZ hown (host := "") (Or.inl (hw _ (List.mem_of_getElem? (i := 26) rfl))) Via.refl e23 (S_w11.ext O23.2) (g := (mkF m 79 #[.val (.int y), .unset, .unset, .unset, .unset, .unset] [(.int (11 : Int32)), (.ref b1), (.ref b1)])) rfl (hb hby at_79)
  obtain ⟨cl25, Ar25, q25, S25, M25, H25, G25⟩ := id V23
  have in25 : ¬ ((11 : Int32) < 0 ∨ cl25.slots.size ≤ ((11 : Int32)).toNatClampNeg) := inb_of S25 ⟨by decide, by decide⟩
  obtain ⟨T25, h25, X25, e25, W25, st25⟩ := stR X24 hx hZ e24 Ar25 (j := (11 : Int32)) in25 rfl (Sto.ofV Ar25 q25 Ov1 (Ins.self (E_w11.ext O23.2))) (g := (mkF m 82 #[.val (.int y), .unset, .unset, .unset, .unset, .unset] [(.ref w11), (.int (11 : Int32)), (.ref b1), (.ref b1)])) rfl rfl (hb hby at_82)
  have Z25 : n0 ≤ h25.size := Nat.le_trans Z23 (Keep.of_wr W25).1
  have K25 : Keep h0 h25 [] := K23.wr W25 (Or.inr sz_b1)
  have O25 : Old Z n0 h25 := O23.wr W25 g_b1
  have N25 := Fr.snoc X25 N23 g_b1
  have V25 : Arv Z h25 b1 k1 (.object "com/example/transcript_search/transcriptsearch/fusion/FusionMethod") (13 : Int32) [(.ref w0), (.ref w1), (.ref w2), (.ref w3), (.ref w4), (.ref w5), (.ref w6), (.ref w7), (.ref w8), (.ref w9), (.ref w10), (.ref w11), .null] .null := Arv.set Ar25 q25 S25 M25 H25 G25 rfl W25 11 rfl (Nat.le_of_ble_eq_true rfl)
  obtain ⟨T26, X26, e26, st26⟩ := getS2 X25 hx hZ hown (host := "") (Or.inl (hw _ (List.mem_of_getElem? (i := 28) rfl))) Via.refl e25 (S_w12.ext O25.2) (g := (mkF m 86 #[.val (.int y), .unset, .unset, .unset, .unset, .unset] [(.int (12 : Int32)), (.ref b1), (.ref b1)])) rfl (hb hby at_86)
  obtain ⟨cl27, Ar27, q27, S27, M27, H27, G27⟩ := id V25
  have in27 : ¬ ((12 : Int32) < 0 ∨ cl27.slots.size ≤ ((12 : Int32)).toNatClampNeg) := inb_of S27 ⟨by decide, by decide⟩
  obtain ⟨T27, h27, X27, e27, W27, st27⟩ := stR X26 hx hZ e26 Ar27 (j := (12 : Int32)) in27 rfl (Sto.ofV Ar27 q27 Ov1 (Ins.self (E_w12.ext O25.2))) (g := (mkF m 89 #[.val (.int y), .unset, .unset, .unset, .unset, .unset] [(.ref w12), (.int (12 : Int32)), (.ref b1), (.ref b1)])) rfl rfl (hb hby at_89)
  have Z27 : n0 ≤ h27.size := Nat.le_trans Z25 (Keep.of_wr W27).1
  have K27 : Keep h0 h27 [] := K25.wr W27 (Or.inr sz_b1)
  have O27 : Old Z n0 h27 := O25.wr W27 g_b1
  have N27 := Fr.snoc X27 N25 g_b1
  have V27 : Arv Z h27 b1 k1 (.object "com/example/transcript_search/transcriptsearch/fusion/FusionMethod") (13 : Int32) [(.ref w0), (.ref w1), (.ref w2), (.ref w3), (.ref w4), (.ref w5), (.ref w6), (.ref w7), (.ref w8), (.ref w9), (.ref w10), (.ref w11), (.ref w12)] .null := Arv.set Ar27 q27 S27 M27 H27 G27 rfl W27 12 rfl (Nat.le_of_ble_eq_true rfl)
  obtain ⟨T28, h28, k28, X28, e28, E28, A28, st28⟩ := newP X27 hx hZ (hw _ (List.mem_of_getElem? (i := 30) rfl)) e27 (g := (mkF m 93 #[.val (.int y), .val (.ref b1), .unset, .unset, .unset, .unset] [(.int (13 : Int32))])) rfl (hb hby at_93) rfl (by decide) (cap := 13) (by decide) (by decide) (by decide) (by decide)
  obtain ⟨b28, gg28⟩ : ∃ z, z = h27.size := ⟨_, rfl⟩
  rw [← gg28] at A28 st28
  have ne_b1_b28 : b1 ≠ b28 := Nat.ne_of_lt (Nat.lt_of_lt_of_le V27.lt (Nat.le_of_eq gg28.symm))
  have g_b28 : n0 ≤ b28 := Nat.le_trans Z27 (Nat.le_of_eq gg28.symm)
  have sz_b28 : h0.size ≤ b28 := Nat.le_trans K27.1 (Nat.le_of_eq gg28.symm)
  have Z28 : n0 ≤ h28.size := Nat.le_trans Z27 E28.1
  have K28 : Keep h0 h28 [] := K27.ext E28
  have O28 : Old Z n0 h28 := O27.ext E28
  have V28 : Arv Z h28 b28 k28 .boolean (13 : Int32) [(.int (0 : Int32)), (.int (0 : Int32)), (.int (0 : Int32)), (.int (0 : Int32)), (.int (0 : Int32)), (.int (0 : Int32)), (.int (0 : Int32)), (.int (0 : Int32)), (.int (0 : Int32)), (.int (0 : Int32)), (.int (0 : Int32)), (.int (0 : Int32)), (.int (0 : Int32))] (.int (0 : Int32)) := (Arv.new A28 (by decide)).pad (pad_rep [] (.int (0 : Int32)) 13)
  obtain ⟨cl29, Ar29, q29, S29, M29, H29, G29⟩ := id V28
  have in29 : ¬ ((0 : Int32) < 0 ∨ cl29.slots.size ≤ ((0 : Int32)).toNatClampNeg) := inb_of S29 ⟨by decide, by decide⟩
  obtain ⟨T29, h29, X29, e29, W29, st29⟩ := stZ X28 hx hZ e28 Ar29 (j := (0 : Int32)) in29 (g := (mkF m 98 #[.val (.int y), .val (.ref b1), .unset, .unset, .unset, .unset] [(.int (0 : Int32)), (.int (0 : Int32)), (.ref b28), (.ref b28)])) rfl rfl (hb hby at_98)
  have Z29 : n0 ≤ h29.size := Nat.le_trans Z28 (Keep.of_wr W29).1
  have K29 : Keep h0 h29 [] := K28.wr W29 (Or.inr sz_b28)
  have O29 : Old Z n0 h29 := O28.wr W29 g_b28
  have N29 := Fr.snoc X29 N27 g_b28
  have V29 : Arv Z h29 b28 k28 .boolean (13 : Int32) [(.int (0 : Int32)), (.int (0 : Int32)), (.int (0 : Int32)), (.int (0 : Int32)), (.int (0 : Int32)), (.int (0 : Int32)), (.int (0 : Int32)), (.int (0 : Int32)), (.int (0 : Int32)), (.int (0 : Int32)), (.int (0 : Int32)), (.int (0 : Int32)), (.int (0 : Int32))] (.int (0 : Int32)) := Arv.set Ar29 q29 S29 M29 H29 G29 (fits_nar_bool _) W29 0 rfl (Nat.le_of_ble_eq_true rfl)
  obtain ⟨cl30, Ar30, q30, S30, M30, H30, G30⟩ := id V29
  have in30 : ¬ ((1 : Int32) < 0 ∨ cl30.slots.size ≤ ((1 : Int32)).toNatClampNeg) := inb_of S30 ⟨by decide, by decide⟩
  obtain ⟨T30, h30, X30, e30, W30, st30⟩ := stZ X29 hx hZ e29 Ar30 (j := (1 : Int32)) in30 (g := (mkF m 102 #[.val (.int y), .val (.ref b1), .unset, .unset, .unset, .unset] [(.int (0 : Int32)), (.int (1 : Int32)), (.ref b28), (.ref b28)])) rfl rfl (hb hby at_102)
  have Z30 : n0 ≤ h30.size := Nat.le_trans Z29 (Keep.of_wr W30).1
  have K30 : Keep h0 h30 [] := K29.wr W30 (Or.inr sz_b28)
  have O30 : Old Z n0 h30 := O29.wr W30 g_b28
  have N30 := Fr.snoc X30 N29 g_b28
  have V30 : Arv Z h30 b28 k28 .boolean (13 : Int32) [(.int (0 : Int32)), (.int (0 : Int32)), (.int (0 : Int32)), (.int (0 : Int32)), (.int (0 : Int32)), (.int (0 : Int32)), (.int (0 : Int32)), (.int (0 : Int32)), (.int (0 : Int32)), (.int (0 : Int32)), (.int (0 : Int32)), (.int (0 : Int32)), (.int (0 : Int32))] (.int (0 : Int32)) := Arv.set Ar30 q30 S30 M30 H30 G30 (fits_nar_bool _) W30 1 rfl (Nat.le_of_ble_eq_true rfl)
  obtain ⟨cl31, Ar31, q31, S31, M31, H31, G31⟩ := id V30
  have in31 : ¬ ((2 : Int32) < 0 ∨ cl31.slots.size ≤ ((2 : Int32)).toNatClampNeg) := inb_of S31 ⟨by decide, by decide⟩
  obtain ⟨T31, h31, X31, e31, W31, st31⟩ := stZ X30 hx hZ e30 Ar31 (j := (2 : Int32)) in31 (g := (mkF m 106 #[.val (.int y), .val (.ref b1), .unset, .unset, .unset, .unset] [(.int (0 : Int32)), (.int (2 : Int32)), (.ref b28), (.ref b28)])) rfl rfl (hb hby at_106)
  have Z31 : n0 ≤ h31.size := Nat.le_trans Z30 (Keep.of_wr W31).1
  have K31 : Keep h0 h31 [] := K30.wr W31 (Or.inr sz_b28)
  have O31 : Old Z n0 h31 := O30.wr W31 g_b28
  have N31 := Fr.snoc X31 N30 g_b28
  have V31 : Arv Z h31 b28 k28 .boolean (13 : Int32) [(.int (0 : Int32)), (.int (0 : Int32)), (.int (0 : Int32)), (.int (0 : Int32)), (.int (0 : Int32)), (.int (0 : Int32)), (.int (0 : Int32)), (.int (0 : Int32)), (.int (0 : Int32)), (.int (0 : Int32)), (.int (0 : Int32)), (.int (0 : Int32)), (.int (0 : Int32))] (.int (0 : Int32)) := Arv.set Ar31 q31 S31 M31 H31 G31 (fits_nar_bool _) W31 2 rfl (Nat.le_of_ble_eq_true rfl)
  obtain ⟨cl32, Ar32, q32, S32, M32, H32, G32⟩ := id V31
  have in32 : ¬ ((3 : Int32) < 0 ∨ cl32.slots.size ≤ ((3 : Int32)).toNatClampNeg) := inb_of S32 ⟨by decide, by decide⟩
  obtain ⟨T32, h32, X32, e32, W32, st32⟩ := stZ X31 hx hZ e31 Ar32 (j := (3 : Int32)) in32 (g := (mkF m 110 #[.val (.int y), .val (.ref b1), .unset, .unset, .unset, .unset] [(.int (0 : Int32)), (.int (3 : Int32)), (.ref b28), (.ref b28)])) rfl rfl (hb hby at_110)
  have Z32 : n0 ≤ h32.size := Nat.le_trans Z31 (Keep.of_wr W32).1
  have K32 : Keep h0 h32 [] := K31.wr W32 (Or.inr sz_b28)
  have O32 : Old Z n0 h32 := O31.wr W32 g_b28
  have N32 := Fr.snoc X32 N31 g_b28
  have V32 : Arv Z h32 b28 k28 .boolean (13 : Int32) [(.int (0 : Int32)), (.int (0 : Int32)), (.int (0 : Int32)), (.int (0 : Int32)), (.int (0 : Int32)), (.int (0 : Int32)), (.int (0 : Int32)), (.int (0 : Int32)), (.int (0 : Int32)), (.int (0 : Int32)), (.int (0 : Int32)), (.int (0 : Int32)), (.int (0 : Int32))] (.int (0 : Int32)) := Arv.set Ar32 q32 S32 M32 H32 G32 (fits_nar_bool _) W32 3 rfl (Nat.le_of_ble_eq_true rfl)
  obtain ⟨cl33, Ar33, q33, S33, M33, H33, G33⟩ := id V32
  have in33 : ¬ ((4 : Int32) < 0 ∨ cl33.slots.size ≤ ((4 : Int32)).toNatClampNeg) := inb_of S33 ⟨by decide, by decide⟩
  obtain ⟨T33, h33, X33, e33, W33, st33⟩ := stZ X32 hx hZ e32 Ar33 (j := (4 : Int32)) in33 (g := (mkF m 114 #[.val (.int y), .val (.ref b1), .unset, .unset, .unset, .unset] [(.int (0 : Int32)), (.int (4 : Int32)), (.ref b28), (.ref b28)])) rfl rfl (hb hby at_114)
  have Z33 : n0 ≤ h33.size := Nat.le_trans Z32 (Keep.of_wr W33).1
  have K33 : Keep h0 h33 [] := K32.wr W33 (Or.inr sz_b28)
  have O33 : Old Z n0 h33 := O32.wr W33 g_b28
  have N33 := Fr.snoc X33 N32 g_b28
  have V33 : Arv Z h33 b28 k28 .boolean (13 : Int32) [(.int (0 : Int32)), (.int (0 : Int32)), (.int (0 : Int32)), (.int (0 : Int32)), (.int (0 : Int32)), (.int (0 : Int32)), (.int (0 : Int32)), (.int (0 : Int32)), (.int (0 : Int32)), (.int (0 : Int32)), (.int (0 : Int32)), (.int (0 : Int32)), (.int (0 : Int32))] (.int (0 : Int32)) := Arv.set Ar33 q33 S33 M33 H33 G33 (fits_nar_bool _) W33 4 rfl (Nat.le_of_ble_eq_true rfl)
  obtain ⟨cl34, Ar34, q34, S34, M34, H34, G34⟩ := id V33
  have in34 : ¬ ((5 : Int32) < 0 ∨ cl34.slots.size ≤ ((5 : Int32)).toNatClampNeg) := inb_of S34 ⟨by decide, by decide⟩
  obtain ⟨T34, h34, X34, e34, W34, st34⟩ := stZ X33 hx hZ e33 Ar34 (j := (5 : Int32)) in34 (g := (mkF m 118 #[.val (.int y), .val (.ref b1), .unset, .unset, .unset, .unset] [(.int (0 : Int32)), (.int (5 : Int32)), (.ref b28), (.ref b28)])) rfl rfl (hb hby at_118)
  have Z34 : n0 ≤ h34.size := Nat.le_trans Z33 (Keep.of_wr W34).1
  have K34 : Keep h0 h34 [] := K33.wr W34 (Or.inr sz_b28)
  have O34 : Old Z n0 h34 := O33.wr W34 g_b28
  have N34 := Fr.snoc X34 N33 g_b28
  have V34 : Arv Z h34 b28 k28 .boolean (13 : Int32) [(.int (0 : Int32)), (.int (0 : Int32)), (.int (0 : Int32)), (.int (0 : Int32)), (.int (0 : Int32)), (.int (0 : Int32)), (.int (0 : Int32)), (.int (0 : Int32)), (.int (0 : Int32)), (.int (0 : Int32)), (.int (0 : Int32)), (.int (0 : Int32)), (.int (0 : Int32))] (.int (0 : Int32)) := Arv.set Ar34 q34 S34 M34 H34 G34 (fits_nar_bool _) W34 5 rfl (Nat.le_of_ble_eq_true rfl)
  obtain ⟨cl35, Ar35, q35, S35, M35, H35, G35⟩ := id V34
  have in35 : ¬ ((6 : Int32) < 0 ∨ cl35.slots.size ≤ ((6 : Int32)).toNatClampNeg) := inb_of S35 ⟨by decide, by decide⟩
  obtain ⟨T35, h35, X35, e35, W35, st35⟩ := stZ X34 hx hZ e34 Ar35 (j := (6 : Int32)) in35 (g := (mkF m 123 #[.val (.int y), .val (.ref b1), .unset, .unset, .unset, .unset] [(.int (0 : Int32)), (.int (6 : Int32)), (.ref b28), (.ref b28)])) rfl rfl (hb hby at_123)
  have Z35 : n0 ≤ h35.size := Nat.le_trans Z34 (Keep.of_wr W35).1
  have K35 : Keep h0 h35 [] := K34.wr W35 (Or.inr sz_b28)
  have O35 : Old Z n0 h35 := O34.wr W35 g_b28
  have N35 := Fr.snoc X35 N34 g_b28
  have V35 : Arv Z h35 b28 k28 .boolean (13 : Int32) [(.int (0 : Int32)), (.int (0 : Int32)), (.int (0 : Int32)), (.int (0 : Int32)), (.int (0 : Int32)), (.int (0 : Int32)), (.int (0 : Int32)), (.int (0 : Int32)), (.int (0 : Int32)), (.int (0 : Int32)), (.int (0 : Int32)), (.int (0 : Int32)), (.int (0 : Int32))] (.int (0 : Int32)) := Arv.set Ar35 q35 S35 M35 H35 G35 (fits_nar_bool _) W35 6 rfl (Nat.le_of_ble_eq_true rfl)
  obtain ⟨cl36, Ar36, q36, S36, M36, H36, G36⟩ := id V35
  have in36 : ¬ ((7 : Int32) < 0 ∨ cl36.slots.size ≤ ((7 : Int32)).toNatClampNeg) := inb_of S36 ⟨by decide, by decide⟩
  obtain ⟨T36, h36, X36, e36, W36, st36⟩ := stZ X35 hx hZ e35 Ar36 (j := (7 : Int32)) in36 (g := (mkF m 128 #[.val (.int y), .val (.ref b1), .unset, .unset, .unset, .unset] [(.int (0 : Int32)), (.int (7 : Int32)), (.ref b28), (.ref b28)])) rfl rfl (hb hby at_128)
  have Z36 : n0 ≤ h36.size := Nat.le_trans Z35 (Keep.of_wr W36).1
  have K36 : Keep h0 h36 [] := K35.wr W36 (Or.inr sz_b28)
  have O36 : Old Z n0 h36 := O35.wr W36 g_b28
  have N36 := Fr.snoc X36 N35 g_b28
  have V36 : Arv Z h36 b28 k28 .boolean (13 : Int32) [(.int (0 : Int32)), (.int (0 : Int32)), (.int (0 : Int32)), (.int (0 : Int32)), (.int (0 : Int32)), (.int (0 : Int32)), (.int (0 : Int32)), (.int (0 : Int32)), (.int (0 : Int32)), (.int (0 : Int32)), (.int (0 : Int32)), (.int (0 : Int32)), (.int (0 : Int32))] (.int (0 : Int32)) := Arv.set Ar36 q36 S36 M36 H36 G36 (fits_nar_bool _) W36 7 rfl (Nat.le_of_ble_eq_true rfl)
  obtain ⟨cl37, Ar37, q37, S37, M37, H37, G37⟩ := id V36
  have in37 : ¬ ((8 : Int32) < 0 ∨ cl37.slots.size ≤ ((8 : Int32)).toNatClampNeg) := inb_of S37 ⟨by decide, by decide⟩
  obtain ⟨T37, h37, X37, e37, W37, st37⟩ := stZ X36 hx hZ e36 Ar37 (j := (8 : Int32)) in37 (g := (mkF m 133 #[.val (.int y), .val (.ref b1), .unset, .unset, .unset, .unset] [(.int (0 : Int32)), (.int (8 : Int32)), (.ref b28), (.ref b28)])) rfl rfl (hb hby at_133)
  have Z37 : n0 ≤ h37.size := Nat.le_trans Z36 (Keep.of_wr W37).1
  have K37 : Keep h0 h37 [] := K36.wr W37 (Or.inr sz_b28)
  have O37 : Old Z n0 h37 := O36.wr W37 g_b28
  have N37 := Fr.snoc X37 N36 g_b28
  have V37 : Arv Z h37 b28 k28 .boolean (13 : Int32) [(.int (0 : Int32)), (.int (0 : Int32)), (.int (0 : Int32)), (.int (0 : Int32)), (.int (0 : Int32)), (.int (0 : Int32)), (.int (0 : Int32)), (.int (0 : Int32)), (.int (0 : Int32)), (.int (0 : Int32)), (.int (0 : Int32)), (.int (0 : Int32)), (.int (0 : Int32))] (.int (0 : Int32)) := Arv.set Ar37 q37 S37 M37 H37 G37 (fits_nar_bool _) W37 8 rfl (Nat.le_of_ble_eq_true rfl)
  obtain ⟨cl38, Ar38, q38, S38, M38, H38, G38⟩ := id V37
  have in38 : ¬ ((9 : Int32) < 0 ∨ cl38.slots.size ≤ ((9 : Int32)).toNatClampNeg) := inb_of S38 ⟨by decide, by decide⟩
  obtain ⟨T38, h38, X38, e38, W38, st38⟩ := stZ X37 hx hZ e37 Ar38 (j := (9 : Int32)) in38 (g := (mkF m 138 #[.val (.int y), .val (.ref b1), .unset, .unset, .unset, .unset] [(.int (0 : Int32)), (.int (9 : Int32)), (.ref b28), (.ref b28)])) rfl rfl (hb hby at_138)
  have Z38 : n0 ≤ h38.size := Nat.le_trans Z37 (Keep.of_wr W38).1
  have K38 : Keep h0 h38 [] := K37.wr W38 (Or.inr sz_b28)
  have O38 : Old Z n0 h38 := O37.wr W38 g_b28
  have N38 := Fr.snoc X38 N37 g_b28
  have V38 : Arv Z h38 b28 k28 .boolean (13 : Int32) [(.int (0 : Int32)), (.int (0 : Int32)), (.int (0 : Int32)), (.int (0 : Int32)), (.int (0 : Int32)), (.int (0 : Int32)), (.int (0 : Int32)), (.int (0 : Int32)), (.int (0 : Int32)), (.int (0 : Int32)), (.int (0 : Int32)), (.int (0 : Int32)), (.int (0 : Int32))] (.int (0 : Int32)) := Arv.set Ar38 q38 S38 M38 H38 G38 (fits_nar_bool _) W38 9 rfl (Nat.le_of_ble_eq_true rfl)
  obtain ⟨cl39, Ar39, q39, S39, M39, H39, G39⟩ := id V38
  have in39 : ¬ ((10 : Int32) < 0 ∨ cl39.slots.size ≤ ((10 : Int32)).toNatClampNeg) := inb_of S39 ⟨by decide, by decide⟩
  obtain ⟨T39, h39, X39, e39, W39, st39⟩ := stZ X38 hx hZ e38 Ar39 (j := (10 : Int32)) in39 (g := (mkF m 143 #[.val (.int y), .val (.ref b1), .unset, .unset, .unset, .unset] [(.int (1 : Int32)), (.int (10 : Int32)), (.ref b28), (.ref b28)])) rfl rfl (hb hby at_143)
  have Z39 : n0 ≤ h39.size := Nat.le_trans Z38 (Keep.of_wr W39).1
  have K39 : Keep h0 h39 [] := K38.wr W39 (Or.inr sz_b28)
  have O39 : Old Z n0 h39 := O38.wr W39 g_b28
  have N39 := Fr.snoc X39 N38 g_b28
  have V39 : Arv Z h39 b28 k28 .boolean (13 : Int32) [(.int (0 : Int32)), (.int (0 : Int32)), (.int (0 : Int32)), (.int (0 : Int32)), (.int (0 : Int32)), (.int (0 : Int32)), (.int (0 : Int32)), (.int (0 : Int32)), (.int (0 : Int32)), (.int (0 : Int32)), (.int (1 : Int32)), (.int (0 : Int32)), (.int (0 : Int32))] (.int (0 : Int32)) := Arv.set Ar39 q39 S39 M39 H39 G39 (fits_nar_bool _) W39 10 rfl (Nat.le_of_ble_eq_true rfl)
  obtain ⟨cl40, Ar40, q40, S40, M40, H40, G40⟩ := id V39
  have in40 : ¬ ((11 : Int32) < 0 ∨ cl40.slots.size ≤ ((11 : Int32)).toNatClampNeg) := inb_of S40 ⟨by decide, by decide⟩
  obtain ⟨T40, h40, X40, e40, W40, st40⟩ := stZ X39 hx hZ e39 Ar40 (j := (11 : Int32)) in40 (g := (mkF m 148 #[.val (.int y), .val (.ref b1), .unset, .unset, .unset, .unset] [(.int (1 : Int32)), (.int (11 : Int32)), (.ref b28), (.ref b28)])) rfl rfl (hb hby at_148)
  have Z40 : n0 ≤ h40.size := Nat.le_trans Z39 (Keep.of_wr W40).1
  have K40 : Keep h0 h40 [] := K39.wr W40 (Or.inr sz_b28)
  have O40 : Old Z n0 h40 := O39.wr W40 g_b28
  have N40 := Fr.snoc X40 N39 g_b28
  have V40 : Arv Z h40 b28 k28 .boolean (13 : Int32) [(.int (0 : Int32)), (.int (0 : Int32)), (.int (0 : Int32)), (.int (0 : Int32)), (.int (0 : Int32)), (.int (0 : Int32)), (.int (0 : Int32)), (.int (0 : Int32)), (.int (0 : Int32)), (.int (0 : Int32)), (.int (1 : Int32)), (.int (1 : Int32)), (.int (0 : Int32))] (.int (0 : Int32)) := Arv.set Ar40 q40 S40 M40 H40 G40 (fits_nar_bool _) W40 11 rfl (Nat.le_of_ble_eq_true rfl)
  obtain ⟨cl41, Ar41, q41, S41, M41, H41, G41⟩ := id V40
  have in41 : ¬ ((12 : Int32) < 0 ∨ cl41.slots.size ≤ ((12 : Int32)).toNatClampNeg) := inb_of S41 ⟨by decide, by decide⟩
  obtain ⟨T41, h41, X41, e41, W41, st41⟩ := stZ X40 hx hZ e40 Ar41 (j := (12 : Int32)) in41 (g := (mkF m 153 #[.val (.int y), .val (.ref b1), .unset, .unset, .unset, .unset] [(.int (0 : Int32)), (.int (12 : Int32)), (.ref b28), (.ref b28)])) rfl rfl (hb hby at_153)
  have Z41 : n0 ≤ h41.size := Nat.le_trans Z40 (Keep.of_wr W41).1
  have K41 : Keep h0 h41 [] := K40.wr W41 (Or.inr sz_b28)
  have O41 : Old Z n0 h41 := O40.wr W41 g_b28
  have N41 := Fr.snoc X41 N40 g_b28
  have V41 : Arv Z h41 b28 k28 .boolean (13 : Int32) [(.int (0 : Int32)), (.int (0 : Int32)), (.int (0 : Int32)), (.int (0 : Int32)), (.int (0 : Int32)), (.int (0 : Int32)), (.int (0 : Int32)), (.int (0 : Int32)), (.int (0 : Int32)), (.int (0 : Int32)), (.int (1 : Int32)), (.int (1 : Int32)), (.int (0 : Int32))] (.int (0 : Int32)) := Arv.set Ar41 q41 S41 M41 H41 G41 (fits_nar_bool _) W41 12 rfl (Nat.le_of_ble_eq_true rfl)
  have R42 : ∀ t, Steps p.tables e below (T41.setTop (mkF m 165 #[.val (.int y), .val (.ref b1), .val (.ref b28), .val (.int ((y &&& (2147483647 : Int32)) % (13 : Int32))), .unset, .unset] [(.int ((y &&& (2147483647 : Int32)) % (13 : Int32))), (.ref b1)])) t → Steps p.tables e below (s₁.setTop (entryFrame m #[(.int y)] maxLocals)) t := by
    intro t k
    refine R0 t ?_
    show Steps p.tables e below (s₁.setTop (mkF m 0 #[.val (.int y), .unset, .unset, .unset, .unset, .unset] [])) t
    refine XS.bipush X0.here hx rfl (hb hby at_0) ?_
    show Steps p.tables e below (s₁.setTop (mkF m 2 #[.val (.int y), .unset, .unset, .unset, .unset, .unset] [(.int (13 : Int32))])) t
    refine st1 _ ?_
    show Steps p.tables e below (T1.setTop (mkF m 5 #[.val (.int y), .unset, .unset, .unset, .unset, .unset] [(.ref b1)])) t
    refine XS.dup X1.here hx rfl (hb hby at_5) rfl rfl ?_
    show Steps p.tables e below (T1.setTop (mkF m 6 #[.val (.int y), .unset, .unset, .unset, .unset, .unset] [(.ref b1), (.ref b1)])) t
    refine XS.iconst X1.here hx rfl (hb hby at_6) ?_
    show Steps p.tables e below (T1.setTop (mkF m 7 #[.val (.int y), .unset, .unset, .unset, .unset, .unset] [(.int (0 : Int32)), (.ref b1), (.ref b1)])) t
    refine st2 _ ?_
    show Steps p.tables e below (T2.setTop (mkF m 10 #[.val (.int y), .unset, .unset, .unset, .unset, .unset] [(.ref w0), (.int (0 : Int32)), (.ref b1), (.ref b1)])) t
    refine st3 _ ?_
    show Steps p.tables e below (T3.setTop (mkF m 11 #[.val (.int y), .unset, .unset, .unset, .unset, .unset] [(.ref b1)])) t
    refine XS.dup X3.here hx rfl (hb hby at_11) rfl rfl ?_
    show Steps p.tables e below (T3.setTop (mkF m 12 #[.val (.int y), .unset, .unset, .unset, .unset, .unset] [(.ref b1), (.ref b1)])) t
    refine XS.iconst X3.here hx rfl (hb hby at_12) ?_
    show Steps p.tables e below (T3.setTop (mkF m 13 #[.val (.int y), .unset, .unset, .unset, .unset, .unset] [(.int (1 : Int32)), (.ref b1), (.ref b1)])) t
    refine st4 _ ?_
    show Steps p.tables e below (T4.setTop (mkF m 16 #[.val (.int y), .unset, .unset, .unset, .unset, .unset] [(.ref w1), (.int (1 : Int32)), (.ref b1), (.ref b1)])) t
    refine st5 _ ?_
    show Steps p.tables e below (T5.setTop (mkF m 17 #[.val (.int y), .unset, .unset, .unset, .unset, .unset] [(.ref b1)])) t
    refine XS.dup X5.here hx rfl (hb hby at_17) rfl rfl ?_
    show Steps p.tables e below (T5.setTop (mkF m 18 #[.val (.int y), .unset, .unset, .unset, .unset, .unset] [(.ref b1), (.ref b1)])) t
    refine XS.iconst X5.here hx rfl (hb hby at_18) ?_
    show Steps p.tables e below (T5.setTop (mkF m 19 #[.val (.int y), .unset, .unset, .unset, .unset, .unset] [(.int (2 : Int32)), (.ref b1), (.ref b1)])) t
    refine st6 _ ?_
    show Steps p.tables e below (T6.setTop (mkF m 22 #[.val (.int y), .unset, .unset, .unset, .unset, .unset] [(.ref w2), (.int (2 : Int32)), (.ref b1), (.ref b1)])) t
    refine st7 _ ?_
    show Steps p.tables e below (T7.setTop (mkF m 23 #[.val (.int y), .unset, .unset, .unset, .unset, .unset] [(.ref b1)])) t
    refine XS.dup X7.here hx rfl (hb hby at_23) rfl rfl ?_
    show Steps p.tables e below (T7.setTop (mkF m 24 #[.val (.int y), .unset, .unset, .unset, .unset, .unset] [(.ref b1), (.ref b1)])) t
    refine XS.iconst X7.here hx rfl (hb hby at_24) ?_
    show Steps p.tables e below (T7.setTop (mkF m 25 #[.val (.int y), .unset, .unset, .unset, .unset, .unset] [(.int (3 : Int32)), (.ref b1), (.ref b1)])) t
    refine st8 _ ?_
    show Steps p.tables e below (T8.setTop (mkF m 28 #[.val (.int y), .unset, .unset, .unset, .unset, .unset] [(.ref w3), (.int (3 : Int32)), (.ref b1), (.ref b1)])) t
    refine st9 _ ?_
    show Steps p.tables e below (T9.setTop (mkF m 29 #[.val (.int y), .unset, .unset, .unset, .unset, .unset] [(.ref b1)])) t
    refine XS.dup X9.here hx rfl (hb hby at_29) rfl rfl ?_
    show Steps p.tables e below (T9.setTop (mkF m 30 #[.val (.int y), .unset, .unset, .unset, .unset, .unset] [(.ref b1), (.ref b1)])) t
    refine XS.iconst X9.here hx rfl (hb hby at_30) ?_
    show Steps p.tables e below (T9.setTop (mkF m 31 #[.val (.int y), .unset, .unset, .unset, .unset, .unset] [(.int (4 : Int32)), (.ref b1), (.ref b1)])) t
    refine st10 _ ?_
    show Steps p.tables e below (T10.setTop (mkF m 34 #[.val (.int y), .unset, .unset, .unset, .unset, .unset] [(.ref w4), (.int (4 : Int32)), (.ref b1), (.ref b1)])) t
    refine st11 _ ?_
    show Steps p.tables e below (T11.setTop (mkF m 35 #[.val (.int y), .unset, .unset, .unset, .unset, .unset] [(.ref b1)])) t
    refine XS.dup X11.here hx rfl (hb hby at_35) rfl rfl ?_
    show Steps p.tables e below (T11.setTop (mkF m 36 #[.val (.int y), .unset, .unset, .unset, .unset, .unset] [(.ref b1), (.ref b1)])) t
    refine XS.iconst X11.here hx rfl (hb hby at_36) ?_
    show Steps p.tables e below (T11.setTop (mkF m 37 #[.val (.int y), .unset, .unset, .unset, .unset, .unset] [(.int (5 : Int32)), (.ref b1), (.ref b1)])) t
    refine st12 _ ?_
    show Steps p.tables e below (T12.setTop (mkF m 40 #[.val (.int y), .unset, .unset, .unset, .unset, .unset] [(.ref w5), (.int (5 : Int32)), (.ref b1), (.ref b1)])) t
    refine st13 _ ?_
    show Steps p.tables e below (T13.setTop (mkF m 41 #[.val (.int y), .unset, .unset, .unset, .unset, .unset] [(.ref b1)])) t
    refine XS.dup X13.here hx rfl (hb hby at_41) rfl rfl ?_
    show Steps p.tables e below (T13.setTop (mkF m 42 #[.val (.int y), .unset, .unset, .unset, .unset, .unset] [(.ref b1), (.ref b1)])) t
    refine XS.bipush X13.here hx rfl (hb hby at_42) ?_
    show Steps p.tables e below (T13.setTop (mkF m 44 #[.val (.int y), .unset, .unset, .unset, .unset, .unset] [(.int (6 : Int32)), (.ref b1), (.ref b1)])) t
    refine st14 _ ?_
    show Steps p.tables e below (T14.setTop (mkF m 47 #[.val (.int y), .unset, .unset, .unset, .unset, .unset] [(.ref w6), (.int (6 : Int32)), (.ref b1), (.ref b1)])) t
    refine st15 _ ?_
    show Steps p.tables e below (T15.setTop (mkF m 48 #[.val (.int y), .unset, .unset, .unset, .unset, .unset] [(.ref b1)])) t
    refine XS.dup X15.here hx rfl (hb hby at_48) rfl rfl ?_
    show Steps p.tables e below (T15.setTop (mkF m 49 #[.val (.int y), .unset, .unset, .unset, .unset, .unset] [(.ref b1), (.ref b1)])) t
    refine XS.bipush X15.here hx rfl (hb hby at_49) ?_
    show Steps p.tables e below (T15.setTop (mkF m 51 #[.val (.int y), .unset, .unset, .unset, .unset, .unset] [(.int (7 : Int32)), (.ref b1), (.ref b1)])) t
    refine st16 _ ?_
    show Steps p.tables e below (T16.setTop (mkF m 54 #[.val (.int y), .unset, .unset, .unset, .unset, .unset] [(.ref w7), (.int (7 : Int32)), (.ref b1), (.ref b1)])) t
    refine st17 _ ?_
    show Steps p.tables e below (T17.setTop (mkF m 55 #[.val (.int y), .unset, .unset, .unset, .unset, .unset] [(.ref b1)])) t
    refine XS.dup X17.here hx rfl (hb hby at_55) rfl rfl ?_
    show Steps p.tables e below (T17.setTop (mkF m 56 #[.val (.int y), .unset, .unset, .unset, .unset, .unset] [(.ref b1), (.ref b1)])) t
    refine XS.bipush X17.here hx rfl (hb hby at_56) ?_
    show Steps p.tables e below (T17.setTop (mkF m 58 #[.val (.int y), .unset, .unset, .unset, .unset, .unset] [(.int (8 : Int32)), (.ref b1), (.ref b1)])) t
    refine st18 _ ?_
    show Steps p.tables e below (T18.setTop (mkF m 61 #[.val (.int y), .unset, .unset, .unset, .unset, .unset] [(.ref w8), (.int (8 : Int32)), (.ref b1), (.ref b1)])) t
    refine st19 _ ?_
    show Steps p.tables e below (T19.setTop (mkF m 62 #[.val (.int y), .unset, .unset, .unset, .unset, .unset] [(.ref b1)])) t
    refine XS.dup X19.here hx rfl (hb hby at_62) rfl rfl ?_
    show Steps p.tables e below (T19.setTop (mkF m 63 #[.val (.int y), .unset, .unset, .unset, .unset, .unset] [(.ref b1), (.ref b1)])) t
    refine XS.bipush X19.here hx rfl (hb hby at_63) ?_
    show Steps p.tables e below (T19.setTop (mkF m 65 #[.val (.int y), .unset, .unset, .unset, .unset, .unset] [(.int (9 : Int32)), (.ref b1), (.ref b1)])) t
    refine st20 _ ?_
    show Steps p.tables e below (T20.setTop (mkF m 68 #[.val (.int y), .unset, .unset, .unset, .unset, .unset] [(.ref w9), (.int (9 : Int32)), (.ref b1), (.ref b1)])) t
    refine st21 _ ?_
    show Steps p.tables e below (T21.setTop (mkF m 69 #[.val (.int y), .unset, .unset, .unset, .unset, .unset] [(.ref b1)])) t
    refine XS.dup X21.here hx rfl (hb hby at_69) rfl rfl ?_
    show Steps p.tables e below (T21.setTop (mkF m 70 #[.val (.int y), .unset, .unset, .unset, .unset, .unset] [(.ref b1), (.ref b1)])) t
    refine XS.bipush X21.here hx rfl (hb hby at_70) ?_
    show Steps p.tables e below (T21.setTop (mkF m 72 #[.val (.int y), .unset, .unset, .unset, .unset, .unset] [(.int (10 : Int32)), (.ref b1), (.ref b1)])) t
    refine st22 _ ?_
    show Steps p.tables e below (T22.setTop (mkF m 75 #[.val (.int y), .unset, .unset, .unset, .unset, .unset] [(.ref w10), (.int (10 : Int32)), (.ref b1), (.ref b1)])) t
    refine st23 _ ?_
    show Steps p.tables e below (T23.setTop (mkF m 76 #[.val (.int y), .unset, .unset, .unset, .unset, .unset] [(.ref b1)])) t
    refine XS.dup X23.here hx rfl (hb hby at_76) rfl rfl ?_
    show Steps p.tables e below (T23.setTop (mkF m 77 #[.val (.int y), .unset, .unset, .unset, .unset, .unset] [(.ref b1), (.ref b1)])) t
    refine XS.bipush X23.here hx rfl (hb hby at_77) ?_
    show Steps p.tables e below (T23.setTop (mkF m 79 #[.val (.int y), .unset, .unset, .unset, .unset, .unset] [(.int (11 : Int32)), (.ref b1), (.ref b1)])) t
    refine st24 _ ?_
    show Steps p.tables e below (T24.setTop (mkF m 82 #[.val (.int y), .unset, .unset, .unset, .unset, .unset] [(.ref w11), (.int (11 : Int32)), (.ref b1), (.ref b1)])) t
    refine st25 _ ?_
    show Steps p.tables e below (T25.setTop (mkF m 83 #[.val (.int y), .unset, .unset, .unset, .unset, .unset] [(.ref b1)])) t
    refine XS.dup X25.here hx rfl (hb hby at_83) rfl rfl ?_
    show Steps p.tables e below (T25.setTop (mkF m 84 #[.val (.int y), .unset, .unset, .unset, .unset, .unset] [(.ref b1), (.ref b1)])) t
    refine XS.bipush X25.here hx rfl (hb hby at_84) ?_
    show Steps p.tables e below (T25.setTop (mkF m 86 #[.val (.int y), .unset, .unset, .unset, .unset, .unset] [(.int (12 : Int32)), (.ref b1), (.ref b1)])) t
    refine st26 _ ?_
    show Steps p.tables e below (T26.setTop (mkF m 89 #[.val (.int y), .unset, .unset, .unset, .unset, .unset] [(.ref w12), (.int (12 : Int32)), (.ref b1), (.ref b1)])) t
    refine st27 _ ?_
    show Steps p.tables e below (T27.setTop (mkF m 90 #[.val (.int y), .unset, .unset, .unset, .unset, .unset] [(.ref b1)])) t
    refine XS.astoreN X27.here hx rfl (hb hby at_90) rfl rfl (l' := #[.val (.int y), .val (.ref b1), .unset, .unset, .unset, .unset]) rfl ?_
    show Steps p.tables e below (T27.setTop (mkF m 91 #[.val (.int y), .val (.ref b1), .unset, .unset, .unset, .unset] [])) t
    refine XS.bipush X27.here hx rfl (hb hby at_91) ?_
    show Steps p.tables e below (T27.setTop (mkF m 93 #[.val (.int y), .val (.ref b1), .unset, .unset, .unset, .unset] [(.int (13 : Int32))])) t
    refine st28 _ ?_
    show Steps p.tables e below (T28.setTop (mkF m 95 #[.val (.int y), .val (.ref b1), .unset, .unset, .unset, .unset] [(.ref b28)])) t
    refine XS.dup X28.here hx rfl (hb hby at_95) rfl rfl ?_
    show Steps p.tables e below (T28.setTop (mkF m 96 #[.val (.int y), .val (.ref b1), .unset, .unset, .unset, .unset] [(.ref b28), (.ref b28)])) t
    refine XS.iconst X28.here hx rfl (hb hby at_96) ?_
    show Steps p.tables e below (T28.setTop (mkF m 97 #[.val (.int y), .val (.ref b1), .unset, .unset, .unset, .unset] [(.int (0 : Int32)), (.ref b28), (.ref b28)])) t
    refine XS.iconst X28.here hx rfl (hb hby at_97) ?_
    show Steps p.tables e below (T28.setTop (mkF m 98 #[.val (.int y), .val (.ref b1), .unset, .unset, .unset, .unset] [(.int (0 : Int32)), (.int (0 : Int32)), (.ref b28), (.ref b28)])) t
    refine st29 _ ?_
    show Steps p.tables e below (T29.setTop (mkF m 99 #[.val (.int y), .val (.ref b1), .unset, .unset, .unset, .unset] [(.ref b28)])) t
    refine XS.dup X29.here hx rfl (hb hby at_99) rfl rfl ?_
    show Steps p.tables e below (T29.setTop (mkF m 100 #[.val (.int y), .val (.ref b1), .unset, .unset, .unset, .unset] [(.ref b28), (.ref b28)])) t
    refine XS.iconst X29.here hx rfl (hb hby at_100) ?_
    show Steps p.tables e below (T29.setTop (mkF m 101 #[.val (.int y), .val (.ref b1), .unset, .unset, .unset, .unset] [(.int (1 : Int32)), (.ref b28), (.ref b28)])) t
    refine XS.iconst X29.here hx rfl (hb hby at_101) ?_
    show Steps p.tables e below (T29.setTop (mkF m 102 #[.val (.int y), .val (.ref b1), .unset, .unset, .unset, .unset] [(.int (0 : Int32)), (.int (1 : Int32)), (.ref b28), (.ref b28)])) t
    refine st30 _ ?_
    show Steps p.tables e below (T30.setTop (mkF m 103 #[.val (.int y), .val (.ref b1), .unset, .unset, .unset, .unset] [(.ref b28)])) t
    refine XS.dup X30.here hx rfl (hb hby at_103) rfl rfl ?_
    show Steps p.tables e below (T30.setTop (mkF m 104 #[.val (.int y), .val (.ref b1), .unset, .unset, .unset, .unset] [(.ref b28), (.ref b28)])) t
    refine XS.iconst X30.here hx rfl (hb hby at_104) ?_
    show Steps p.tables e below (T30.setTop (mkF m 105 #[.val (.int y), .val (.ref b1), .unset, .unset, .unset, .unset] [(.int (2 : Int32)), (.ref b28), (.ref b28)])) t
    refine XS.iconst X30.here hx rfl (hb hby at_105) ?_
    show Steps p.tables e below (T30.setTop (mkF m 106 #[.val (.int y), .val (.ref b1), .unset, .unset, .unset, .unset] [(.int (0 : Int32)), (.int (2 : Int32)), (.ref b28), (.ref b28)])) t
    refine st31 _ ?_
    show Steps p.tables e below (T31.setTop (mkF m 107 #[.val (.int y), .val (.ref b1), .unset, .unset, .unset, .unset] [(.ref b28)])) t
    refine XS.dup X31.here hx rfl (hb hby at_107) rfl rfl ?_
    show Steps p.tables e below (T31.setTop (mkF m 108 #[.val (.int y), .val (.ref b1), .unset, .unset, .unset, .unset] [(.ref b28), (.ref b28)])) t
    refine XS.iconst X31.here hx rfl (hb hby at_108) ?_
    show Steps p.tables e below (T31.setTop (mkF m 109 #[.val (.int y), .val (.ref b1), .unset, .unset, .unset, .unset] [(.int (3 : Int32)), (.ref b28), (.ref b28)])) t
    refine XS.iconst X31.here hx rfl (hb hby at_109) ?_
    show Steps p.tables e below (T31.setTop (mkF m 110 #[.val (.int y), .val (.ref b1), .unset, .unset, .unset, .unset] [(.int (0 : Int32)), (.int (3 : Int32)), (.ref b28), (.ref b28)])) t
    refine st32 _ ?_
    show Steps p.tables e below (T32.setTop (mkF m 111 #[.val (.int y), .val (.ref b1), .unset, .unset, .unset, .unset] [(.ref b28)])) t
    refine XS.dup X32.here hx rfl (hb hby at_111) rfl rfl ?_
    show Steps p.tables e below (T32.setTop (mkF m 112 #[.val (.int y), .val (.ref b1), .unset, .unset, .unset, .unset] [(.ref b28), (.ref b28)])) t
    refine XS.iconst X32.here hx rfl (hb hby at_112) ?_
    show Steps p.tables e below (T32.setTop (mkF m 113 #[.val (.int y), .val (.ref b1), .unset, .unset, .unset, .unset] [(.int (4 : Int32)), (.ref b28), (.ref b28)])) t
    refine XS.iconst X32.here hx rfl (hb hby at_113) ?_
    show Steps p.tables e below (T32.setTop (mkF m 114 #[.val (.int y), .val (.ref b1), .unset, .unset, .unset, .unset] [(.int (0 : Int32)), (.int (4 : Int32)), (.ref b28), (.ref b28)])) t
    refine st33 _ ?_
    show Steps p.tables e below (T33.setTop (mkF m 115 #[.val (.int y), .val (.ref b1), .unset, .unset, .unset, .unset] [(.ref b28)])) t
    refine XS.dup X33.here hx rfl (hb hby at_115) rfl rfl ?_
    show Steps p.tables e below (T33.setTop (mkF m 116 #[.val (.int y), .val (.ref b1), .unset, .unset, .unset, .unset] [(.ref b28), (.ref b28)])) t
    refine XS.iconst X33.here hx rfl (hb hby at_116) ?_
    show Steps p.tables e below (T33.setTop (mkF m 117 #[.val (.int y), .val (.ref b1), .unset, .unset, .unset, .unset] [(.int (5 : Int32)), (.ref b28), (.ref b28)])) t
    refine XS.iconst X33.here hx rfl (hb hby at_117) ?_
    show Steps p.tables e below (T33.setTop (mkF m 118 #[.val (.int y), .val (.ref b1), .unset, .unset, .unset, .unset] [(.int (0 : Int32)), (.int (5 : Int32)), (.ref b28), (.ref b28)])) t
    refine st34 _ ?_
    show Steps p.tables e below (T34.setTop (mkF m 119 #[.val (.int y), .val (.ref b1), .unset, .unset, .unset, .unset] [(.ref b28)])) t
    refine XS.dup X34.here hx rfl (hb hby at_119) rfl rfl ?_
    show Steps p.tables e below (T34.setTop (mkF m 120 #[.val (.int y), .val (.ref b1), .unset, .unset, .unset, .unset] [(.ref b28), (.ref b28)])) t
    refine XS.bipush X34.here hx rfl (hb hby at_120) ?_
    show Steps p.tables e below (T34.setTop (mkF m 122 #[.val (.int y), .val (.ref b1), .unset, .unset, .unset, .unset] [(.int (6 : Int32)), (.ref b28), (.ref b28)])) t
    refine XS.iconst X34.here hx rfl (hb hby at_122) ?_
    show Steps p.tables e below (T34.setTop (mkF m 123 #[.val (.int y), .val (.ref b1), .unset, .unset, .unset, .unset] [(.int (0 : Int32)), (.int (6 : Int32)), (.ref b28), (.ref b28)])) t
    refine st35 _ ?_
    show Steps p.tables e below (T35.setTop (mkF m 124 #[.val (.int y), .val (.ref b1), .unset, .unset, .unset, .unset] [(.ref b28)])) t
    refine XS.dup X35.here hx rfl (hb hby at_124) rfl rfl ?_
    show Steps p.tables e below (T35.setTop (mkF m 125 #[.val (.int y), .val (.ref b1), .unset, .unset, .unset, .unset] [(.ref b28), (.ref b28)])) t
    refine XS.bipush X35.here hx rfl (hb hby at_125) ?_
    show Steps p.tables e below (T35.setTop (mkF m 127 #[.val (.int y), .val (.ref b1), .unset, .unset, .unset, .unset] [(.int (7 : Int32)), (.ref b28), (.ref b28)])) t
    refine XS.iconst X35.here hx rfl (hb hby at_127) ?_
    show Steps p.tables e below (T35.setTop (mkF m 128 #[.val (.int y), .val (.ref b1), .unset, .unset, .unset, .unset] [(.int (0 : Int32)), (.int (7 : Int32)), (.ref b28), (.ref b28)])) t
    refine st36 _ ?_
    show Steps p.tables e below (T36.setTop (mkF m 129 #[.val (.int y), .val (.ref b1), .unset, .unset, .unset, .unset] [(.ref b28)])) t
    refine XS.dup X36.here hx rfl (hb hby at_129) rfl rfl ?_
    show Steps p.tables e below (T36.setTop (mkF m 130 #[.val (.int y), .val (.ref b1), .unset, .unset, .unset, .unset] [(.ref b28), (.ref b28)])) t
    refine XS.bipush X36.here hx rfl (hb hby at_130) ?_
    show Steps p.tables e below (T36.setTop (mkF m 132 #[.val (.int y), .val (.ref b1), .unset, .unset, .unset, .unset] [(.int (8 : Int32)), (.ref b28), (.ref b28)])) t
    refine XS.iconst X36.here hx rfl (hb hby at_132) ?_
    show Steps p.tables e below (T36.setTop (mkF m 133 #[.val (.int y), .val (.ref b1), .unset, .unset, .unset, .unset] [(.int (0 : Int32)), (.int (8 : Int32)), (.ref b28), (.ref b28)])) t
    refine st37 _ ?_
    show Steps p.tables e below (T37.setTop (mkF m 134 #[.val (.int y), .val (.ref b1), .unset, .unset, .unset, .unset] [(.ref b28)])) t
    refine XS.dup X37.here hx rfl (hb hby at_134) rfl rfl ?_
    show Steps p.tables e below (T37.setTop (mkF m 135 #[.val (.int y), .val (.ref b1), .unset, .unset, .unset, .unset] [(.ref b28), (.ref b28)])) t
    refine XS.bipush X37.here hx rfl (hb hby at_135) ?_
    show Steps p.tables e below (T37.setTop (mkF m 137 #[.val (.int y), .val (.ref b1), .unset, .unset, .unset, .unset] [(.int (9 : Int32)), (.ref b28), (.ref b28)])) t
    refine XS.iconst X37.here hx rfl (hb hby at_137) ?_
    show Steps p.tables e below (T37.setTop (mkF m 138 #[.val (.int y), .val (.ref b1), .unset, .unset, .unset, .unset] [(.int (0 : Int32)), (.int (9 : Int32)), (.ref b28), (.ref b28)])) t
    refine st38 _ ?_
    show Steps p.tables e below (T38.setTop (mkF m 139 #[.val (.int y), .val (.ref b1), .unset, .unset, .unset, .unset] [(.ref b28)])) t
    refine XS.dup X38.here hx rfl (hb hby at_139) rfl rfl ?_
    show Steps p.tables e below (T38.setTop (mkF m 140 #[.val (.int y), .val (.ref b1), .unset, .unset, .unset, .unset] [(.ref b28), (.ref b28)])) t
    refine XS.bipush X38.here hx rfl (hb hby at_140) ?_
    show Steps p.tables e below (T38.setTop (mkF m 142 #[.val (.int y), .val (.ref b1), .unset, .unset, .unset, .unset] [(.int (10 : Int32)), (.ref b28), (.ref b28)])) t
    refine XS.iconst X38.here hx rfl (hb hby at_142) ?_
    show Steps p.tables e below (T38.setTop (mkF m 143 #[.val (.int y), .val (.ref b1), .unset, .unset, .unset, .unset] [(.int (1 : Int32)), (.int (10 : Int32)), (.ref b28), (.ref b28)])) t
    refine st39 _ ?_
    show Steps p.tables e below (T39.setTop (mkF m 144 #[.val (.int y), .val (.ref b1), .unset, .unset, .unset, .unset] [(.ref b28)])) t
    refine XS.dup X39.here hx rfl (hb hby at_144) rfl rfl ?_
    show Steps p.tables e below (T39.setTop (mkF m 145 #[.val (.int y), .val (.ref b1), .unset, .unset, .unset, .unset] [(.ref b28), (.ref b28)])) t
    refine XS.bipush X39.here hx rfl (hb hby at_145) ?_
    show Steps p.tables e below (T39.setTop (mkF m 147 #[.val (.int y), .val (.ref b1), .unset, .unset, .unset, .unset] [(.int (11 : Int32)), (.ref b28), (.ref b28)])) t
    refine XS.iconst X39.here hx rfl (hb hby at_147) ?_
    show Steps p.tables e below (T39.setTop (mkF m 148 #[.val (.int y), .val (.ref b1), .unset, .unset, .unset, .unset] [(.int (1 : Int32)), (.int (11 : Int32)), (.ref b28), (.ref b28)])) t
    refine st40 _ ?_
    show Steps p.tables e below (T40.setTop (mkF m 149 #[.val (.int y), .val (.ref b1), .unset, .unset, .unset, .unset] [(.ref b28)])) t
    refine XS.dup X40.here hx rfl (hb hby at_149) rfl rfl ?_
    show Steps p.tables e below (T40.setTop (mkF m 150 #[.val (.int y), .val (.ref b1), .unset, .unset, .unset, .unset] [(.ref b28), (.ref b28)])) t
    refine XS.bipush X40.here hx rfl (hb hby at_150) ?_
    show Steps p.tables e below (T40.setTop (mkF m 152 #[.val (.int y), .val (.ref b1), .unset, .unset, .unset, .unset] [(.int (12 : Int32)), (.ref b28), (.ref b28)])) t
    refine XS.iconst X40.here hx rfl (hb hby at_152) ?_
    show Steps p.tables e below (T40.setTop (mkF m 153 #[.val (.int y), .val (.ref b1), .unset, .unset, .unset, .unset] [(.int (0 : Int32)), (.int (12 : Int32)), (.ref b28), (.ref b28)])) t
    refine st41 _ ?_
    show Steps p.tables e below (T41.setTop (mkF m 154 #[.val (.int y), .val (.ref b1), .unset, .unset, .unset, .unset] [(.ref b28)])) t
    refine XS.astoreN X41.here hx rfl (hb hby at_154) rfl rfl (l' := #[.val (.int y), .val (.ref b1), .val (.ref b28), .unset, .unset, .unset]) rfl ?_
    show Steps p.tables e below (T41.setTop (mkF m 155 #[.val (.int y), .val (.ref b1), .val (.ref b28), .unset, .unset, .unset] [])) t
    refine XS.iloadN X41.here hx rfl (hb hby at_155) rfl ?_
    show Steps p.tables e below (T41.setTop (mkF m 156 #[.val (.int y), .val (.ref b1), .val (.ref b28), .unset, .unset, .unset] [(.int y)])) t
    refine X41.ldcInt hx hown (mvT hZ (hw _ (List.mem_of_getElem? (i := 31) rfl))) (g := (mkF m 156 #[.val (.int y), .val (.ref b1), .val (.ref b28), .unset, .unset, .unset] [(.int y)])) rfl (hb hby at_156) _ ?_
    show Steps p.tables e below (T41.setTop (mkF m 158 #[.val (.int y), .val (.ref b1), .val (.ref b28), .unset, .unset, .unset] [(.int (2147483647 : Int32)), (.int y)])) t
    refine XS.iand X41.here hx rfl (hb hby at_158) rfl ?_
    show Steps p.tables e below (T41.setTop (mkF m 159 #[.val (.int y), .val (.ref b1), .val (.ref b28), .unset, .unset, .unset] [(.int (y &&& (2147483647 : Int32)))])) t
    refine XS.bipush X41.here hx rfl (hb hby at_159) ?_
    show Steps p.tables e below (T41.setTop (mkF m 161 #[.val (.int y), .val (.ref b1), .val (.ref b28), .unset, .unset, .unset] [(.int (13 : Int32)), (.int (y &&& (2147483647 : Int32)))])) t
    refine iremM (g := (mkF m 161 #[.val (.int y), .val (.ref b1), .val (.ref b28), .unset, .unset, .unset] [(.int (13 : Int32)), (.int (y &&& (2147483647 : Int32)))])) X41 hx rfl (hb hby at_161) rfl (by decide) ?_
    show Steps p.tables e below (T41.setTop (mkF m 162 #[.val (.int y), .val (.ref b1), .val (.ref b28), .unset, .unset, .unset] [(.int ((y &&& (2147483647 : Int32)) % (13 : Int32)))])) t
    refine XS.istoreN X41.here hx rfl (hb hby at_162) rfl (l' := #[.val (.int y), .val (.ref b1), .val (.ref b28), .val (.int ((y &&& (2147483647 : Int32)) % (13 : Int32))), .unset, .unset]) rfl ?_
    show Steps p.tables e below (T41.setTop (mkF m 163 #[.val (.int y), .val (.ref b1), .val (.ref b28), .val (.int ((y &&& (2147483647 : Int32)) % (13 : Int32))), .unset, .unset] [])) t
    refine XS.aloadN X41.here hx rfl (hb hby at_163) rfl rfl ?_
    show Steps p.tables e below (T41.setTop (mkF m 164 #[.val (.int y), .val (.ref b1), .val (.ref b28), .val (.int ((y &&& (2147483647 : Int32)) % (13 : Int32))), .unset, .unset] [(.ref b1)])) t
    refine XS.iloadN X41.here hx rfl (hb hby at_164) rfl ?_
    exact k
  rcases own_13 y with hi | hi | hi | hi | hi | hi | hi | hi | hi | hi | hi | hi | hi
  · have R43 := R42
    rw [hi] at R43
    have f44 : Arv Z h41 b1 k1 (.object "com/example/transcript_search/transcriptsearch/fusion/FusionMethod") (13 : Int32) [(.ref w0), (.ref w1), (.ref w2), (.ref w3), (.ref w4), (.ref w5), (.ref w6), (.ref w7), (.ref w8), (.ref w9), (.ref w10), (.ref w11), (.ref w12)] .null := ((((((((((((((V27.ext E28).other W29 ne_b1_b28).other W30 ne_b1_b28).other W31 ne_b1_b28).other W32 ne_b1_b28).other W33 ne_b1_b28).other W34 ne_b1_b28).other W35 ne_b1_b28).other W36 ne_b1_b28).other W37 ne_b1_b28).other W38 ne_b1_b28).other W39 ne_b1_b28).other W40 ne_b1_b28).other W41 ne_b1_b28)
    obtain ⟨cl45, Ar45, q45, S45, M45, H45, G45⟩ := id f44
    have in45 : ¬ ((0 : Int32) < 0 ∨ cl45.slots.size ≤ ((0 : Int32)).toNatClampNeg) := inb_of S45 ⟨by decide, by decide⟩
    have at45 : cl45.slots[((0 : Int32)).toNatClampNeg]? = some (.ref w0) := H45.at in45 rfl
    obtain ⟨cq46, kq46, q46a, q46b, q46c⟩ := isOf hZ e41 (E_w0.ext O41.2)
    obtain ⟨_, _, ⟨T46, L46, k46, n46⟩, -, X46, ⟨Lc46, hQ46, l46, y46, z46⟩, st46⟩ := X41.virtualBack hx (y := (⟨"com/example/transcript_search/transcriptsearch/fusion/FusionMethod", "countsUnscalableRunsAsZero", "()Z"⟩ : MethodName)) (z := (⟨"com/example/transcript_search/transcriptsearch/fusion/FusionMethod", "countsUnscalableRunsAsZero", "()Z"⟩ : MethodName)) hown (mvT hZ (hw _ (List.mem_of_getElem? (i := 32) rfl))) (mvT hZ (hw _ (List.mem_of_getElem? (i := 33) rfl))) (notFace_of_selects (args := #[]) (mvT hZ (hw _ (List.mem_of_getElem? (i := 35) rfl)))) (mvT hZ (hw _ (List.mem_of_getElem? (i := 35) rfl))) (mvT hZ (hw _ (List.mem_of_getElem? (i := 34) rfl))) (by decide) (backOf (W := 0) (czo l Z a0 hw [] w0 w1 w2 w3 w4 w5 w6 w7 w8 w9 w10 w11 w12 v0 v1 v2 w0 h41 n0 O41 S_w0 S_w1 S_w2 S_w3 S_w4 S_w5 S_w6 S_w7 S_w8 S_w9 S_w10 S_w11 S_w12 S_v1 E_w0 E_w1 E_w2 E_w3 E_w4 E_w5 E_w6 E_w7 E_w8 E_w9 E_w10 E_w11 E_w12 M_w0 M_w1 M_w2 M_w3 M_w4 M_w5 M_w6 M_w7 M_w8 M_w9 M_w10 M_w11 M_w12 ne_w0_w10 ne_w1_w10 ne_w2_w10 ne_w3_w10 ne_w4_w10 ne_w5_w10 ne_w6_w10 ne_w7_w10 ne_w8_w10 ne_w9_w10 ne_w11_w10 ne_w12_w10 ne_w0_w11 ne_w1_w11 ne_w2_w11 ne_w3_w11 ne_w4_w11 ne_w5_w11 ne_w6_w11 ne_w7_w11 ne_w8_w11 ne_w9_w11 ne_w12_w11 ne_v0_v1 ne_v2_v1  ne_w0_w10 ne_w0_w11 ) hZ (hw _ (List.mem_of_getElem? (i := 36) rfl)) (hw _ (List.mem_of_getElem? (i := 3) rfl)) (by decide) (by decide)) q46a q46c (g := (mkF m 170 #[.val (.int y), .val (.ref b1), .val (.ref b28), .val (.int (0 : Int32)), .val (.ref w0), .unset] [(.ref w0)])) rfl (by rw [hml]; rfl) (Steps.refl _) (argsL := []) (rest := []) (lenOf pd_0 rfl) rfl (by show 2 * 0 + _ ≤ _; exact Nat.le_of_eq rfl) (hb hby at_170) (fun _ _ => ⟨rfl, e41, (by decide : 2 + 0 ≤ _), (by decide : 26 + 0 ≤ _)⟩)
    dsimp only [Pt.U, Pt.locs, Pt.cells, Pt.slots] at X46 l46 y46 z46 st46 hQ46
    rw [l46, y46, z46] at X46
    obtain ⟨rfl, N46q, e46⟩ := hQ46
    have N46 := Fr.app N41 N46q
    obtain ⟨cl47, Ar47, q47, S47, M47, H47, G47⟩ := id V41
    have in47 : ¬ ((0 : Int32) < 0 ∨ cl47.slots.size ≤ ((0 : Int32)).toNatClampNeg) := inb_of S47 ⟨by decide, by decide⟩
    have at47 : cl47.slots[((0 : Int32)).toNatClampNeg]? = some (.int (0 : Int32)) := H47.at in47 rfl
    obtain ⟨cq48, kq48, q48a, q48b, q48c⟩ := isOf hZ e46 (E_w0.ext O41.2)
    obtain ⟨_, _, ⟨T48, L48, k48, n48⟩, -, X48, ⟨Lc48, hQ48, l48, y48, z48⟩, st48⟩ := X46.virtualBack hx (y := (⟨"com/example/transcript_search/transcriptsearch/fusion/FusionMethod", "defaultNormalisation", "()Lcom/example/transcript_search/transcriptsearch/fusion/Normalisation;"⟩ : MethodName)) (z := (⟨"com/example/transcript_search/transcriptsearch/fusion/FusionMethod", "defaultNormalisation", "()Lcom/example/transcript_search/transcriptsearch/fusion/Normalisation;"⟩ : MethodName)) hown (mvT hZ (hw _ (List.mem_of_getElem? (i := 39) rfl))) (mvT hZ (hw _ (List.mem_of_getElem? (i := 40) rfl))) (notFace_of_selects (args := #[]) (mvT hZ (hw _ (List.mem_of_getElem? (i := 42) rfl)))) (mvT hZ (hw _ (List.mem_of_getElem? (i := 42) rfl))) (mvT hZ (hw _ (List.mem_of_getElem? (i := 41) rfl))) (by decide) (backOf (W := 1) (dn l Z a0 hw [] w0 w1 w2 w3 w4 w5 w6 w7 w8 w9 w10 w11 w12 v0 v1 v2 w0 v0 h41 n0 O41 S_w0 S_w1 S_w2 S_w3 S_w4 S_w5 S_w6 S_w7 S_w8 S_w9 S_w10 S_w11 S_w12 S_v1 E_w0 E_w1 E_w2 E_w3 E_w4 E_w5 E_w6 E_w7 E_w8 E_w9 E_w10 E_w11 E_w12 M_w0 M_w1 M_w2 M_w3 M_w4 M_w5 M_w6 M_w7 M_w8 M_w9 M_w10 M_w11 M_w12 ne_w0_w10 ne_w1_w10 ne_w2_w10 ne_w3_w10 ne_w4_w10 ne_w5_w10 ne_w6_w10 ne_w7_w10 ne_w8_w10 ne_w9_w10 ne_w11_w10 ne_w12_w10 ne_w0_w11 ne_w1_w11 ne_w2_w11 ne_w3_w11 ne_w4_w11 ne_w5_w11 ne_w6_w11 ne_w7_w11 ne_w8_w11 ne_w9_w11 ne_w12_w11 ne_v0_v1 ne_v2_v1   (M_w0.ext O41.2)) hZ (hw _ (List.mem_of_getElem? (i := 43) rfl)) (hw _ (List.mem_of_getElem? (i := 3) rfl)) (by decide) (by decide)) q48a q48c (g := (mkF m 187 #[.val (.int y), .val (.ref b1), .val (.ref b28), .val (.int (0 : Int32)), .val (.ref w0), .val (.int (0 : Int32))] [(.ref w0), (.int (0 : Int32))])) rfl (by rw [hml]; rfl) (Steps.refl _) (argsL := []) (rest := [(.int (0 : Int32))]) (lenOf pd_1 rfl) rfl (by show 2 * 0 + _ ≤ _; exact Nat.le_of_eq rfl) (hb hby at_187) (fun _ _ => ⟨rfl, e46, (by decide : 2 + 0 ≤ _), (by decide : 26 + 0 ≤ _)⟩)
    dsimp only [Pt.U, Pt.locs, Pt.cells, Pt.slots] at X48 l48 y48 z48 st48 hQ48
    rw [l48, y48, z48] at X48
    obtain ⟨rfl, N48q, e48⟩ := hQ48
    have N48 := Fr.app N46 N48q
    obtain ⟨T49, X49, e49, st49⟩ := getS2 X48 hx hZ hown (host := "") (Or.inl (hw _ (List.mem_of_getElem? (i := 48) rfl))) Via.refl e48 (S_v1.ext O41.2) (g := (mkF m 190 #[.val (.int y), .val (.ref b1), .val (.ref b28), .val (.int (0 : Int32)), .val (.ref w0), .val (.int (0 : Int32))] [(.ref v0), (.int (0 : Int32))])) rfl (hb hby at_190)
    have R50 : ∀ t, Steps p.tables e below (T49.setTop (mkF m 209 #[.val (.int y), .val (.ref b1), .val (.ref b28), .val (.int (0 : Int32)), .val (.ref w0), .val (.int (0 : Int32))] [(.int (1 : Int32))])) t → Steps p.tables e below (s₁.setTop (entryFrame m #[(.int y)] maxLocals)) t := by
      intro t k
      refine R43 t ?_
      show Steps p.tables e below (T41.setTop (mkF m 165 #[.val (.int y), .val (.ref b1), .val (.ref b28), .val (.int (0 : Int32)), .unset, .unset] [(.int (0 : Int32)), (.ref b1)])) t
      refine X41.aaload hx (j := (0 : Int32)) (v := (.ref w0)) (by rw [e41]; exact Ar45.1) (State.isArrayOf_alike hZ.alike Ar45.2.1) rfl Ar45.2.2 in45 at45 (g := (mkF m 165 #[.val (.int y), .val (.ref b1), .val (.ref b28), .val (.int (0 : Int32)), .unset, .unset] [(.int (0 : Int32)), (.ref b1)])) rfl rfl (hb hby at_165) _ ?_
      show Steps p.tables e below (T41.setTop (mkF m 166 #[.val (.int y), .val (.ref b1), .val (.ref b28), .val (.int (0 : Int32)), .unset, .unset] [(.ref w0)])) t
      refine XS.astore X41.here hx rfl (hb hby at_166) rfl rfl (l' := #[.val (.int y), .val (.ref b1), .val (.ref b28), .val (.int (0 : Int32)), .val (.ref w0), .unset]) rfl ?_
      show Steps p.tables e below (T41.setTop (mkF m 168 #[.val (.int y), .val (.ref b1), .val (.ref b28), .val (.int (0 : Int32)), .val (.ref w0), .unset] [])) t
      refine XS.aload X41.here hx rfl (hb hby at_168) rfl rfl ?_
      show Steps p.tables e below (T41.setTop (mkF m 170 #[.val (.int y), .val (.ref b1), .val (.ref b28), .val (.int (0 : Int32)), .val (.ref w0), .unset] [(.ref w0)])) t
      refine st46.trans ?_
      show Steps p.tables e below (T46.setTop (mkF m 173 #[.val (.int y), .val (.ref b1), .val (.ref b28), .val (.int (0 : Int32)), .val (.ref w0), .unset] [(.int (0 : Int32))])) t
      refine XS.istore X46.here hx rfl (hb hby at_173) rfl (l' := #[.val (.int y), .val (.ref b1), .val (.ref b28), .val (.int (0 : Int32)), .val (.ref w0), .val (.int (0 : Int32))]) rfl ?_
      show Steps p.tables e below (T46.setTop (mkF m 175 #[.val (.int y), .val (.ref b1), .val (.ref b28), .val (.int (0 : Int32)), .val (.ref w0), .val (.int (0 : Int32))] [])) t
      refine XS.iload X46.here hx rfl (hb hby at_175) rfl ?_
      show Steps p.tables e below (T46.setTop (mkF m 177 #[.val (.int y), .val (.ref b1), .val (.ref b28), .val (.int (0 : Int32)), .val (.ref w0), .val (.int (0 : Int32))] [(.int (0 : Int32))])) t
      refine XS.aloadN X46.here hx rfl (hb hby at_177) rfl rfl ?_
      show Steps p.tables e below (T46.setTop (mkF m 178 #[.val (.int y), .val (.ref b1), .val (.ref b28), .val (.int (0 : Int32)), .val (.ref w0), .val (.int (0 : Int32))] [(.ref b28), (.int (0 : Int32))])) t
      refine XS.iloadN X46.here hx rfl (hb hby at_178) rfl ?_
      show Steps p.tables e below (T46.setTop (mkF m 179 #[.val (.int y), .val (.ref b1), .val (.ref b28), .val (.int (0 : Int32)), .val (.ref w0), .val (.int (0 : Int32))] [(.int (0 : Int32)), (.ref b28), (.int (0 : Int32))])) t
      refine X46.baloadBooleans hx (j := (0 : Int32)) (v := (.int (0 : Int32))) (by rw [e46]; exact Ar47.1) (State.isArrayOf_alike hZ.alike Ar47.2.1) Ar47.2.2 in47 at47 (g := (mkF m 179 #[.val (.int y), .val (.ref b1), .val (.ref b28), .val (.int (0 : Int32)), .val (.ref w0), .val (.int (0 : Int32))] [(.int (0 : Int32)), (.ref b28), (.int (0 : Int32))])) rfl rfl (hb hby at_179) _ ?_
      show Steps p.tables e below (T46.setTop (mkF m 180 #[.val (.int y), .val (.ref b1), .val (.ref b28), .val (.int (0 : Int32)), .val (.ref w0), .val (.int (0 : Int32))] [(.int (0 : Int32)), (.int (0 : Int32))])) t
      refine XS.icmpNo X46.here hx rfl (hb hby at_180) rfl (teq ((by decide) : (0 : Int32) = (0 : Int32))).2 ?_
      show Steps p.tables e below (T46.setTop (mkF m 183 #[.val (.int y), .val (.ref b1), .val (.ref b28), .val (.int (0 : Int32)), .val (.ref w0), .val (.int (0 : Int32))] [])) t
      refine XS.iload X46.here hx rfl (hb hby at_183) rfl ?_
      show Steps p.tables e below (T46.setTop (mkF m 185 #[.val (.int y), .val (.ref b1), .val (.ref b28), .val (.int (0 : Int32)), .val (.ref w0), .val (.int (0 : Int32))] [(.int (0 : Int32))])) t
      refine XS.aload X46.here hx rfl (hb hby at_185) rfl rfl ?_
      show Steps p.tables e below (T46.setTop (mkF m 187 #[.val (.int y), .val (.ref b1), .val (.ref b28), .val (.int (0 : Int32)), .val (.ref w0), .val (.int (0 : Int32))] [(.ref w0), (.int (0 : Int32))])) t
      refine st48.trans ?_
      show Steps p.tables e below (T48.setTop (mkF m 190 #[.val (.int y), .val (.ref b1), .val (.ref b28), .val (.int (0 : Int32)), .val (.ref w0), .val (.int (0 : Int32))] [(.ref v0), (.int (0 : Int32))])) t
      refine st49 _ ?_
      show Steps p.tables e below (T49.setTop (mkF m 193 #[.val (.int y), .val (.ref b1), .val (.ref b28), .val (.int (0 : Int32)), .val (.ref w0), .val (.int (0 : Int32))] [(.ref v1), (.ref v0), (.int (0 : Int32))])) t
      refine Jvm.RoadKit.acmp (g := (mkF m 193 #[.val (.int y), .val (.ref b1), .val (.ref b28), .val (.int (0 : Int32)), .val (.ref w0), .val (.int (0 : Int32))] [(.ref v1), (.ref v0), (.int (0 : Int32))])) X49 hx rfl rfl rfl (pc0 := 193) (pc' := 200) (same := false) rfl (hb hby at_193) rfl (decide_eq_false (fun q => ne_v0_v1 (Value.ref.inj q))) (by decide) (by decide) ?_
      show Steps p.tables e below (T49.setTop (mkF m 200 #[.val (.int y), .val (.ref b1), .val (.ref b28), .val (.int (0 : Int32)), .val (.ref w0), .val (.int (0 : Int32))] [(.int (0 : Int32))])) t
      refine XS.iconst X49.here hx rfl (hb hby at_200) ?_
      show Steps p.tables e below (T49.setTop (mkF m 201 #[.val (.int y), .val (.ref b1), .val (.ref b28), .val (.int (0 : Int32)), .val (.ref w0), .val (.int (0 : Int32))] [(.int (0 : Int32)), (.int (0 : Int32))])) t
      refine XS.icmpNo X49.here hx rfl (hb hby at_201) rfl (teq ((by decide) : (0 : Int32) = (0 : Int32))).2 ?_
      show Steps p.tables e below (T49.setTop (mkF m 204 #[.val (.int y), .val (.ref b1), .val (.ref b28), .val (.int (0 : Int32)), .val (.ref w0), .val (.int (0 : Int32))] [])) t
      refine XS.iconst X49.here hx rfl (hb hby at_204) ?_
      show Steps p.tables e below (T49.setTop (mkF m 205 #[.val (.int y), .val (.ref b1), .val (.ref b28), .val (.int (0 : Int32)), .val (.ref w0), .val (.int (0 : Int32))] [(.int (1 : Int32))])) t
      refine XS.goto X49.here hx rfl (pc0 := 205) (pc' := 209) rfl (hb hby at_205) (by decide) (by decide) ?_
      exact k
    obtain ⟨fs, hr, hrun, hended, hW, hsame⟩ := X49.leave (v := some (.int (1 : Int32))) (fun h => by rw [Bd.returns] at h; cases h)
    refine ⟨_, _, R50 _ ?_, hrun, hended, _, _, rfl, ?_, ⟨_, rfl⟩, hW, hsame.mono (by decide) (by decide)⟩
    · show Steps p.tables e below (T49.setTop (mkF m 209 #[.val (.int y), .val (.ref b1), .val (.ref b28), .val (.int (0 : Int32)), .val (.ref w0), .val (.int (0 : Int32))] [(.int (1 : Int32))])) _
      exact retN X49 hx (t := .boolean) Bd.returns (by simp) (hb hby at_209) hr
    · show Q_rm0 Z w0 w1 w2 w3 w4 w5 w6 w7 w8 w9 w10 w11 w12 v0 v1 v2 y h0 n0 _ T49.heap _
      rw [e49]
      exact ⟨rfl, N48⟩
  · have R51 := R42
    rw [hi] at R51
    have f52 : Arv Z h41 b1 k1 (.object "com/example/transcript_search/transcriptsearch/fusion/FusionMethod") (13 : Int32) [(.ref w0), (.ref w1), (.ref w2), (.ref w3), (.ref w4), (.ref w5), (.ref w6), (.ref w7), (.ref w8), (.ref w9), (.ref w10), (.ref w11), (.ref w12)] .null := ((((((((((((((V27.ext E28).other W29 ne_b1_b28).other W30 ne_b1_b28).other W31 ne_b1_b28).other W32 ne_b1_b28).other W33 ne_b1_b28).other W34 ne_b1_b28).other W35 ne_b1_b28).other W36 ne_b1_b28).other W37 ne_b1_b28).other W38 ne_b1_b28).other W39 ne_b1_b28).other W40 ne_b1_b28).other W41 ne_b1_b28)
    obtain ⟨cl53, Ar53, q53, S53, M53, H53, G53⟩ := id f52
    have in53 : ¬ ((1 : Int32) < 0 ∨ cl53.slots.size ≤ ((1 : Int32)).toNatClampNeg) := inb_of S53 ⟨by decide, by decide⟩
    have at53 : cl53.slots[((1 : Int32)).toNatClampNeg]? = some (.ref w1) := H53.at in53 rfl
    obtain ⟨cq54, kq54, q54a, q54b, q54c⟩ := isOf hZ e41 (E_w1.ext O41.2)
    obtain ⟨_, _, ⟨T54, L54, k54, n54⟩, -, X54, ⟨Lc54, hQ54, l54, y54, z54⟩, st54⟩ := X41.virtualBack hx (y := (⟨"com/example/transcript_search/transcriptsearch/fusion/FusionMethod", "countsUnscalableRunsAsZero", "()Z"⟩ : MethodName)) (z := (⟨"com/example/transcript_search/transcriptsearch/fusion/FusionMethod", "countsUnscalableRunsAsZero", "()Z"⟩ : MethodName)) hown (mvT hZ (hw _ (List.mem_of_getElem? (i := 32) rfl))) (mvT hZ (hw _ (List.mem_of_getElem? (i := 33) rfl))) (notFace_of_selects (args := #[]) (mvT hZ (hw _ (List.mem_of_getElem? (i := 35) rfl)))) (mvT hZ (hw _ (List.mem_of_getElem? (i := 35) rfl))) (mvT hZ (hw _ (List.mem_of_getElem? (i := 34) rfl))) (by decide) (backOf (W := 0) (czo l Z a0 hw [] w0 w1 w2 w3 w4 w5 w6 w7 w8 w9 w10 w11 w12 v0 v1 v2 w1 h41 n0 O41 S_w0 S_w1 S_w2 S_w3 S_w4 S_w5 S_w6 S_w7 S_w8 S_w9 S_w10 S_w11 S_w12 S_v1 E_w0 E_w1 E_w2 E_w3 E_w4 E_w5 E_w6 E_w7 E_w8 E_w9 E_w10 E_w11 E_w12 M_w0 M_w1 M_w2 M_w3 M_w4 M_w5 M_w6 M_w7 M_w8 M_w9 M_w10 M_w11 M_w12 ne_w0_w10 ne_w1_w10 ne_w2_w10 ne_w3_w10 ne_w4_w10 ne_w5_w10 ne_w6_w10 ne_w7_w10 ne_w8_w10 ne_w9_w10 ne_w11_w10 ne_w12_w10 ne_w0_w11 ne_w1_w11 ne_w2_w11 ne_w3_w11 ne_w4_w11 ne_w5_w11 ne_w6_w11 ne_w7_w11 ne_w8_w11 ne_w9_w11 ne_w12_w11 ne_v0_v1 ne_v2_v1  ne_w1_w10 ne_w1_w11 ) hZ (hw _ (List.mem_of_getElem? (i := 36) rfl)) (hw _ (List.mem_of_getElem? (i := 3) rfl)) (by decide) (by decide)) q54a q54c (g := (mkF m 170 #[.val (.int y), .val (.ref b1), .val (.ref b28), .val (.int (1 : Int32)), .val (.ref w1), .unset] [(.ref w1)])) rfl (by rw [hml]; rfl) (Steps.refl _) (argsL := []) (rest := []) (lenOf pd_0 rfl) rfl (by show 2 * 0 + _ ≤ _; exact Nat.le_of_eq rfl) (hb hby at_170) (fun _ _ => ⟨rfl, e41, (by decide : 2 + 0 ≤ _), (by decide : 26 + 0 ≤ _)⟩)
    dsimp only [Pt.U, Pt.locs, Pt.cells, Pt.slots] at X54 l54 y54 z54 st54 hQ54
    rw [l54, y54, z54] at X54
    obtain ⟨rfl, N54q, e54⟩ := hQ54
    have N54 := Fr.app N41 N54q
    obtain ⟨cl55, Ar55, q55, S55, M55, H55, G55⟩ := id V41
    have in55 : ¬ ((1 : Int32) < 0 ∨ cl55.slots.size ≤ ((1 : Int32)).toNatClampNeg) := inb_of S55 ⟨by decide, by decide⟩
    have at55 : cl55.slots[((1 : Int32)).toNatClampNeg]? = some (.int (0 : Int32)) := H55.at in55 rfl
    obtain ⟨cq56, kq56, q56a, q56b, q56c⟩ := isOf hZ e54 (E_w1.ext O41.2)
    obtain ⟨_, _, ⟨T56, L56, k56, n56⟩, -, X56, ⟨Lc56, hQ56, l56, y56, z56⟩, st56⟩ := X54.virtualBack hx (y := (⟨"com/example/transcript_search/transcriptsearch/fusion/FusionMethod", "defaultNormalisation", "()Lcom/example/transcript_search/transcriptsearch/fusion/Normalisation;"⟩ : MethodName)) (z := (⟨"com/example/transcript_search/transcriptsearch/fusion/FusionMethod", "defaultNormalisation", "()Lcom/example/transcript_search/transcriptsearch/fusion/Normalisation;"⟩ : MethodName)) hown (mvT hZ (hw _ (List.mem_of_getElem? (i := 39) rfl))) (mvT hZ (hw _ (List.mem_of_getElem? (i := 40) rfl))) (notFace_of_selects (args := #[]) (mvT hZ (hw _ (List.mem_of_getElem? (i := 42) rfl)))) (mvT hZ (hw _ (List.mem_of_getElem? (i := 42) rfl))) (mvT hZ (hw _ (List.mem_of_getElem? (i := 41) rfl))) (by decide) (backOf (W := 1) (dn l Z a0 hw [] w0 w1 w2 w3 w4 w5 w6 w7 w8 w9 w10 w11 w12 v0 v1 v2 w1 v0 h41 n0 O41 S_w0 S_w1 S_w2 S_w3 S_w4 S_w5 S_w6 S_w7 S_w8 S_w9 S_w10 S_w11 S_w12 S_v1 E_w0 E_w1 E_w2 E_w3 E_w4 E_w5 E_w6 E_w7 E_w8 E_w9 E_w10 E_w11 E_w12 M_w0 M_w1 M_w2 M_w3 M_w4 M_w5 M_w6 M_w7 M_w8 M_w9 M_w10 M_w11 M_w12 ne_w0_w10 ne_w1_w10 ne_w2_w10 ne_w3_w10 ne_w4_w10 ne_w5_w10 ne_w6_w10 ne_w7_w10 ne_w8_w10 ne_w9_w10 ne_w11_w10 ne_w12_w10 ne_w0_w11 ne_w1_w11 ne_w2_w11 ne_w3_w11 ne_w4_w11 ne_w5_w11 ne_w6_w11 ne_w7_w11 ne_w8_w11 ne_w9_w11 ne_w12_w11 ne_v0_v1 ne_v2_v1   (M_w1.ext O41.2)) hZ (hw _ (List.mem_of_getElem? (i := 43) rfl)) (hw _ (List.mem_of_getElem? (i := 3) rfl)) (by decide) (by decide)) q56a q56c (g := (mkF m 187 #[.val (.int y), .val (.ref b1), .val (.ref b28), .val (.int (1 : Int32)), .val (.ref w1), .val (.int (0 : Int32))] [(.ref w1), (.int (0 : Int32))])) rfl (by rw [hml]; rfl) (Steps.refl _) (argsL := []) (rest := [(.int (0 : Int32))]) (lenOf pd_1 rfl) rfl (by show 2 * 0 + _ ≤ _; exact Nat.le_of_eq rfl) (hb hby at_187) (fun _ _ => ⟨rfl, e54, (by decide : 2 + 0 ≤ _), (by decide : 26 + 0 ≤ _)⟩)
    dsimp only [Pt.U, Pt.locs, Pt.cells, Pt.slots] at X56 l56 y56 z56 st56 hQ56
    rw [l56, y56, z56] at X56
    obtain ⟨rfl, N56q, e56⟩ := hQ56
    have N56 := Fr.app N54 N56q
    obtain ⟨T57, X57, e57, st57⟩ := getS2 X56 hx hZ hown (host := "") (Or.inl (hw _ (List.mem_of_getElem? (i := 48) rfl))) Via.refl e56 (S_v1.ext O41.2) (g := (mkF m 190 #[.val (.int y), .val (.ref b1), .val (.ref b28), .val (.int (1 : Int32)), .val (.ref w1), .val (.int (0 : Int32))] [(.ref v0), (.int (0 : Int32))])) rfl (hb hby at_190)
    have R58 : ∀ t, Steps p.tables e below (T57.setTop (mkF m 209 #[.val (.int y), .val (.ref b1), .val (.ref b28), .val (.int (1 : Int32)), .val (.ref w1), .val (.int (0 : Int32))] [(.int (1 : Int32))])) t → Steps p.tables e below (s₁.setTop (entryFrame m #[(.int y)] maxLocals)) t := by
      intro t k
      refine R51 t ?_
      show Steps p.tables e below (T41.setTop (mkF m 165 #[.val (.int y), .val (.ref b1), .val (.ref b28), .val (.int (1 : Int32)), .unset, .unset] [(.int (1 : Int32)), (.ref b1)])) t
      refine X41.aaload hx (j := (1 : Int32)) (v := (.ref w1)) (by rw [e41]; exact Ar53.1) (State.isArrayOf_alike hZ.alike Ar53.2.1) rfl Ar53.2.2 in53 at53 (g := (mkF m 165 #[.val (.int y), .val (.ref b1), .val (.ref b28), .val (.int (1 : Int32)), .unset, .unset] [(.int (1 : Int32)), (.ref b1)])) rfl rfl (hb hby at_165) _ ?_
      show Steps p.tables e below (T41.setTop (mkF m 166 #[.val (.int y), .val (.ref b1), .val (.ref b28), .val (.int (1 : Int32)), .unset, .unset] [(.ref w1)])) t
      refine XS.astore X41.here hx rfl (hb hby at_166) rfl rfl (l' := #[.val (.int y), .val (.ref b1), .val (.ref b28), .val (.int (1 : Int32)), .val (.ref w1), .unset]) rfl ?_
      show Steps p.tables e below (T41.setTop (mkF m 168 #[.val (.int y), .val (.ref b1), .val (.ref b28), .val (.int (1 : Int32)), .val (.ref w1), .unset] [])) t
      refine XS.aload X41.here hx rfl (hb hby at_168) rfl rfl ?_
      show Steps p.tables e below (T41.setTop (mkF m 170 #[.val (.int y), .val (.ref b1), .val (.ref b28), .val (.int (1 : Int32)), .val (.ref w1), .unset] [(.ref w1)])) t
      refine st54.trans ?_
      show Steps p.tables e below (T54.setTop (mkF m 173 #[.val (.int y), .val (.ref b1), .val (.ref b28), .val (.int (1 : Int32)), .val (.ref w1), .unset] [(.int (0 : Int32))])) t
      refine XS.istore X54.here hx rfl (hb hby at_173) rfl (l' := #[.val (.int y), .val (.ref b1), .val (.ref b28), .val (.int (1 : Int32)), .val (.ref w1), .val (.int (0 : Int32))]) rfl ?_
      show Steps p.tables e below (T54.setTop (mkF m 175 #[.val (.int y), .val (.ref b1), .val (.ref b28), .val (.int (1 : Int32)), .val (.ref w1), .val (.int (0 : Int32))] [])) t
      refine XS.iload X54.here hx rfl (hb hby at_175) rfl ?_
      show Steps p.tables e below (T54.setTop (mkF m 177 #[.val (.int y), .val (.ref b1), .val (.ref b28), .val (.int (1 : Int32)), .val (.ref w1), .val (.int (0 : Int32))] [(.int (0 : Int32))])) t
      refine XS.aloadN X54.here hx rfl (hb hby at_177) rfl rfl ?_
      show Steps p.tables e below (T54.setTop (mkF m 178 #[.val (.int y), .val (.ref b1), .val (.ref b28), .val (.int (1 : Int32)), .val (.ref w1), .val (.int (0 : Int32))] [(.ref b28), (.int (0 : Int32))])) t
      refine XS.iloadN X54.here hx rfl (hb hby at_178) rfl ?_
      show Steps p.tables e below (T54.setTop (mkF m 179 #[.val (.int y), .val (.ref b1), .val (.ref b28), .val (.int (1 : Int32)), .val (.ref w1), .val (.int (0 : Int32))] [(.int (1 : Int32)), (.ref b28), (.int (0 : Int32))])) t
      refine X54.baloadBooleans hx (j := (1 : Int32)) (v := (.int (0 : Int32))) (by rw [e54]; exact Ar55.1) (State.isArrayOf_alike hZ.alike Ar55.2.1) Ar55.2.2 in55 at55 (g := (mkF m 179 #[.val (.int y), .val (.ref b1), .val (.ref b28), .val (.int (1 : Int32)), .val (.ref w1), .val (.int (0 : Int32))] [(.int (1 : Int32)), (.ref b28), (.int (0 : Int32))])) rfl rfl (hb hby at_179) _ ?_
      show Steps p.tables e below (T54.setTop (mkF m 180 #[.val (.int y), .val (.ref b1), .val (.ref b28), .val (.int (1 : Int32)), .val (.ref w1), .val (.int (0 : Int32))] [(.int (0 : Int32)), (.int (0 : Int32))])) t
      refine XS.icmpNo X54.here hx rfl (hb hby at_180) rfl (teq ((by decide) : (0 : Int32) = (0 : Int32))).2 ?_
      show Steps p.tables e below (T54.setTop (mkF m 183 #[.val (.int y), .val (.ref b1), .val (.ref b28), .val (.int (1 : Int32)), .val (.ref w1), .val (.int (0 : Int32))] [])) t
      refine XS.iload X54.here hx rfl (hb hby at_183) rfl ?_
      show Steps p.tables e below (T54.setTop (mkF m 185 #[.val (.int y), .val (.ref b1), .val (.ref b28), .val (.int (1 : Int32)), .val (.ref w1), .val (.int (0 : Int32))] [(.int (0 : Int32))])) t
      refine XS.aload X54.here hx rfl (hb hby at_185) rfl rfl ?_
      show Steps p.tables e below (T54.setTop (mkF m 187 #[.val (.int y), .val (.ref b1), .val (.ref b28), .val (.int (1 : Int32)), .val (.ref w1), .val (.int (0 : Int32))] [(.ref w1), (.int (0 : Int32))])) t
      refine st56.trans ?_
      show Steps p.tables e below (T56.setTop (mkF m 190 #[.val (.int y), .val (.ref b1), .val (.ref b28), .val (.int (1 : Int32)), .val (.ref w1), .val (.int (0 : Int32))] [(.ref v0), (.int (0 : Int32))])) t
      refine st57 _ ?_
      show Steps p.tables e below (T57.setTop (mkF m 193 #[.val (.int y), .val (.ref b1), .val (.ref b28), .val (.int (1 : Int32)), .val (.ref w1), .val (.int (0 : Int32))] [(.ref v1), (.ref v0), (.int (0 : Int32))])) t
      refine Jvm.RoadKit.acmp (g := (mkF m 193 #[.val (.int y), .val (.ref b1), .val (.ref b28), .val (.int (1 : Int32)), .val (.ref w1), .val (.int (0 : Int32))] [(.ref v1), (.ref v0), (.int (0 : Int32))])) X57 hx rfl rfl rfl (pc0 := 193) (pc' := 200) (same := false) rfl (hb hby at_193) rfl (decide_eq_false (fun q => ne_v0_v1 (Value.ref.inj q))) (by decide) (by decide) ?_
      show Steps p.tables e below (T57.setTop (mkF m 200 #[.val (.int y), .val (.ref b1), .val (.ref b28), .val (.int (1 : Int32)), .val (.ref w1), .val (.int (0 : Int32))] [(.int (0 : Int32))])) t
      refine XS.iconst X57.here hx rfl (hb hby at_200) ?_
      show Steps p.tables e below (T57.setTop (mkF m 201 #[.val (.int y), .val (.ref b1), .val (.ref b28), .val (.int (1 : Int32)), .val (.ref w1), .val (.int (0 : Int32))] [(.int (0 : Int32)), (.int (0 : Int32))])) t
      refine XS.icmpNo X57.here hx rfl (hb hby at_201) rfl (teq ((by decide) : (0 : Int32) = (0 : Int32))).2 ?_
      show Steps p.tables e below (T57.setTop (mkF m 204 #[.val (.int y), .val (.ref b1), .val (.ref b28), .val (.int (1 : Int32)), .val (.ref w1), .val (.int (0 : Int32))] [])) t
      refine XS.iconst X57.here hx rfl (hb hby at_204) ?_
      show Steps p.tables e below (T57.setTop (mkF m 205 #[.val (.int y), .val (.ref b1), .val (.ref b28), .val (.int (1 : Int32)), .val (.ref w1), .val (.int (0 : Int32))] [(.int (1 : Int32))])) t
      refine XS.goto X57.here hx rfl (pc0 := 205) (pc' := 209) rfl (hb hby at_205) (by decide) (by decide) ?_
      exact k
    obtain ⟨fs, hr, hrun, hended, hW, hsame⟩ := X57.leave (v := some (.int (1 : Int32))) (fun h => by rw [Bd.returns] at h; cases h)
    refine ⟨_, _, R58 _ ?_, hrun, hended, _, _, rfl, ?_, ⟨_, rfl⟩, hW, hsame.mono (by decide) (by decide)⟩
    · show Steps p.tables e below (T57.setTop (mkF m 209 #[.val (.int y), .val (.ref b1), .val (.ref b28), .val (.int (1 : Int32)), .val (.ref w1), .val (.int (0 : Int32))] [(.int (1 : Int32))])) _
      exact retN X57 hx (t := .boolean) Bd.returns (by simp) (hb hby at_209) hr
    · show Q_rm0 Z w0 w1 w2 w3 w4 w5 w6 w7 w8 w9 w10 w11 w12 v0 v1 v2 y h0 n0 _ T57.heap _
      rw [e57]
      exact ⟨rfl, N56⟩
  · have R59 := R42
    rw [hi] at R59
    have f60 : Arv Z h41 b1 k1 (.object "com/example/transcript_search/transcriptsearch/fusion/FusionMethod") (13 : Int32) [(.ref w0), (.ref w1), (.ref w2), (.ref w3), (.ref w4), (.ref w5), (.ref w6), (.ref w7), (.ref w8), (.ref w9), (.ref w10), (.ref w11), (.ref w12)] .null := ((((((((((((((V27.ext E28).other W29 ne_b1_b28).other W30 ne_b1_b28).other W31 ne_b1_b28).other W32 ne_b1_b28).other W33 ne_b1_b28).other W34 ne_b1_b28).other W35 ne_b1_b28).other W36 ne_b1_b28).other W37 ne_b1_b28).other W38 ne_b1_b28).other W39 ne_b1_b28).other W40 ne_b1_b28).other W41 ne_b1_b28)
    obtain ⟨cl61, Ar61, q61, S61, M61, H61, G61⟩ := id f60
    have in61 : ¬ ((2 : Int32) < 0 ∨ cl61.slots.size ≤ ((2 : Int32)).toNatClampNeg) := inb_of S61 ⟨by decide, by decide⟩
    have at61 : cl61.slots[((2 : Int32)).toNatClampNeg]? = some (.ref w2) := H61.at in61 rfl
    obtain ⟨cq62, kq62, q62a, q62b, q62c⟩ := isOf hZ e41 (E_w2.ext O41.2)
    obtain ⟨_, _, ⟨T62, L62, k62, n62⟩, -, X62, ⟨Lc62, hQ62, l62, y62, z62⟩, st62⟩ := X41.virtualBack hx (y := (⟨"com/example/transcript_search/transcriptsearch/fusion/FusionMethod", "countsUnscalableRunsAsZero", "()Z"⟩ : MethodName)) (z := (⟨"com/example/transcript_search/transcriptsearch/fusion/FusionMethod", "countsUnscalableRunsAsZero", "()Z"⟩ : MethodName)) hown (mvT hZ (hw _ (List.mem_of_getElem? (i := 32) rfl))) (mvT hZ (hw _ (List.mem_of_getElem? (i := 33) rfl))) (notFace_of_selects (args := #[]) (mvT hZ (hw _ (List.mem_of_getElem? (i := 35) rfl)))) (mvT hZ (hw _ (List.mem_of_getElem? (i := 35) rfl))) (mvT hZ (hw _ (List.mem_of_getElem? (i := 34) rfl))) (by decide) (backOf (W := 0) (czo l Z a0 hw [] w0 w1 w2 w3 w4 w5 w6 w7 w8 w9 w10 w11 w12 v0 v1 v2 w2 h41 n0 O41 S_w0 S_w1 S_w2 S_w3 S_w4 S_w5 S_w6 S_w7 S_w8 S_w9 S_w10 S_w11 S_w12 S_v1 E_w0 E_w1 E_w2 E_w3 E_w4 E_w5 E_w6 E_w7 E_w8 E_w9 E_w10 E_w11 E_w12 M_w0 M_w1 M_w2 M_w3 M_w4 M_w5 M_w6 M_w7 M_w8 M_w9 M_w10 M_w11 M_w12 ne_w0_w10 ne_w1_w10 ne_w2_w10 ne_w3_w10 ne_w4_w10 ne_w5_w10 ne_w6_w10 ne_w7_w10 ne_w8_w10 ne_w9_w10 ne_w11_w10 ne_w12_w10 ne_w0_w11 ne_w1_w11 ne_w2_w11 ne_w3_w11 ne_w4_w11 ne_w5_w11 ne_w6_w11 ne_w7_w11 ne_w8_w11 ne_w9_w11 ne_w12_w11 ne_v0_v1 ne_v2_v1  ne_w2_w10 ne_w2_w11 ) hZ (hw _ (List.mem_of_getElem? (i := 36) rfl)) (hw _ (List.mem_of_getElem? (i := 3) rfl)) (by decide) (by decide)) q62a q62c (g := (mkF m 170 #[.val (.int y), .val (.ref b1), .val (.ref b28), .val (.int (2 : Int32)), .val (.ref w2), .unset] [(.ref w2)])) rfl (by rw [hml]; rfl) (Steps.refl _) (argsL := []) (rest := []) (lenOf pd_0 rfl) rfl (by show 2 * 0 + _ ≤ _; exact Nat.le_of_eq rfl) (hb hby at_170) (fun _ _ => ⟨rfl, e41, (by decide : 2 + 0 ≤ _), (by decide : 26 + 0 ≤ _)⟩)
    dsimp only [Pt.U, Pt.locs, Pt.cells, Pt.slots] at X62 l62 y62 z62 st62 hQ62
    rw [l62, y62, z62] at X62
    obtain ⟨rfl, N62q, e62⟩ := hQ62
    have N62 := Fr.app N41 N62q
    obtain ⟨cl63, Ar63, q63, S63, M63, H63, G63⟩ := id V41
    have in63 : ¬ ((2 : Int32) < 0 ∨ cl63.slots.size ≤ ((2 : Int32)).toNatClampNeg) := inb_of S63 ⟨by decide, by decide⟩
    have at63 : cl63.slots[((2 : Int32)).toNatClampNeg]? = some (.int (0 : Int32)) := H63.at in63 rfl
    obtain ⟨cq64, kq64, q64a, q64b, q64c⟩ := isOf hZ e62 (E_w2.ext O41.2)
    obtain ⟨_, _, ⟨T64, L64, k64, n64⟩, -, X64, ⟨Lc64, hQ64, l64, y64, z64⟩, st64⟩ := X62.virtualBack hx (y := (⟨"com/example/transcript_search/transcriptsearch/fusion/FusionMethod", "defaultNormalisation", "()Lcom/example/transcript_search/transcriptsearch/fusion/Normalisation;"⟩ : MethodName)) (z := (⟨"com/example/transcript_search/transcriptsearch/fusion/FusionMethod", "defaultNormalisation", "()Lcom/example/transcript_search/transcriptsearch/fusion/Normalisation;"⟩ : MethodName)) hown (mvT hZ (hw _ (List.mem_of_getElem? (i := 39) rfl))) (mvT hZ (hw _ (List.mem_of_getElem? (i := 40) rfl))) (notFace_of_selects (args := #[]) (mvT hZ (hw _ (List.mem_of_getElem? (i := 42) rfl)))) (mvT hZ (hw _ (List.mem_of_getElem? (i := 42) rfl))) (mvT hZ (hw _ (List.mem_of_getElem? (i := 41) rfl))) (by decide) (backOf (W := 1) (dn l Z a0 hw [] w0 w1 w2 w3 w4 w5 w6 w7 w8 w9 w10 w11 w12 v0 v1 v2 w2 v0 h41 n0 O41 S_w0 S_w1 S_w2 S_w3 S_w4 S_w5 S_w6 S_w7 S_w8 S_w9 S_w10 S_w11 S_w12 S_v1 E_w0 E_w1 E_w2 E_w3 E_w4 E_w5 E_w6 E_w7 E_w8 E_w9 E_w10 E_w11 E_w12 M_w0 M_w1 M_w2 M_w3 M_w4 M_w5 M_w6 M_w7 M_w8 M_w9 M_w10 M_w11 M_w12 ne_w0_w10 ne_w1_w10 ne_w2_w10 ne_w3_w10 ne_w4_w10 ne_w5_w10 ne_w6_w10 ne_w7_w10 ne_w8_w10 ne_w9_w10 ne_w11_w10 ne_w12_w10 ne_w0_w11 ne_w1_w11 ne_w2_w11 ne_w3_w11 ne_w4_w11 ne_w5_w11 ne_w6_w11 ne_w7_w11 ne_w8_w11 ne_w9_w11 ne_w12_w11 ne_v0_v1 ne_v2_v1   (M_w2.ext O41.2)) hZ (hw _ (List.mem_of_getElem? (i := 43) rfl)) (hw _ (List.mem_of_getElem? (i := 3) rfl)) (by decide) (by decide)) q64a q64c (g := (mkF m 187 #[.val (.int y), .val (.ref b1), .val (.ref b28), .val (.int (2 : Int32)), .val (.ref w2), .val (.int (0 : Int32))] [(.ref w2), (.int (0 : Int32))])) rfl (by rw [hml]; rfl) (Steps.refl _) (argsL := []) (rest := [(.int (0 : Int32))]) (lenOf pd_1 rfl) rfl (by show 2 * 0 + _ ≤ _; exact Nat.le_of_eq rfl) (hb hby at_187) (fun _ _ => ⟨rfl, e62, (by decide : 2 + 0 ≤ _), (by decide : 26 + 0 ≤ _)⟩)
    dsimp only [Pt.U, Pt.locs, Pt.cells, Pt.slots] at X64 l64 y64 z64 st64 hQ64
    rw [l64, y64, z64] at X64
    obtain ⟨rfl, N64q, e64⟩ := hQ64
    have N64 := Fr.app N62 N64q
    obtain ⟨T65, X65, e65, st65⟩ := getS2 X64 hx hZ hown (host := "") (Or.inl (hw _ (List.mem_of_getElem? (i := 48) rfl))) Via.refl e64 (S_v1.ext O41.2) (g := (mkF m 190 #[.val (.int y), .val (.ref b1), .val (.ref b28), .val (.int (2 : Int32)), .val (.ref w2), .val (.int (0 : Int32))] [(.ref v0), (.int (0 : Int32))])) rfl (hb hby at_190)
    have R66 : ∀ t, Steps p.tables e below (T65.setTop (mkF m 209 #[.val (.int y), .val (.ref b1), .val (.ref b28), .val (.int (2 : Int32)), .val (.ref w2), .val (.int (0 : Int32))] [(.int (1 : Int32))])) t → Steps p.tables e below (s₁.setTop (entryFrame m #[(.int y)] maxLocals)) t := by
      intro t k
      refine R59 t ?_
      show Steps p.tables e below (T41.setTop (mkF m 165 #[.val (.int y), .val (.ref b1), .val (.ref b28), .val (.int (2 : Int32)), .unset, .unset] [(.int (2 : Int32)), (.ref b1)])) t
      refine X41.aaload hx (j := (2 : Int32)) (v := (.ref w2)) (by rw [e41]; exact Ar61.1) (State.isArrayOf_alike hZ.alike Ar61.2.1) rfl Ar61.2.2 in61 at61 (g := (mkF m 165 #[.val (.int y), .val (.ref b1), .val (.ref b28), .val (.int (2 : Int32)), .unset, .unset] [(.int (2 : Int32)), (.ref b1)])) rfl rfl (hb hby at_165) _ ?_
      show Steps p.tables e below (T41.setTop (mkF m 166 #[.val (.int y), .val (.ref b1), .val (.ref b28), .val (.int (2 : Int32)), .unset, .unset] [(.ref w2)])) t
      refine XS.astore X41.here hx rfl (hb hby at_166) rfl rfl (l' := #[.val (.int y), .val (.ref b1), .val (.ref b28), .val (.int (2 : Int32)), .val (.ref w2), .unset]) rfl ?_
      show Steps p.tables e below (T41.setTop (mkF m 168 #[.val (.int y), .val (.ref b1), .val (.ref b28), .val (.int (2 : Int32)), .val (.ref w2), .unset] [])) t
      refine XS.aload X41.here hx rfl (hb hby at_168) rfl rfl ?_
      show Steps p.tables e below (T41.setTop (mkF m 170 #[.val (.int y), .val (.ref b1), .val (.ref b28), .val (.int (2 : Int32)), .val (.ref w2), .unset] [(.ref w2)])) t
      refine st62.trans ?_
      show Steps p.tables e below (T62.setTop (mkF m 173 #[.val (.int y), .val (.ref b1), .val (.ref b28), .val (.int (2 : Int32)), .val (.ref w2), .unset] [(.int (0 : Int32))])) t
      refine XS.istore X62.here hx rfl (hb hby at_173) rfl (l' := #[.val (.int y), .val (.ref b1), .val (.ref b28), .val (.int (2 : Int32)), .val (.ref w2), .val (.int (0 : Int32))]) rfl ?_
      show Steps p.tables e below (T62.setTop (mkF m 175 #[.val (.int y), .val (.ref b1), .val (.ref b28), .val (.int (2 : Int32)), .val (.ref w2), .val (.int (0 : Int32))] [])) t
      refine XS.iload X62.here hx rfl (hb hby at_175) rfl ?_
      show Steps p.tables e below (T62.setTop (mkF m 177 #[.val (.int y), .val (.ref b1), .val (.ref b28), .val (.int (2 : Int32)), .val (.ref w2), .val (.int (0 : Int32))] [(.int (0 : Int32))])) t
      refine XS.aloadN X62.here hx rfl (hb hby at_177) rfl rfl ?_
      show Steps p.tables e below (T62.setTop (mkF m 178 #[.val (.int y), .val (.ref b1), .val (.ref b28), .val (.int (2 : Int32)), .val (.ref w2), .val (.int (0 : Int32))] [(.ref b28), (.int (0 : Int32))])) t
      refine XS.iloadN X62.here hx rfl (hb hby at_178) rfl ?_
      show Steps p.tables e below (T62.setTop (mkF m 179 #[.val (.int y), .val (.ref b1), .val (.ref b28), .val (.int (2 : Int32)), .val (.ref w2), .val (.int (0 : Int32))] [(.int (2 : Int32)), (.ref b28), (.int (0 : Int32))])) t
      refine X62.baloadBooleans hx (j := (2 : Int32)) (v := (.int (0 : Int32))) (by rw [e62]; exact Ar63.1) (State.isArrayOf_alike hZ.alike Ar63.2.1) Ar63.2.2 in63 at63 (g := (mkF m 179 #[.val (.int y), .val (.ref b1), .val (.ref b28), .val (.int (2 : Int32)), .val (.ref w2), .val (.int (0 : Int32))] [(.int (2 : Int32)), (.ref b28), (.int (0 : Int32))])) rfl rfl (hb hby at_179) _ ?_
      show Steps p.tables e below (T62.setTop (mkF m 180 #[.val (.int y), .val (.ref b1), .val (.ref b28), .val (.int (2 : Int32)), .val (.ref w2), .val (.int (0 : Int32))] [(.int (0 : Int32)), (.int (0 : Int32))])) t
      refine XS.icmpNo X62.here hx rfl (hb hby at_180) rfl (teq ((by decide) : (0 : Int32) = (0 : Int32))).2 ?_
      show Steps p.tables e below (T62.setTop (mkF m 183 #[.val (.int y), .val (.ref b1), .val (.ref b28), .val (.int (2 : Int32)), .val (.ref w2), .val (.int (0 : Int32))] [])) t
      refine XS.iload X62.here hx rfl (hb hby at_183) rfl ?_
      show Steps p.tables e below (T62.setTop (mkF m 185 #[.val (.int y), .val (.ref b1), .val (.ref b28), .val (.int (2 : Int32)), .val (.ref w2), .val (.int (0 : Int32))] [(.int (0 : Int32))])) t
      refine XS.aload X62.here hx rfl (hb hby at_185) rfl rfl ?_
      show Steps p.tables e below (T62.setTop (mkF m 187 #[.val (.int y), .val (.ref b1), .val (.ref b28), .val (.int (2 : Int32)), .val (.ref w2), .val (.int (0 : Int32))] [(.ref w2), (.int (0 : Int32))])) t
      refine st64.trans ?_
      show Steps p.tables e below (T64.setTop (mkF m 190 #[.val (.int y), .val (.ref b1), .val (.ref b28), .val (.int (2 : Int32)), .val (.ref w2), .val (.int (0 : Int32))] [(.ref v0), (.int (0 : Int32))])) t
      refine st65 _ ?_
      show Steps p.tables e below (T65.setTop (mkF m 193 #[.val (.int y), .val (.ref b1), .val (.ref b28), .val (.int (2 : Int32)), .val (.ref w2), .val (.int (0 : Int32))] [(.ref v1), (.ref v0), (.int (0 : Int32))])) t
      refine Jvm.RoadKit.acmp (g := (mkF m 193 #[.val (.int y), .val (.ref b1), .val (.ref b28), .val (.int (2 : Int32)), .val (.ref w2), .val (.int (0 : Int32))] [(.ref v1), (.ref v0), (.int (0 : Int32))])) X65 hx rfl rfl rfl (pc0 := 193) (pc' := 200) (same := false) rfl (hb hby at_193) rfl (decide_eq_false (fun q => ne_v0_v1 (Value.ref.inj q))) (by decide) (by decide) ?_
      show Steps p.tables e below (T65.setTop (mkF m 200 #[.val (.int y), .val (.ref b1), .val (.ref b28), .val (.int (2 : Int32)), .val (.ref w2), .val (.int (0 : Int32))] [(.int (0 : Int32))])) t
      refine XS.iconst X65.here hx rfl (hb hby at_200) ?_
      show Steps p.tables e below (T65.setTop (mkF m 201 #[.val (.int y), .val (.ref b1), .val (.ref b28), .val (.int (2 : Int32)), .val (.ref w2), .val (.int (0 : Int32))] [(.int (0 : Int32)), (.int (0 : Int32))])) t
      refine XS.icmpNo X65.here hx rfl (hb hby at_201) rfl (teq ((by decide) : (0 : Int32) = (0 : Int32))).2 ?_
      show Steps p.tables e below (T65.setTop (mkF m 204 #[.val (.int y), .val (.ref b1), .val (.ref b28), .val (.int (2 : Int32)), .val (.ref w2), .val (.int (0 : Int32))] [])) t
      refine XS.iconst X65.here hx rfl (hb hby at_204) ?_
      show Steps p.tables e below (T65.setTop (mkF m 205 #[.val (.int y), .val (.ref b1), .val (.ref b28), .val (.int (2 : Int32)), .val (.ref w2), .val (.int (0 : Int32))] [(.int (1 : Int32))])) t
      refine XS.goto X65.here hx rfl (pc0 := 205) (pc' := 209) rfl (hb hby at_205) (by decide) (by decide) ?_
      exact k
    obtain ⟨fs, hr, hrun, hended, hW, hsame⟩ := X65.leave (v := some (.int (1 : Int32))) (fun h => by rw [Bd.returns] at h; cases h)
    refine ⟨_, _, R66 _ ?_, hrun, hended, _, _, rfl, ?_, ⟨_, rfl⟩, hW, hsame.mono (by decide) (by decide)⟩
    · show Steps p.tables e below (T65.setTop (mkF m 209 #[.val (.int y), .val (.ref b1), .val (.ref b28), .val (.int (2 : Int32)), .val (.ref w2), .val (.int (0 : Int32))] [(.int (1 : Int32))])) _
      exact retN X65 hx (t := .boolean) Bd.returns (by simp) (hb hby at_209) hr
    · show Q_rm0 Z w0 w1 w2 w3 w4 w5 w6 w7 w8 w9 w10 w11 w12 v0 v1 v2 y h0 n0 _ T65.heap _
      rw [e65]
      exact ⟨rfl, N64⟩
  · have R67 := R42
    rw [hi] at R67
    have f68 : Arv Z h41 b1 k1 (.object "com/example/transcript_search/transcriptsearch/fusion/FusionMethod") (13 : Int32) [(.ref w0), (.ref w1), (.ref w2), (.ref w3), (.ref w4), (.ref w5), (.ref w6), (.ref w7), (.ref w8), (.ref w9), (.ref w10), (.ref w11), (.ref w12)] .null := ((((((((((((((V27.ext E28).other W29 ne_b1_b28).other W30 ne_b1_b28).other W31 ne_b1_b28).other W32 ne_b1_b28).other W33 ne_b1_b28).other W34 ne_b1_b28).other W35 ne_b1_b28).other W36 ne_b1_b28).other W37 ne_b1_b28).other W38 ne_b1_b28).other W39 ne_b1_b28).other W40 ne_b1_b28).other W41 ne_b1_b28)
    obtain ⟨cl69, Ar69, q69, S69, M69, H69, G69⟩ := id f68
    have in69 : ¬ ((3 : Int32) < 0 ∨ cl69.slots.size ≤ ((3 : Int32)).toNatClampNeg) := inb_of S69 ⟨by decide, by decide⟩
    have at69 : cl69.slots[((3 : Int32)).toNatClampNeg]? = some (.ref w3) := H69.at in69 rfl
    obtain ⟨cq70, kq70, q70a, q70b, q70c⟩ := isOf hZ e41 (E_w3.ext O41.2)
    obtain ⟨_, _, ⟨T70, L70, k70, n70⟩, -, X70, ⟨Lc70, hQ70, l70, y70, z70⟩, st70⟩ := X41.virtualBack hx (y := (⟨"com/example/transcript_search/transcriptsearch/fusion/FusionMethod", "countsUnscalableRunsAsZero", "()Z"⟩ : MethodName)) (z := (⟨"com/example/transcript_search/transcriptsearch/fusion/FusionMethod", "countsUnscalableRunsAsZero", "()Z"⟩ : MethodName)) hown (mvT hZ (hw _ (List.mem_of_getElem? (i := 32) rfl))) (mvT hZ (hw _ (List.mem_of_getElem? (i := 33) rfl))) (notFace_of_selects (args := #[]) (mvT hZ (hw _ (List.mem_of_getElem? (i := 35) rfl)))) (mvT hZ (hw _ (List.mem_of_getElem? (i := 35) rfl))) (mvT hZ (hw _ (List.mem_of_getElem? (i := 34) rfl))) (by decide) (backOf (W := 0) (czo l Z a0 hw [] w0 w1 w2 w3 w4 w5 w6 w7 w8 w9 w10 w11 w12 v0 v1 v2 w3 h41 n0 O41 S_w0 S_w1 S_w2 S_w3 S_w4 S_w5 S_w6 S_w7 S_w8 S_w9 S_w10 S_w11 S_w12 S_v1 E_w0 E_w1 E_w2 E_w3 E_w4 E_w5 E_w6 E_w7 E_w8 E_w9 E_w10 E_w11 E_w12 M_w0 M_w1 M_w2 M_w3 M_w4 M_w5 M_w6 M_w7 M_w8 M_w9 M_w10 M_w11 M_w12 ne_w0_w10 ne_w1_w10 ne_w2_w10 ne_w3_w10 ne_w4_w10 ne_w5_w10 ne_w6_w10 ne_w7_w10 ne_w8_w10 ne_w9_w10 ne_w11_w10 ne_w12_w10 ne_w0_w11 ne_w1_w11 ne_w2_w11 ne_w3_w11 ne_w4_w11 ne_w5_w11 ne_w6_w11 ne_w7_w11 ne_w8_w11 ne_w9_w11 ne_w12_w11 ne_v0_v1 ne_v2_v1  ne_w3_w10 ne_w3_w11 ) hZ (hw _ (List.mem_of_getElem? (i := 36) rfl)) (hw _ (List.mem_of_getElem? (i := 3) rfl)) (by decide) (by decide)) q70a q70c (g := (mkF m 170 #[.val (.int y), .val (.ref b1), .val (.ref b28), .val (.int (3 : Int32)), .val (.ref w3), .unset] [(.ref w3)])) rfl (by rw [hml]; rfl) (Steps.refl _) (argsL := []) (rest := []) (lenOf pd_0 rfl) rfl (by show 2 * 0 + _ ≤ _; exact Nat.le_of_eq rfl) (hb hby at_170) (fun _ _ => ⟨rfl, e41, (by decide : 2 + 0 ≤ _), (by decide : 26 + 0 ≤ _)⟩)
    dsimp only [Pt.U, Pt.locs, Pt.cells, Pt.slots] at X70 l70 y70 z70 st70 hQ70
    rw [l70, y70, z70] at X70
    obtain ⟨rfl, N70q, e70⟩ := hQ70
    have N70 := Fr.app N41 N70q
    obtain ⟨cl71, Ar71, q71, S71, M71, H71, G71⟩ := id V41
    have in71 : ¬ ((3 : Int32) < 0 ∨ cl71.slots.size ≤ ((3 : Int32)).toNatClampNeg) := inb_of S71 ⟨by decide, by decide⟩
    have at71 : cl71.slots[((3 : Int32)).toNatClampNeg]? = some (.int (0 : Int32)) := H71.at in71 rfl
    obtain ⟨cq72, kq72, q72a, q72b, q72c⟩ := isOf hZ e70 (E_w3.ext O41.2)
    obtain ⟨_, _, ⟨T72, L72, k72, n72⟩, -, X72, ⟨Lc72, hQ72, l72, y72, z72⟩, st72⟩ := X70.virtualBack hx (y := (⟨"com/example/transcript_search/transcriptsearch/fusion/FusionMethod", "defaultNormalisation", "()Lcom/example/transcript_search/transcriptsearch/fusion/Normalisation;"⟩ : MethodName)) (z := (⟨"com/example/transcript_search/transcriptsearch/fusion/FusionMethod", "defaultNormalisation", "()Lcom/example/transcript_search/transcriptsearch/fusion/Normalisation;"⟩ : MethodName)) hown (mvT hZ (hw _ (List.mem_of_getElem? (i := 39) rfl))) (mvT hZ (hw _ (List.mem_of_getElem? (i := 40) rfl))) (notFace_of_selects (args := #[]) (mvT hZ (hw _ (List.mem_of_getElem? (i := 42) rfl)))) (mvT hZ (hw _ (List.mem_of_getElem? (i := 42) rfl))) (mvT hZ (hw _ (List.mem_of_getElem? (i := 41) rfl))) (by decide) (backOf (W := 1) (dn l Z a0 hw [] w0 w1 w2 w3 w4 w5 w6 w7 w8 w9 w10 w11 w12 v0 v1 v2 w3 v0 h41 n0 O41 S_w0 S_w1 S_w2 S_w3 S_w4 S_w5 S_w6 S_w7 S_w8 S_w9 S_w10 S_w11 S_w12 S_v1 E_w0 E_w1 E_w2 E_w3 E_w4 E_w5 E_w6 E_w7 E_w8 E_w9 E_w10 E_w11 E_w12 M_w0 M_w1 M_w2 M_w3 M_w4 M_w5 M_w6 M_w7 M_w8 M_w9 M_w10 M_w11 M_w12 ne_w0_w10 ne_w1_w10 ne_w2_w10 ne_w3_w10 ne_w4_w10 ne_w5_w10 ne_w6_w10 ne_w7_w10 ne_w8_w10 ne_w9_w10 ne_w11_w10 ne_w12_w10 ne_w0_w11 ne_w1_w11 ne_w2_w11 ne_w3_w11 ne_w4_w11 ne_w5_w11 ne_w6_w11 ne_w7_w11 ne_w8_w11 ne_w9_w11 ne_w12_w11 ne_v0_v1 ne_v2_v1   (M_w3.ext O41.2)) hZ (hw _ (List.mem_of_getElem? (i := 43) rfl)) (hw _ (List.mem_of_getElem? (i := 3) rfl)) (by decide) (by decide)) q72a q72c (g := (mkF m 187 #[.val (.int y), .val (.ref b1), .val (.ref b28), .val (.int (3 : Int32)), .val (.ref w3), .val (.int (0 : Int32))] [(.ref w3), (.int (0 : Int32))])) rfl (by rw [hml]; rfl) (Steps.refl _) (argsL := []) (rest := [(.int (0 : Int32))]) (lenOf pd_1 rfl) rfl (by show 2 * 0 + _ ≤ _; exact Nat.le_of_eq rfl) (hb hby at_187) (fun _ _ => ⟨rfl, e70, (by decide : 2 + 0 ≤ _), (by decide : 26 + 0 ≤ _)⟩)
    dsimp only [Pt.U, Pt.locs, Pt.cells, Pt.slots] at X72 l72 y72 z72 st72 hQ72
    rw [l72, y72, z72] at X72
    obtain ⟨rfl, N72q, e72⟩ := hQ72
    have N72 := Fr.app N70 N72q
    obtain ⟨T73, X73, e73, st73⟩ := getS2 X72 hx hZ hown (host := "") (Or.inl (hw _ (List.mem_of_getElem? (i := 48) rfl))) Via.refl e72 (S_v1.ext O41.2) (g := (mkF m 190 #[.val (.int y), .val (.ref b1), .val (.ref b28), .val (.int (3 : Int32)), .val (.ref w3), .val (.int (0 : Int32))] [(.ref v0), (.int (0 : Int32))])) rfl (hb hby at_190)
    have R74 : ∀ t, Steps p.tables e below (T73.setTop (mkF m 209 #[.val (.int y), .val (.ref b1), .val (.ref b28), .val (.int (3 : Int32)), .val (.ref w3), .val (.int (0 : Int32))] [(.int (1 : Int32))])) t → Steps p.tables e below (s₁.setTop (entryFrame m #[(.int y)] maxLocals)) t := by
      intro t k
      refine R67 t ?_
      show Steps p.tables e below (T41.setTop (mkF m 165 #[.val (.int y), .val (.ref b1), .val (.ref b28), .val (.int (3 : Int32)), .unset, .unset] [(.int (3 : Int32)), (.ref b1)])) t
      refine X41.aaload hx (j := (3 : Int32)) (v := (.ref w3)) (by rw [e41]; exact Ar69.1) (State.isArrayOf_alike hZ.alike Ar69.2.1) rfl Ar69.2.2 in69 at69 (g := (mkF m 165 #[.val (.int y), .val (.ref b1), .val (.ref b28), .val (.int (3 : Int32)), .unset, .unset] [(.int (3 : Int32)), (.ref b1)])) rfl rfl (hb hby at_165) _ ?_
      show Steps p.tables e below (T41.setTop (mkF m 166 #[.val (.int y), .val (.ref b1), .val (.ref b28), .val (.int (3 : Int32)), .unset, .unset] [(.ref w3)])) t
      refine XS.astore X41.here hx rfl (hb hby at_166) rfl rfl (l' := #[.val (.int y), .val (.ref b1), .val (.ref b28), .val (.int (3 : Int32)), .val (.ref w3), .unset]) rfl ?_
      show Steps p.tables e below (T41.setTop (mkF m 168 #[.val (.int y), .val (.ref b1), .val (.ref b28), .val (.int (3 : Int32)), .val (.ref w3), .unset] [])) t
      refine XS.aload X41.here hx rfl (hb hby at_168) rfl rfl ?_
      show Steps p.tables e below (T41.setTop (mkF m 170 #[.val (.int y), .val (.ref b1), .val (.ref b28), .val (.int (3 : Int32)), .val (.ref w3), .unset] [(.ref w3)])) t
      refine st70.trans ?_
      show Steps p.tables e below (T70.setTop (mkF m 173 #[.val (.int y), .val (.ref b1), .val (.ref b28), .val (.int (3 : Int32)), .val (.ref w3), .unset] [(.int (0 : Int32))])) t
      refine XS.istore X70.here hx rfl (hb hby at_173) rfl (l' := #[.val (.int y), .val (.ref b1), .val (.ref b28), .val (.int (3 : Int32)), .val (.ref w3), .val (.int (0 : Int32))]) rfl ?_
      show Steps p.tables e below (T70.setTop (mkF m 175 #[.val (.int y), .val (.ref b1), .val (.ref b28), .val (.int (3 : Int32)), .val (.ref w3), .val (.int (0 : Int32))] [])) t
      refine XS.iload X70.here hx rfl (hb hby at_175) rfl ?_
      show Steps p.tables e below (T70.setTop (mkF m 177 #[.val (.int y), .val (.ref b1), .val (.ref b28), .val (.int (3 : Int32)), .val (.ref w3), .val (.int (0 : Int32))] [(.int (0 : Int32))])) t
      refine XS.aloadN X70.here hx rfl (hb hby at_177) rfl rfl ?_
      show Steps p.tables e below (T70.setTop (mkF m 178 #[.val (.int y), .val (.ref b1), .val (.ref b28), .val (.int (3 : Int32)), .val (.ref w3), .val (.int (0 : Int32))] [(.ref b28), (.int (0 : Int32))])) t
      refine XS.iloadN X70.here hx rfl (hb hby at_178) rfl ?_
      show Steps p.tables e below (T70.setTop (mkF m 179 #[.val (.int y), .val (.ref b1), .val (.ref b28), .val (.int (3 : Int32)), .val (.ref w3), .val (.int (0 : Int32))] [(.int (3 : Int32)), (.ref b28), (.int (0 : Int32))])) t
      refine X70.baloadBooleans hx (j := (3 : Int32)) (v := (.int (0 : Int32))) (by rw [e70]; exact Ar71.1) (State.isArrayOf_alike hZ.alike Ar71.2.1) Ar71.2.2 in71 at71 (g := (mkF m 179 #[.val (.int y), .val (.ref b1), .val (.ref b28), .val (.int (3 : Int32)), .val (.ref w3), .val (.int (0 : Int32))] [(.int (3 : Int32)), (.ref b28), (.int (0 : Int32))])) rfl rfl (hb hby at_179) _ ?_
      show Steps p.tables e below (T70.setTop (mkF m 180 #[.val (.int y), .val (.ref b1), .val (.ref b28), .val (.int (3 : Int32)), .val (.ref w3), .val (.int (0 : Int32))] [(.int (0 : Int32)), (.int (0 : Int32))])) t
      refine XS.icmpNo X70.here hx rfl (hb hby at_180) rfl (teq ((by decide) : (0 : Int32) = (0 : Int32))).2 ?_
      show Steps p.tables e below (T70.setTop (mkF m 183 #[.val (.int y), .val (.ref b1), .val (.ref b28), .val (.int (3 : Int32)), .val (.ref w3), .val (.int (0 : Int32))] [])) t
      refine XS.iload X70.here hx rfl (hb hby at_183) rfl ?_
      show Steps p.tables e below (T70.setTop (mkF m 185 #[.val (.int y), .val (.ref b1), .val (.ref b28), .val (.int (3 : Int32)), .val (.ref w3), .val (.int (0 : Int32))] [(.int (0 : Int32))])) t
      refine XS.aload X70.here hx rfl (hb hby at_185) rfl rfl ?_
      show Steps p.tables e below (T70.setTop (mkF m 187 #[.val (.int y), .val (.ref b1), .val (.ref b28), .val (.int (3 : Int32)), .val (.ref w3), .val (.int (0 : Int32))] [(.ref w3), (.int (0 : Int32))])) t
      refine st72.trans ?_
      show Steps p.tables e below (T72.setTop (mkF m 190 #[.val (.int y), .val (.ref b1), .val (.ref b28), .val (.int (3 : Int32)), .val (.ref w3), .val (.int (0 : Int32))] [(.ref v0), (.int (0 : Int32))])) t
      refine st73 _ ?_
      show Steps p.tables e below (T73.setTop (mkF m 193 #[.val (.int y), .val (.ref b1), .val (.ref b28), .val (.int (3 : Int32)), .val (.ref w3), .val (.int (0 : Int32))] [(.ref v1), (.ref v0), (.int (0 : Int32))])) t
      refine Jvm.RoadKit.acmp (g := (mkF m 193 #[.val (.int y), .val (.ref b1), .val (.ref b28), .val (.int (3 : Int32)), .val (.ref w3), .val (.int (0 : Int32))] [(.ref v1), (.ref v0), (.int (0 : Int32))])) X73 hx rfl rfl rfl (pc0 := 193) (pc' := 200) (same := false) rfl (hb hby at_193) rfl (decide_eq_false (fun q => ne_v0_v1 (Value.ref.inj q))) (by decide) (by decide) ?_
      show Steps p.tables e below (T73.setTop (mkF m 200 #[.val (.int y), .val (.ref b1), .val (.ref b28), .val (.int (3 : Int32)), .val (.ref w3), .val (.int (0 : Int32))] [(.int (0 : Int32))])) t
      refine XS.iconst X73.here hx rfl (hb hby at_200) ?_
      show Steps p.tables e below (T73.setTop (mkF m 201 #[.val (.int y), .val (.ref b1), .val (.ref b28), .val (.int (3 : Int32)), .val (.ref w3), .val (.int (0 : Int32))] [(.int (0 : Int32)), (.int (0 : Int32))])) t
      refine XS.icmpNo X73.here hx rfl (hb hby at_201) rfl (teq ((by decide) : (0 : Int32) = (0 : Int32))).2 ?_
      show Steps p.tables e below (T73.setTop (mkF m 204 #[.val (.int y), .val (.ref b1), .val (.ref b28), .val (.int (3 : Int32)), .val (.ref w3), .val (.int (0 : Int32))] [])) t
      refine XS.iconst X73.here hx rfl (hb hby at_204) ?_
      show Steps p.tables e below (T73.setTop (mkF m 205 #[.val (.int y), .val (.ref b1), .val (.ref b28), .val (.int (3 : Int32)), .val (.ref w3), .val (.int (0 : Int32))] [(.int (1 : Int32))])) t
      refine XS.goto X73.here hx rfl (pc0 := 205) (pc' := 209) rfl (hb hby at_205) (by decide) (by decide) ?_
      exact k
    obtain ⟨fs, hr, hrun, hended, hW, hsame⟩ := X73.leave (v := some (.int (1 : Int32))) (fun h => by rw [Bd.returns] at h; cases h)
    refine ⟨_, _, R74 _ ?_, hrun, hended, _, _, rfl, ?_, ⟨_, rfl⟩, hW, hsame.mono (by decide) (by decide)⟩
    · show Steps p.tables e below (T73.setTop (mkF m 209 #[.val (.int y), .val (.ref b1), .val (.ref b28), .val (.int (3 : Int32)), .val (.ref w3), .val (.int (0 : Int32))] [(.int (1 : Int32))])) _
      exact retN X73 hx (t := .boolean) Bd.returns (by simp) (hb hby at_209) hr
    · show Q_rm0 Z w0 w1 w2 w3 w4 w5 w6 w7 w8 w9 w10 w11 w12 v0 v1 v2 y h0 n0 _ T73.heap _
      rw [e73]
      exact ⟨rfl, N72⟩
  · have R75 := R42
    rw [hi] at R75
    have f76 : Arv Z h41 b1 k1 (.object "com/example/transcript_search/transcriptsearch/fusion/FusionMethod") (13 : Int32) [(.ref w0), (.ref w1), (.ref w2), (.ref w3), (.ref w4), (.ref w5), (.ref w6), (.ref w7), (.ref w8), (.ref w9), (.ref w10), (.ref w11), (.ref w12)] .null := ((((((((((((((V27.ext E28).other W29 ne_b1_b28).other W30 ne_b1_b28).other W31 ne_b1_b28).other W32 ne_b1_b28).other W33 ne_b1_b28).other W34 ne_b1_b28).other W35 ne_b1_b28).other W36 ne_b1_b28).other W37 ne_b1_b28).other W38 ne_b1_b28).other W39 ne_b1_b28).other W40 ne_b1_b28).other W41 ne_b1_b28)
    obtain ⟨cl77, Ar77, q77, S77, M77, H77, G77⟩ := id f76
    have in77 : ¬ ((4 : Int32) < 0 ∨ cl77.slots.size ≤ ((4 : Int32)).toNatClampNeg) := inb_of S77 ⟨by decide, by decide⟩
    have at77 : cl77.slots[((4 : Int32)).toNatClampNeg]? = some (.ref w4) := H77.at in77 rfl
    obtain ⟨cq78, kq78, q78a, q78b, q78c⟩ := isOf hZ e41 (E_w4.ext O41.2)
    obtain ⟨_, _, ⟨T78, L78, k78, n78⟩, -, X78, ⟨Lc78, hQ78, l78, y78, z78⟩, st78⟩ := X41.virtualBack hx (y := (⟨"com/example/transcript_search/transcriptsearch/fusion/FusionMethod", "countsUnscalableRunsAsZero", "()Z"⟩ : MethodName)) (z := (⟨"com/example/transcript_search/transcriptsearch/fusion/FusionMethod", "countsUnscalableRunsAsZero", "()Z"⟩ : MethodName)) hown (mvT hZ (hw _ (List.mem_of_getElem? (i := 32) rfl))) (mvT hZ (hw _ (List.mem_of_getElem? (i := 33) rfl))) (notFace_of_selects (args := #[]) (mvT hZ (hw _ (List.mem_of_getElem? (i := 35) rfl)))) (mvT hZ (hw _ (List.mem_of_getElem? (i := 35) rfl))) (mvT hZ (hw _ (List.mem_of_getElem? (i := 34) rfl))) (by decide) (backOf (W := 0) (czo l Z a0 hw [] w0 w1 w2 w3 w4 w5 w6 w7 w8 w9 w10 w11 w12 v0 v1 v2 w4 h41 n0 O41 S_w0 S_w1 S_w2 S_w3 S_w4 S_w5 S_w6 S_w7 S_w8 S_w9 S_w10 S_w11 S_w12 S_v1 E_w0 E_w1 E_w2 E_w3 E_w4 E_w5 E_w6 E_w7 E_w8 E_w9 E_w10 E_w11 E_w12 M_w0 M_w1 M_w2 M_w3 M_w4 M_w5 M_w6 M_w7 M_w8 M_w9 M_w10 M_w11 M_w12 ne_w0_w10 ne_w1_w10 ne_w2_w10 ne_w3_w10 ne_w4_w10 ne_w5_w10 ne_w6_w10 ne_w7_w10 ne_w8_w10 ne_w9_w10 ne_w11_w10 ne_w12_w10 ne_w0_w11 ne_w1_w11 ne_w2_w11 ne_w3_w11 ne_w4_w11 ne_w5_w11 ne_w6_w11 ne_w7_w11 ne_w8_w11 ne_w9_w11 ne_w12_w11 ne_v0_v1 ne_v2_v1  ne_w4_w10 ne_w4_w11 ) hZ (hw _ (List.mem_of_getElem? (i := 36) rfl)) (hw _ (List.mem_of_getElem? (i := 3) rfl)) (by decide) (by decide)) q78a q78c (g := (mkF m 170 #[.val (.int y), .val (.ref b1), .val (.ref b28), .val (.int (4 : Int32)), .val (.ref w4), .unset] [(.ref w4)])) rfl (by rw [hml]; rfl) (Steps.refl _) (argsL := []) (rest := []) (lenOf pd_0 rfl) rfl (by show 2 * 0 + _ ≤ _; exact Nat.le_of_eq rfl) (hb hby at_170) (fun _ _ => ⟨rfl, e41, (by decide : 2 + 0 ≤ _), (by decide : 26 + 0 ≤ _)⟩)
    dsimp only [Pt.U, Pt.locs, Pt.cells, Pt.slots] at X78 l78 y78 z78 st78 hQ78
    rw [l78, y78, z78] at X78
    obtain ⟨rfl, N78q, e78⟩ := hQ78
    have N78 := Fr.app N41 N78q
    obtain ⟨cl79, Ar79, q79, S79, M79, H79, G79⟩ := id V41
    have in79 : ¬ ((4 : Int32) < 0 ∨ cl79.slots.size ≤ ((4 : Int32)).toNatClampNeg) := inb_of S79 ⟨by decide, by decide⟩
    have at79 : cl79.slots[((4 : Int32)).toNatClampNeg]? = some (.int (0 : Int32)) := H79.at in79 rfl
    obtain ⟨cq80, kq80, q80a, q80b, q80c⟩ := isOf hZ e78 (E_w4.ext O41.2)
    obtain ⟨_, _, ⟨T80, L80, k80, n80⟩, -, X80, ⟨Lc80, hQ80, l80, y80, z80⟩, st80⟩ := X78.virtualBack hx (y := (⟨"com/example/transcript_search/transcriptsearch/fusion/FusionMethod", "defaultNormalisation", "()Lcom/example/transcript_search/transcriptsearch/fusion/Normalisation;"⟩ : MethodName)) (z := (⟨"com/example/transcript_search/transcriptsearch/fusion/FusionMethod", "defaultNormalisation", "()Lcom/example/transcript_search/transcriptsearch/fusion/Normalisation;"⟩ : MethodName)) hown (mvT hZ (hw _ (List.mem_of_getElem? (i := 39) rfl))) (mvT hZ (hw _ (List.mem_of_getElem? (i := 40) rfl))) (notFace_of_selects (args := #[]) (mvT hZ (hw _ (List.mem_of_getElem? (i := 42) rfl)))) (mvT hZ (hw _ (List.mem_of_getElem? (i := 42) rfl))) (mvT hZ (hw _ (List.mem_of_getElem? (i := 41) rfl))) (by decide) (backOf (W := 1) (dn l Z a0 hw [] w0 w1 w2 w3 w4 w5 w6 w7 w8 w9 w10 w11 w12 v0 v1 v2 w4 v0 h41 n0 O41 S_w0 S_w1 S_w2 S_w3 S_w4 S_w5 S_w6 S_w7 S_w8 S_w9 S_w10 S_w11 S_w12 S_v1 E_w0 E_w1 E_w2 E_w3 E_w4 E_w5 E_w6 E_w7 E_w8 E_w9 E_w10 E_w11 E_w12 M_w0 M_w1 M_w2 M_w3 M_w4 M_w5 M_w6 M_w7 M_w8 M_w9 M_w10 M_w11 M_w12 ne_w0_w10 ne_w1_w10 ne_w2_w10 ne_w3_w10 ne_w4_w10 ne_w5_w10 ne_w6_w10 ne_w7_w10 ne_w8_w10 ne_w9_w10 ne_w11_w10 ne_w12_w10 ne_w0_w11 ne_w1_w11 ne_w2_w11 ne_w3_w11 ne_w4_w11 ne_w5_w11 ne_w6_w11 ne_w7_w11 ne_w8_w11 ne_w9_w11 ne_w12_w11 ne_v0_v1 ne_v2_v1   (M_w4.ext O41.2)) hZ (hw _ (List.mem_of_getElem? (i := 43) rfl)) (hw _ (List.mem_of_getElem? (i := 3) rfl)) (by decide) (by decide)) q80a q80c (g := (mkF m 187 #[.val (.int y), .val (.ref b1), .val (.ref b28), .val (.int (4 : Int32)), .val (.ref w4), .val (.int (0 : Int32))] [(.ref w4), (.int (0 : Int32))])) rfl (by rw [hml]; rfl) (Steps.refl _) (argsL := []) (rest := [(.int (0 : Int32))]) (lenOf pd_1 rfl) rfl (by show 2 * 0 + _ ≤ _; exact Nat.le_of_eq rfl) (hb hby at_187) (fun _ _ => ⟨rfl, e78, (by decide : 2 + 0 ≤ _), (by decide : 26 + 0 ≤ _)⟩)
    dsimp only [Pt.U, Pt.locs, Pt.cells, Pt.slots] at X80 l80 y80 z80 st80 hQ80
    rw [l80, y80, z80] at X80
    obtain ⟨rfl, N80q, e80⟩ := hQ80
    have N80 := Fr.app N78 N80q
    obtain ⟨T81, X81, e81, st81⟩ := getS2 X80 hx hZ hown (host := "") (Or.inl (hw _ (List.mem_of_getElem? (i := 48) rfl))) Via.refl e80 (S_v1.ext O41.2) (g := (mkF m 190 #[.val (.int y), .val (.ref b1), .val (.ref b28), .val (.int (4 : Int32)), .val (.ref w4), .val (.int (0 : Int32))] [(.ref v0), (.int (0 : Int32))])) rfl (hb hby at_190)
    have R82 : ∀ t, Steps p.tables e below (T81.setTop (mkF m 209 #[.val (.int y), .val (.ref b1), .val (.ref b28), .val (.int (4 : Int32)), .val (.ref w4), .val (.int (0 : Int32))] [(.int (1 : Int32))])) t → Steps p.tables e below (s₁.setTop (entryFrame m #[(.int y)] maxLocals)) t := by
      intro t k
      refine R75 t ?_
      show Steps p.tables e below (T41.setTop (mkF m 165 #[.val (.int y), .val (.ref b1), .val (.ref b28), .val (.int (4 : Int32)), .unset, .unset] [(.int (4 : Int32)), (.ref b1)])) t
      refine X41.aaload hx (j := (4 : Int32)) (v := (.ref w4)) (by rw [e41]; exact Ar77.1) (State.isArrayOf_alike hZ.alike Ar77.2.1) rfl Ar77.2.2 in77 at77 (g := (mkF m 165 #[.val (.int y), .val (.ref b1), .val (.ref b28), .val (.int (4 : Int32)), .unset, .unset] [(.int (4 : Int32)), (.ref b1)])) rfl rfl (hb hby at_165) _ ?_
      show Steps p.tables e below (T41.setTop (mkF m 166 #[.val (.int y), .val (.ref b1), .val (.ref b28), .val (.int (4 : Int32)), .unset, .unset] [(.ref w4)])) t
      refine XS.astore X41.here hx rfl (hb hby at_166) rfl rfl (l' := #[.val (.int y), .val (.ref b1), .val (.ref b28), .val (.int (4 : Int32)), .val (.ref w4), .unset]) rfl ?_
      show Steps p.tables e below (T41.setTop (mkF m 168 #[.val (.int y), .val (.ref b1), .val (.ref b28), .val (.int (4 : Int32)), .val (.ref w4), .unset] [])) t
      refine XS.aload X41.here hx rfl (hb hby at_168) rfl rfl ?_
      show Steps p.tables e below (T41.setTop (mkF m 170 #[.val (.int y), .val (.ref b1), .val (.ref b28), .val (.int (4 : Int32)), .val (.ref w4), .unset] [(.ref w4)])) t
      refine st78.trans ?_
      show Steps p.tables e below (T78.setTop (mkF m 173 #[.val (.int y), .val (.ref b1), .val (.ref b28), .val (.int (4 : Int32)), .val (.ref w4), .unset] [(.int (0 : Int32))])) t
      refine XS.istore X78.here hx rfl (hb hby at_173) rfl (l' := #[.val (.int y), .val (.ref b1), .val (.ref b28), .val (.int (4 : Int32)), .val (.ref w4), .val (.int (0 : Int32))]) rfl ?_
      show Steps p.tables e below (T78.setTop (mkF m 175 #[.val (.int y), .val (.ref b1), .val (.ref b28), .val (.int (4 : Int32)), .val (.ref w4), .val (.int (0 : Int32))] [])) t
      refine XS.iload X78.here hx rfl (hb hby at_175) rfl ?_
      show Steps p.tables e below (T78.setTop (mkF m 177 #[.val (.int y), .val (.ref b1), .val (.ref b28), .val (.int (4 : Int32)), .val (.ref w4), .val (.int (0 : Int32))] [(.int (0 : Int32))])) t
      refine XS.aloadN X78.here hx rfl (hb hby at_177) rfl rfl ?_
      show Steps p.tables e below (T78.setTop (mkF m 178 #[.val (.int y), .val (.ref b1), .val (.ref b28), .val (.int (4 : Int32)), .val (.ref w4), .val (.int (0 : Int32))] [(.ref b28), (.int (0 : Int32))])) t
      refine XS.iloadN X78.here hx rfl (hb hby at_178) rfl ?_
      show Steps p.tables e below (T78.setTop (mkF m 179 #[.val (.int y), .val (.ref b1), .val (.ref b28), .val (.int (4 : Int32)), .val (.ref w4), .val (.int (0 : Int32))] [(.int (4 : Int32)), (.ref b28), (.int (0 : Int32))])) t
      refine X78.baloadBooleans hx (j := (4 : Int32)) (v := (.int (0 : Int32))) (by rw [e78]; exact Ar79.1) (State.isArrayOf_alike hZ.alike Ar79.2.1) Ar79.2.2 in79 at79 (g := (mkF m 179 #[.val (.int y), .val (.ref b1), .val (.ref b28), .val (.int (4 : Int32)), .val (.ref w4), .val (.int (0 : Int32))] [(.int (4 : Int32)), (.ref b28), (.int (0 : Int32))])) rfl rfl (hb hby at_179) _ ?_
      show Steps p.tables e below (T78.setTop (mkF m 180 #[.val (.int y), .val (.ref b1), .val (.ref b28), .val (.int (4 : Int32)), .val (.ref w4), .val (.int (0 : Int32))] [(.int (0 : Int32)), (.int (0 : Int32))])) t
      refine XS.icmpNo X78.here hx rfl (hb hby at_180) rfl (teq ((by decide) : (0 : Int32) = (0 : Int32))).2 ?_
      show Steps p.tables e below (T78.setTop (mkF m 183 #[.val (.int y), .val (.ref b1), .val (.ref b28), .val (.int (4 : Int32)), .val (.ref w4), .val (.int (0 : Int32))] [])) t
      refine XS.iload X78.here hx rfl (hb hby at_183) rfl ?_
      show Steps p.tables e below (T78.setTop (mkF m 185 #[.val (.int y), .val (.ref b1), .val (.ref b28), .val (.int (4 : Int32)), .val (.ref w4), .val (.int (0 : Int32))] [(.int (0 : Int32))])) t
      refine XS.aload X78.here hx rfl (hb hby at_185) rfl rfl ?_
      show Steps p.tables e below (T78.setTop (mkF m 187 #[.val (.int y), .val (.ref b1), .val (.ref b28), .val (.int (4 : Int32)), .val (.ref w4), .val (.int (0 : Int32))] [(.ref w4), (.int (0 : Int32))])) t
      refine st80.trans ?_
      show Steps p.tables e below (T80.setTop (mkF m 190 #[.val (.int y), .val (.ref b1), .val (.ref b28), .val (.int (4 : Int32)), .val (.ref w4), .val (.int (0 : Int32))] [(.ref v0), (.int (0 : Int32))])) t
      refine st81 _ ?_
      show Steps p.tables e below (T81.setTop (mkF m 193 #[.val (.int y), .val (.ref b1), .val (.ref b28), .val (.int (4 : Int32)), .val (.ref w4), .val (.int (0 : Int32))] [(.ref v1), (.ref v0), (.int (0 : Int32))])) t
      refine Jvm.RoadKit.acmp (g := (mkF m 193 #[.val (.int y), .val (.ref b1), .val (.ref b28), .val (.int (4 : Int32)), .val (.ref w4), .val (.int (0 : Int32))] [(.ref v1), (.ref v0), (.int (0 : Int32))])) X81 hx rfl rfl rfl (pc0 := 193) (pc' := 200) (same := false) rfl (hb hby at_193) rfl (decide_eq_false (fun q => ne_v0_v1 (Value.ref.inj q))) (by decide) (by decide) ?_
      show Steps p.tables e below (T81.setTop (mkF m 200 #[.val (.int y), .val (.ref b1), .val (.ref b28), .val (.int (4 : Int32)), .val (.ref w4), .val (.int (0 : Int32))] [(.int (0 : Int32))])) t
      refine XS.iconst X81.here hx rfl (hb hby at_200) ?_
      show Steps p.tables e below (T81.setTop (mkF m 201 #[.val (.int y), .val (.ref b1), .val (.ref b28), .val (.int (4 : Int32)), .val (.ref w4), .val (.int (0 : Int32))] [(.int (0 : Int32)), (.int (0 : Int32))])) t
      refine XS.icmpNo X81.here hx rfl (hb hby at_201) rfl (teq ((by decide) : (0 : Int32) = (0 : Int32))).2 ?_
      show Steps p.tables e below (T81.setTop (mkF m 204 #[.val (.int y), .val (.ref b1), .val (.ref b28), .val (.int (4 : Int32)), .val (.ref w4), .val (.int (0 : Int32))] [])) t
      refine XS.iconst X81.here hx rfl (hb hby at_204) ?_
      show Steps p.tables e below (T81.setTop (mkF m 205 #[.val (.int y), .val (.ref b1), .val (.ref b28), .val (.int (4 : Int32)), .val (.ref w4), .val (.int (0 : Int32))] [(.int (1 : Int32))])) t
      refine XS.goto X81.here hx rfl (pc0 := 205) (pc' := 209) rfl (hb hby at_205) (by decide) (by decide) ?_
      exact k
    obtain ⟨fs, hr, hrun, hended, hW, hsame⟩ := X81.leave (v := some (.int (1 : Int32))) (fun h => by rw [Bd.returns] at h; cases h)
    refine ⟨_, _, R82 _ ?_, hrun, hended, _, _, rfl, ?_, ⟨_, rfl⟩, hW, hsame.mono (by decide) (by decide)⟩
    · show Steps p.tables e below (T81.setTop (mkF m 209 #[.val (.int y), .val (.ref b1), .val (.ref b28), .val (.int (4 : Int32)), .val (.ref w4), .val (.int (0 : Int32))] [(.int (1 : Int32))])) _
      exact retN X81 hx (t := .boolean) Bd.returns (by simp) (hb hby at_209) hr
    · show Q_rm0 Z w0 w1 w2 w3 w4 w5 w6 w7 w8 w9 w10 w11 w12 v0 v1 v2 y h0 n0 _ T81.heap _
      rw [e81]
      exact ⟨rfl, N80⟩
  · have R83 := R42
    rw [hi] at R83
    have f84 : Arv Z h41 b1 k1 (.object "com/example/transcript_search/transcriptsearch/fusion/FusionMethod") (13 : Int32) [(.ref w0), (.ref w1), (.ref w2), (.ref w3), (.ref w4), (.ref w5), (.ref w6), (.ref w7), (.ref w8), (.ref w9), (.ref w10), (.ref w11), (.ref w12)] .null := ((((((((((((((V27.ext E28).other W29 ne_b1_b28).other W30 ne_b1_b28).other W31 ne_b1_b28).other W32 ne_b1_b28).other W33 ne_b1_b28).other W34 ne_b1_b28).other W35 ne_b1_b28).other W36 ne_b1_b28).other W37 ne_b1_b28).other W38 ne_b1_b28).other W39 ne_b1_b28).other W40 ne_b1_b28).other W41 ne_b1_b28)
    obtain ⟨cl85, Ar85, q85, S85, M85, H85, G85⟩ := id f84
    have in85 : ¬ ((5 : Int32) < 0 ∨ cl85.slots.size ≤ ((5 : Int32)).toNatClampNeg) := inb_of S85 ⟨by decide, by decide⟩
    have at85 : cl85.slots[((5 : Int32)).toNatClampNeg]? = some (.ref w5) := H85.at in85 rfl
    obtain ⟨cq86, kq86, q86a, q86b, q86c⟩ := isOf hZ e41 (E_w5.ext O41.2)
    obtain ⟨_, _, ⟨T86, L86, k86, n86⟩, -, X86, ⟨Lc86, hQ86, l86, y86, z86⟩, st86⟩ := X41.virtualBack hx (y := (⟨"com/example/transcript_search/transcriptsearch/fusion/FusionMethod", "countsUnscalableRunsAsZero", "()Z"⟩ : MethodName)) (z := (⟨"com/example/transcript_search/transcriptsearch/fusion/FusionMethod", "countsUnscalableRunsAsZero", "()Z"⟩ : MethodName)) hown (mvT hZ (hw _ (List.mem_of_getElem? (i := 32) rfl))) (mvT hZ (hw _ (List.mem_of_getElem? (i := 33) rfl))) (notFace_of_selects (args := #[]) (mvT hZ (hw _ (List.mem_of_getElem? (i := 35) rfl)))) (mvT hZ (hw _ (List.mem_of_getElem? (i := 35) rfl))) (mvT hZ (hw _ (List.mem_of_getElem? (i := 34) rfl))) (by decide) (backOf (W := 0) (czo l Z a0 hw [] w0 w1 w2 w3 w4 w5 w6 w7 w8 w9 w10 w11 w12 v0 v1 v2 w5 h41 n0 O41 S_w0 S_w1 S_w2 S_w3 S_w4 S_w5 S_w6 S_w7 S_w8 S_w9 S_w10 S_w11 S_w12 S_v1 E_w0 E_w1 E_w2 E_w3 E_w4 E_w5 E_w6 E_w7 E_w8 E_w9 E_w10 E_w11 E_w12 M_w0 M_w1 M_w2 M_w3 M_w4 M_w5 M_w6 M_w7 M_w8 M_w9 M_w10 M_w11 M_w12 ne_w0_w10 ne_w1_w10 ne_w2_w10 ne_w3_w10 ne_w4_w10 ne_w5_w10 ne_w6_w10 ne_w7_w10 ne_w8_w10 ne_w9_w10 ne_w11_w10 ne_w12_w10 ne_w0_w11 ne_w1_w11 ne_w2_w11 ne_w3_w11 ne_w4_w11 ne_w5_w11 ne_w6_w11 ne_w7_w11 ne_w8_w11 ne_w9_w11 ne_w12_w11 ne_v0_v1 ne_v2_v1  ne_w5_w10 ne_w5_w11 ) hZ (hw _ (List.mem_of_getElem? (i := 36) rfl)) (hw _ (List.mem_of_getElem? (i := 3) rfl)) (by decide) (by decide)) q86a q86c (g := (mkF m 170 #[.val (.int y), .val (.ref b1), .val (.ref b28), .val (.int (5 : Int32)), .val (.ref w5), .unset] [(.ref w5)])) rfl (by rw [hml]; rfl) (Steps.refl _) (argsL := []) (rest := []) (lenOf pd_0 rfl) rfl (by show 2 * 0 + _ ≤ _; exact Nat.le_of_eq rfl) (hb hby at_170) (fun _ _ => ⟨rfl, e41, (by decide : 2 + 0 ≤ _), (by decide : 26 + 0 ≤ _)⟩)
    dsimp only [Pt.U, Pt.locs, Pt.cells, Pt.slots] at X86 l86 y86 z86 st86 hQ86
    rw [l86, y86, z86] at X86
    obtain ⟨rfl, N86q, e86⟩ := hQ86
    have N86 := Fr.app N41 N86q
    obtain ⟨cl87, Ar87, q87, S87, M87, H87, G87⟩ := id V41
    have in87 : ¬ ((5 : Int32) < 0 ∨ cl87.slots.size ≤ ((5 : Int32)).toNatClampNeg) := inb_of S87 ⟨by decide, by decide⟩
    have at87 : cl87.slots[((5 : Int32)).toNatClampNeg]? = some (.int (0 : Int32)) := H87.at in87 rfl
    obtain ⟨cq88, kq88, q88a, q88b, q88c⟩ := isOf hZ e86 (E_w5.ext O41.2)
    obtain ⟨_, _, ⟨T88, L88, k88, n88⟩, -, X88, ⟨Lc88, hQ88, l88, y88, z88⟩, st88⟩ := X86.virtualBack hx (y := (⟨"com/example/transcript_search/transcriptsearch/fusion/FusionMethod", "defaultNormalisation", "()Lcom/example/transcript_search/transcriptsearch/fusion/Normalisation;"⟩ : MethodName)) (z := (⟨"com/example/transcript_search/transcriptsearch/fusion/FusionMethod", "defaultNormalisation", "()Lcom/example/transcript_search/transcriptsearch/fusion/Normalisation;"⟩ : MethodName)) hown (mvT hZ (hw _ (List.mem_of_getElem? (i := 39) rfl))) (mvT hZ (hw _ (List.mem_of_getElem? (i := 40) rfl))) (notFace_of_selects (args := #[]) (mvT hZ (hw _ (List.mem_of_getElem? (i := 42) rfl)))) (mvT hZ (hw _ (List.mem_of_getElem? (i := 42) rfl))) (mvT hZ (hw _ (List.mem_of_getElem? (i := 41) rfl))) (by decide) (backOf (W := 1) (dn l Z a0 hw [] w0 w1 w2 w3 w4 w5 w6 w7 w8 w9 w10 w11 w12 v0 v1 v2 w5 v0 h41 n0 O41 S_w0 S_w1 S_w2 S_w3 S_w4 S_w5 S_w6 S_w7 S_w8 S_w9 S_w10 S_w11 S_w12 S_v1 E_w0 E_w1 E_w2 E_w3 E_w4 E_w5 E_w6 E_w7 E_w8 E_w9 E_w10 E_w11 E_w12 M_w0 M_w1 M_w2 M_w3 M_w4 M_w5 M_w6 M_w7 M_w8 M_w9 M_w10 M_w11 M_w12 ne_w0_w10 ne_w1_w10 ne_w2_w10 ne_w3_w10 ne_w4_w10 ne_w5_w10 ne_w6_w10 ne_w7_w10 ne_w8_w10 ne_w9_w10 ne_w11_w10 ne_w12_w10 ne_w0_w11 ne_w1_w11 ne_w2_w11 ne_w3_w11 ne_w4_w11 ne_w5_w11 ne_w6_w11 ne_w7_w11 ne_w8_w11 ne_w9_w11 ne_w12_w11 ne_v0_v1 ne_v2_v1   (M_w5.ext O41.2)) hZ (hw _ (List.mem_of_getElem? (i := 43) rfl)) (hw _ (List.mem_of_getElem? (i := 3) rfl)) (by decide) (by decide)) q88a q88c (g := (mkF m 187 #[.val (.int y), .val (.ref b1), .val (.ref b28), .val (.int (5 : Int32)), .val (.ref w5), .val (.int (0 : Int32))] [(.ref w5), (.int (0 : Int32))])) rfl (by rw [hml]; rfl) (Steps.refl _) (argsL := []) (rest := [(.int (0 : Int32))]) (lenOf pd_1 rfl) rfl (by show 2 * 0 + _ ≤ _; exact Nat.le_of_eq rfl) (hb hby at_187) (fun _ _ => ⟨rfl, e86, (by decide : 2 + 0 ≤ _), (by decide : 26 + 0 ≤ _)⟩)
    dsimp only [Pt.U, Pt.locs, Pt.cells, Pt.slots] at X88 l88 y88 z88 st88 hQ88
    rw [l88, y88, z88] at X88
    obtain ⟨rfl, N88q, e88⟩ := hQ88
    have N88 := Fr.app N86 N88q
    obtain ⟨T89, X89, e89, st89⟩ := getS2 X88 hx hZ hown (host := "") (Or.inl (hw _ (List.mem_of_getElem? (i := 48) rfl))) Via.refl e88 (S_v1.ext O41.2) (g := (mkF m 190 #[.val (.int y), .val (.ref b1), .val (.ref b28), .val (.int (5 : Int32)), .val (.ref w5), .val (.int (0 : Int32))] [(.ref v0), (.int (0 : Int32))])) rfl (hb hby at_190)
    have R90 : ∀ t, Steps p.tables e below (T89.setTop (mkF m 209 #[.val (.int y), .val (.ref b1), .val (.ref b28), .val (.int (5 : Int32)), .val (.ref w5), .val (.int (0 : Int32))] [(.int (1 : Int32))])) t → Steps p.tables e below (s₁.setTop (entryFrame m #[(.int y)] maxLocals)) t := by
      intro t k
      refine R83 t ?_
      show Steps p.tables e below (T41.setTop (mkF m 165 #[.val (.int y), .val (.ref b1), .val (.ref b28), .val (.int (5 : Int32)), .unset, .unset] [(.int (5 : Int32)), (.ref b1)])) t
      refine X41.aaload hx (j := (5 : Int32)) (v := (.ref w5)) (by rw [e41]; exact Ar85.1) (State.isArrayOf_alike hZ.alike Ar85.2.1) rfl Ar85.2.2 in85 at85 (g := (mkF m 165 #[.val (.int y), .val (.ref b1), .val (.ref b28), .val (.int (5 : Int32)), .unset, .unset] [(.int (5 : Int32)), (.ref b1)])) rfl rfl (hb hby at_165) _ ?_
      show Steps p.tables e below (T41.setTop (mkF m 166 #[.val (.int y), .val (.ref b1), .val (.ref b28), .val (.int (5 : Int32)), .unset, .unset] [(.ref w5)])) t
      refine XS.astore X41.here hx rfl (hb hby at_166) rfl rfl (l' := #[.val (.int y), .val (.ref b1), .val (.ref b28), .val (.int (5 : Int32)), .val (.ref w5), .unset]) rfl ?_
      show Steps p.tables e below (T41.setTop (mkF m 168 #[.val (.int y), .val (.ref b1), .val (.ref b28), .val (.int (5 : Int32)), .val (.ref w5), .unset] [])) t
      refine XS.aload X41.here hx rfl (hb hby at_168) rfl rfl ?_
      show Steps p.tables e below (T41.setTop (mkF m 170 #[.val (.int y), .val (.ref b1), .val (.ref b28), .val (.int (5 : Int32)), .val (.ref w5), .unset] [(.ref w5)])) t
      refine st86.trans ?_
      show Steps p.tables e below (T86.setTop (mkF m 173 #[.val (.int y), .val (.ref b1), .val (.ref b28), .val (.int (5 : Int32)), .val (.ref w5), .unset] [(.int (0 : Int32))])) t
      refine XS.istore X86.here hx rfl (hb hby at_173) rfl (l' := #[.val (.int y), .val (.ref b1), .val (.ref b28), .val (.int (5 : Int32)), .val (.ref w5), .val (.int (0 : Int32))]) rfl ?_
      show Steps p.tables e below (T86.setTop (mkF m 175 #[.val (.int y), .val (.ref b1), .val (.ref b28), .val (.int (5 : Int32)), .val (.ref w5), .val (.int (0 : Int32))] [])) t
      refine XS.iload X86.here hx rfl (hb hby at_175) rfl ?_
      show Steps p.tables e below (T86.setTop (mkF m 177 #[.val (.int y), .val (.ref b1), .val (.ref b28), .val (.int (5 : Int32)), .val (.ref w5), .val (.int (0 : Int32))] [(.int (0 : Int32))])) t
      refine XS.aloadN X86.here hx rfl (hb hby at_177) rfl rfl ?_
      show Steps p.tables e below (T86.setTop (mkF m 178 #[.val (.int y), .val (.ref b1), .val (.ref b28), .val (.int (5 : Int32)), .val (.ref w5), .val (.int (0 : Int32))] [(.ref b28), (.int (0 : Int32))])) t
      refine XS.iloadN X86.here hx rfl (hb hby at_178) rfl ?_
      show Steps p.tables e below (T86.setTop (mkF m 179 #[.val (.int y), .val (.ref b1), .val (.ref b28), .val (.int (5 : Int32)), .val (.ref w5), .val (.int (0 : Int32))] [(.int (5 : Int32)), (.ref b28), (.int (0 : Int32))])) t
      refine X86.baloadBooleans hx (j := (5 : Int32)) (v := (.int (0 : Int32))) (by rw [e86]; exact Ar87.1) (State.isArrayOf_alike hZ.alike Ar87.2.1) Ar87.2.2 in87 at87 (g := (mkF m 179 #[.val (.int y), .val (.ref b1), .val (.ref b28), .val (.int (5 : Int32)), .val (.ref w5), .val (.int (0 : Int32))] [(.int (5 : Int32)), (.ref b28), (.int (0 : Int32))])) rfl rfl (hb hby at_179) _ ?_
      show Steps p.tables e below (T86.setTop (mkF m 180 #[.val (.int y), .val (.ref b1), .val (.ref b28), .val (.int (5 : Int32)), .val (.ref w5), .val (.int (0 : Int32))] [(.int (0 : Int32)), (.int (0 : Int32))])) t
      refine XS.icmpNo X86.here hx rfl (hb hby at_180) rfl (teq ((by decide) : (0 : Int32) = (0 : Int32))).2 ?_
      show Steps p.tables e below (T86.setTop (mkF m 183 #[.val (.int y), .val (.ref b1), .val (.ref b28), .val (.int (5 : Int32)), .val (.ref w5), .val (.int (0 : Int32))] [])) t
      refine XS.iload X86.here hx rfl (hb hby at_183) rfl ?_
      show Steps p.tables e below (T86.setTop (mkF m 185 #[.val (.int y), .val (.ref b1), .val (.ref b28), .val (.int (5 : Int32)), .val (.ref w5), .val (.int (0 : Int32))] [(.int (0 : Int32))])) t
      refine XS.aload X86.here hx rfl (hb hby at_185) rfl rfl ?_
      show Steps p.tables e below (T86.setTop (mkF m 187 #[.val (.int y), .val (.ref b1), .val (.ref b28), .val (.int (5 : Int32)), .val (.ref w5), .val (.int (0 : Int32))] [(.ref w5), (.int (0 : Int32))])) t
      refine st88.trans ?_
      show Steps p.tables e below (T88.setTop (mkF m 190 #[.val (.int y), .val (.ref b1), .val (.ref b28), .val (.int (5 : Int32)), .val (.ref w5), .val (.int (0 : Int32))] [(.ref v0), (.int (0 : Int32))])) t
      refine st89 _ ?_
      show Steps p.tables e below (T89.setTop (mkF m 193 #[.val (.int y), .val (.ref b1), .val (.ref b28), .val (.int (5 : Int32)), .val (.ref w5), .val (.int (0 : Int32))] [(.ref v1), (.ref v0), (.int (0 : Int32))])) t
      refine Jvm.RoadKit.acmp (g := (mkF m 193 #[.val (.int y), .val (.ref b1), .val (.ref b28), .val (.int (5 : Int32)), .val (.ref w5), .val (.int (0 : Int32))] [(.ref v1), (.ref v0), (.int (0 : Int32))])) X89 hx rfl rfl rfl (pc0 := 193) (pc' := 200) (same := false) rfl (hb hby at_193) rfl (decide_eq_false (fun q => ne_v0_v1 (Value.ref.inj q))) (by decide) (by decide) ?_
      show Steps p.tables e below (T89.setTop (mkF m 200 #[.val (.int y), .val (.ref b1), .val (.ref b28), .val (.int (5 : Int32)), .val (.ref w5), .val (.int (0 : Int32))] [(.int (0 : Int32))])) t
      refine XS.iconst X89.here hx rfl (hb hby at_200) ?_
      show Steps p.tables e below (T89.setTop (mkF m 201 #[.val (.int y), .val (.ref b1), .val (.ref b28), .val (.int (5 : Int32)), .val (.ref w5), .val (.int (0 : Int32))] [(.int (0 : Int32)), (.int (0 : Int32))])) t
      refine XS.icmpNo X89.here hx rfl (hb hby at_201) rfl (teq ((by decide) : (0 : Int32) = (0 : Int32))).2 ?_
      show Steps p.tables e below (T89.setTop (mkF m 204 #[.val (.int y), .val (.ref b1), .val (.ref b28), .val (.int (5 : Int32)), .val (.ref w5), .val (.int (0 : Int32))] [])) t
      refine XS.iconst X89.here hx rfl (hb hby at_204) ?_
      show Steps p.tables e below (T89.setTop (mkF m 205 #[.val (.int y), .val (.ref b1), .val (.ref b28), .val (.int (5 : Int32)), .val (.ref w5), .val (.int (0 : Int32))] [(.int (1 : Int32))])) t
      refine XS.goto X89.here hx rfl (pc0 := 205) (pc' := 209) rfl (hb hby at_205) (by decide) (by decide) ?_
      exact k
    obtain ⟨fs, hr, hrun, hended, hW, hsame⟩ := X89.leave (v := some (.int (1 : Int32))) (fun h => by rw [Bd.returns] at h; cases h)
    refine ⟨_, _, R90 _ ?_, hrun, hended, _, _, rfl, ?_, ⟨_, rfl⟩, hW, hsame.mono (by decide) (by decide)⟩
    · show Steps p.tables e below (T89.setTop (mkF m 209 #[.val (.int y), .val (.ref b1), .val (.ref b28), .val (.int (5 : Int32)), .val (.ref w5), .val (.int (0 : Int32))] [(.int (1 : Int32))])) _
      exact retN X89 hx (t := .boolean) Bd.returns (by simp) (hb hby at_209) hr
    · show Q_rm0 Z w0 w1 w2 w3 w4 w5 w6 w7 w8 w9 w10 w11 w12 v0 v1 v2 y h0 n0 _ T89.heap _
      rw [e89]
      exact ⟨rfl, N88⟩
  · have R91 := R42
    rw [hi] at R91
    have f92 : Arv Z h41 b1 k1 (.object "com/example/transcript_search/transcriptsearch/fusion/FusionMethod") (13 : Int32) [(.ref w0), (.ref w1), (.ref w2), (.ref w3), (.ref w4), (.ref w5), (.ref w6), (.ref w7), (.ref w8), (.ref w9), (.ref w10), (.ref w11), (.ref w12)] .null := ((((((((((((((V27.ext E28).other W29 ne_b1_b28).other W30 ne_b1_b28).other W31 ne_b1_b28).other W32 ne_b1_b28).other W33 ne_b1_b28).other W34 ne_b1_b28).other W35 ne_b1_b28).other W36 ne_b1_b28).other W37 ne_b1_b28).other W38 ne_b1_b28).other W39 ne_b1_b28).other W40 ne_b1_b28).other W41 ne_b1_b28)
    obtain ⟨cl93, Ar93, q93, S93, M93, H93, G93⟩ := id f92
    have in93 : ¬ ((6 : Int32) < 0 ∨ cl93.slots.size ≤ ((6 : Int32)).toNatClampNeg) := inb_of S93 ⟨by decide, by decide⟩
    have at93 : cl93.slots[((6 : Int32)).toNatClampNeg]? = some (.ref w6) := H93.at in93 rfl
    obtain ⟨cq94, kq94, q94a, q94b, q94c⟩ := isOf hZ e41 (E_w6.ext O41.2)
    obtain ⟨_, _, ⟨T94, L94, k94, n94⟩, -, X94, ⟨Lc94, hQ94, l94, y94, z94⟩, st94⟩ := X41.virtualBack hx (y := (⟨"com/example/transcript_search/transcriptsearch/fusion/FusionMethod", "countsUnscalableRunsAsZero", "()Z"⟩ : MethodName)) (z := (⟨"com/example/transcript_search/transcriptsearch/fusion/FusionMethod", "countsUnscalableRunsAsZero", "()Z"⟩ : MethodName)) hown (mvT hZ (hw _ (List.mem_of_getElem? (i := 32) rfl))) (mvT hZ (hw _ (List.mem_of_getElem? (i := 33) rfl))) (notFace_of_selects (args := #[]) (mvT hZ (hw _ (List.mem_of_getElem? (i := 35) rfl)))) (mvT hZ (hw _ (List.mem_of_getElem? (i := 35) rfl))) (mvT hZ (hw _ (List.mem_of_getElem? (i := 34) rfl))) (by decide) (backOf (W := 0) (czo l Z a0 hw [] w0 w1 w2 w3 w4 w5 w6 w7 w8 w9 w10 w11 w12 v0 v1 v2 w6 h41 n0 O41 S_w0 S_w1 S_w2 S_w3 S_w4 S_w5 S_w6 S_w7 S_w8 S_w9 S_w10 S_w11 S_w12 S_v1 E_w0 E_w1 E_w2 E_w3 E_w4 E_w5 E_w6 E_w7 E_w8 E_w9 E_w10 E_w11 E_w12 M_w0 M_w1 M_w2 M_w3 M_w4 M_w5 M_w6 M_w7 M_w8 M_w9 M_w10 M_w11 M_w12 ne_w0_w10 ne_w1_w10 ne_w2_w10 ne_w3_w10 ne_w4_w10 ne_w5_w10 ne_w6_w10 ne_w7_w10 ne_w8_w10 ne_w9_w10 ne_w11_w10 ne_w12_w10 ne_w0_w11 ne_w1_w11 ne_w2_w11 ne_w3_w11 ne_w4_w11 ne_w5_w11 ne_w6_w11 ne_w7_w11 ne_w8_w11 ne_w9_w11 ne_w12_w11 ne_v0_v1 ne_v2_v1  ne_w6_w10 ne_w6_w11 ) hZ (hw _ (List.mem_of_getElem? (i := 36) rfl)) (hw _ (List.mem_of_getElem? (i := 3) rfl)) (by decide) (by decide)) q94a q94c (g := (mkF m 170 #[.val (.int y), .val (.ref b1), .val (.ref b28), .val (.int (6 : Int32)), .val (.ref w6), .unset] [(.ref w6)])) rfl (by rw [hml]; rfl) (Steps.refl _) (argsL := []) (rest := []) (lenOf pd_0 rfl) rfl (by show 2 * 0 + _ ≤ _; exact Nat.le_of_eq rfl) (hb hby at_170) (fun _ _ => ⟨rfl, e41, (by decide : 2 + 0 ≤ _), (by decide : 26 + 0 ≤ _)⟩)
    dsimp only [Pt.U, Pt.locs, Pt.cells, Pt.slots] at X94 l94 y94 z94 st94 hQ94
    rw [l94, y94, z94] at X94
    obtain ⟨rfl, N94q, e94⟩ := hQ94
    have N94 := Fr.app N41 N94q
    obtain ⟨cl95, Ar95, q95, S95, M95, H95, G95⟩ := id V41
    have in95 : ¬ ((6 : Int32) < 0 ∨ cl95.slots.size ≤ ((6 : Int32)).toNatClampNeg) := inb_of S95 ⟨by decide, by decide⟩
    have at95 : cl95.slots[((6 : Int32)).toNatClampNeg]? = some (.int (0 : Int32)) := H95.at in95 rfl
    obtain ⟨cq96, kq96, q96a, q96b, q96c⟩ := isOf hZ e94 (E_w6.ext O41.2)
    obtain ⟨_, _, ⟨T96, L96, k96, n96⟩, -, X96, ⟨Lc96, hQ96, l96, y96, z96⟩, st96⟩ := X94.virtualBack hx (y := (⟨"com/example/transcript_search/transcriptsearch/fusion/FusionMethod", "defaultNormalisation", "()Lcom/example/transcript_search/transcriptsearch/fusion/Normalisation;"⟩ : MethodName)) (z := (⟨"com/example/transcript_search/transcriptsearch/fusion/FusionMethod", "defaultNormalisation", "()Lcom/example/transcript_search/transcriptsearch/fusion/Normalisation;"⟩ : MethodName)) hown (mvT hZ (hw _ (List.mem_of_getElem? (i := 39) rfl))) (mvT hZ (hw _ (List.mem_of_getElem? (i := 40) rfl))) (notFace_of_selects (args := #[]) (mvT hZ (hw _ (List.mem_of_getElem? (i := 42) rfl)))) (mvT hZ (hw _ (List.mem_of_getElem? (i := 42) rfl))) (mvT hZ (hw _ (List.mem_of_getElem? (i := 41) rfl))) (by decide) (backOf (W := 1) (dn l Z a0 hw [] w0 w1 w2 w3 w4 w5 w6 w7 w8 w9 w10 w11 w12 v0 v1 v2 w6 v0 h41 n0 O41 S_w0 S_w1 S_w2 S_w3 S_w4 S_w5 S_w6 S_w7 S_w8 S_w9 S_w10 S_w11 S_w12 S_v1 E_w0 E_w1 E_w2 E_w3 E_w4 E_w5 E_w6 E_w7 E_w8 E_w9 E_w10 E_w11 E_w12 M_w0 M_w1 M_w2 M_w3 M_w4 M_w5 M_w6 M_w7 M_w8 M_w9 M_w10 M_w11 M_w12 ne_w0_w10 ne_w1_w10 ne_w2_w10 ne_w3_w10 ne_w4_w10 ne_w5_w10 ne_w6_w10 ne_w7_w10 ne_w8_w10 ne_w9_w10 ne_w11_w10 ne_w12_w10 ne_w0_w11 ne_w1_w11 ne_w2_w11 ne_w3_w11 ne_w4_w11 ne_w5_w11 ne_w6_w11 ne_w7_w11 ne_w8_w11 ne_w9_w11 ne_w12_w11 ne_v0_v1 ne_v2_v1   (M_w6.ext O41.2)) hZ (hw _ (List.mem_of_getElem? (i := 43) rfl)) (hw _ (List.mem_of_getElem? (i := 3) rfl)) (by decide) (by decide)) q96a q96c (g := (mkF m 187 #[.val (.int y), .val (.ref b1), .val (.ref b28), .val (.int (6 : Int32)), .val (.ref w6), .val (.int (0 : Int32))] [(.ref w6), (.int (0 : Int32))])) rfl (by rw [hml]; rfl) (Steps.refl _) (argsL := []) (rest := [(.int (0 : Int32))]) (lenOf pd_1 rfl) rfl (by show 2 * 0 + _ ≤ _; exact Nat.le_of_eq rfl) (hb hby at_187) (fun _ _ => ⟨rfl, e94, (by decide : 2 + 0 ≤ _), (by decide : 26 + 0 ≤ _)⟩)
    dsimp only [Pt.U, Pt.locs, Pt.cells, Pt.slots] at X96 l96 y96 z96 st96 hQ96
    rw [l96, y96, z96] at X96
    obtain ⟨rfl, N96q, e96⟩ := hQ96
    have N96 := Fr.app N94 N96q
    obtain ⟨T97, X97, e97, st97⟩ := getS2 X96 hx hZ hown (host := "") (Or.inl (hw _ (List.mem_of_getElem? (i := 48) rfl))) Via.refl e96 (S_v1.ext O41.2) (g := (mkF m 190 #[.val (.int y), .val (.ref b1), .val (.ref b28), .val (.int (6 : Int32)), .val (.ref w6), .val (.int (0 : Int32))] [(.ref v0), (.int (0 : Int32))])) rfl (hb hby at_190)
    have R98 : ∀ t, Steps p.tables e below (T97.setTop (mkF m 209 #[.val (.int y), .val (.ref b1), .val (.ref b28), .val (.int (6 : Int32)), .val (.ref w6), .val (.int (0 : Int32))] [(.int (1 : Int32))])) t → Steps p.tables e below (s₁.setTop (entryFrame m #[(.int y)] maxLocals)) t := by
      intro t k
      refine R91 t ?_
      show Steps p.tables e below (T41.setTop (mkF m 165 #[.val (.int y), .val (.ref b1), .val (.ref b28), .val (.int (6 : Int32)), .unset, .unset] [(.int (6 : Int32)), (.ref b1)])) t
      refine X41.aaload hx (j := (6 : Int32)) (v := (.ref w6)) (by rw [e41]; exact Ar93.1) (State.isArrayOf_alike hZ.alike Ar93.2.1) rfl Ar93.2.2 in93 at93 (g := (mkF m 165 #[.val (.int y), .val (.ref b1), .val (.ref b28), .val (.int (6 : Int32)), .unset, .unset] [(.int (6 : Int32)), (.ref b1)])) rfl rfl (hb hby at_165) _ ?_
      show Steps p.tables e below (T41.setTop (mkF m 166 #[.val (.int y), .val (.ref b1), .val (.ref b28), .val (.int (6 : Int32)), .unset, .unset] [(.ref w6)])) t
      refine XS.astore X41.here hx rfl (hb hby at_166) rfl rfl (l' := #[.val (.int y), .val (.ref b1), .val (.ref b28), .val (.int (6 : Int32)), .val (.ref w6), .unset]) rfl ?_
      show Steps p.tables e below (T41.setTop (mkF m 168 #[.val (.int y), .val (.ref b1), .val (.ref b28), .val (.int (6 : Int32)), .val (.ref w6), .unset] [])) t
      refine XS.aload X41.here hx rfl (hb hby at_168) rfl rfl ?_
      show Steps p.tables e below (T41.setTop (mkF m 170 #[.val (.int y), .val (.ref b1), .val (.ref b28), .val (.int (6 : Int32)), .val (.ref w6), .unset] [(.ref w6)])) t
      refine st94.trans ?_
      show Steps p.tables e below (T94.setTop (mkF m 173 #[.val (.int y), .val (.ref b1), .val (.ref b28), .val (.int (6 : Int32)), .val (.ref w6), .unset] [(.int (0 : Int32))])) t
      refine XS.istore X94.here hx rfl (hb hby at_173) rfl (l' := #[.val (.int y), .val (.ref b1), .val (.ref b28), .val (.int (6 : Int32)), .val (.ref w6), .val (.int (0 : Int32))]) rfl ?_
      show Steps p.tables e below (T94.setTop (mkF m 175 #[.val (.int y), .val (.ref b1), .val (.ref b28), .val (.int (6 : Int32)), .val (.ref w6), .val (.int (0 : Int32))] [])) t
      refine XS.iload X94.here hx rfl (hb hby at_175) rfl ?_
      show Steps p.tables e below (T94.setTop (mkF m 177 #[.val (.int y), .val (.ref b1), .val (.ref b28), .val (.int (6 : Int32)), .val (.ref w6), .val (.int (0 : Int32))] [(.int (0 : Int32))])) t
      refine XS.aloadN X94.here hx rfl (hb hby at_177) rfl rfl ?_
      show Steps p.tables e below (T94.setTop (mkF m 178 #[.val (.int y), .val (.ref b1), .val (.ref b28), .val (.int (6 : Int32)), .val (.ref w6), .val (.int (0 : Int32))] [(.ref b28), (.int (0 : Int32))])) t
      refine XS.iloadN X94.here hx rfl (hb hby at_178) rfl ?_
      show Steps p.tables e below (T94.setTop (mkF m 179 #[.val (.int y), .val (.ref b1), .val (.ref b28), .val (.int (6 : Int32)), .val (.ref w6), .val (.int (0 : Int32))] [(.int (6 : Int32)), (.ref b28), (.int (0 : Int32))])) t
      refine X94.baloadBooleans hx (j := (6 : Int32)) (v := (.int (0 : Int32))) (by rw [e94]; exact Ar95.1) (State.isArrayOf_alike hZ.alike Ar95.2.1) Ar95.2.2 in95 at95 (g := (mkF m 179 #[.val (.int y), .val (.ref b1), .val (.ref b28), .val (.int (6 : Int32)), .val (.ref w6), .val (.int (0 : Int32))] [(.int (6 : Int32)), (.ref b28), (.int (0 : Int32))])) rfl rfl (hb hby at_179) _ ?_
      show Steps p.tables e below (T94.setTop (mkF m 180 #[.val (.int y), .val (.ref b1), .val (.ref b28), .val (.int (6 : Int32)), .val (.ref w6), .val (.int (0 : Int32))] [(.int (0 : Int32)), (.int (0 : Int32))])) t
      refine XS.icmpNo X94.here hx rfl (hb hby at_180) rfl (teq ((by decide) : (0 : Int32) = (0 : Int32))).2 ?_
      show Steps p.tables e below (T94.setTop (mkF m 183 #[.val (.int y), .val (.ref b1), .val (.ref b28), .val (.int (6 : Int32)), .val (.ref w6), .val (.int (0 : Int32))] [])) t
      refine XS.iload X94.here hx rfl (hb hby at_183) rfl ?_
      show Steps p.tables e below (T94.setTop (mkF m 185 #[.val (.int y), .val (.ref b1), .val (.ref b28), .val (.int (6 : Int32)), .val (.ref w6), .val (.int (0 : Int32))] [(.int (0 : Int32))])) t
      refine XS.aload X94.here hx rfl (hb hby at_185) rfl rfl ?_
      show Steps p.tables e below (T94.setTop (mkF m 187 #[.val (.int y), .val (.ref b1), .val (.ref b28), .val (.int (6 : Int32)), .val (.ref w6), .val (.int (0 : Int32))] [(.ref w6), (.int (0 : Int32))])) t
      refine st96.trans ?_
      show Steps p.tables e below (T96.setTop (mkF m 190 #[.val (.int y), .val (.ref b1), .val (.ref b28), .val (.int (6 : Int32)), .val (.ref w6), .val (.int (0 : Int32))] [(.ref v0), (.int (0 : Int32))])) t
      refine st97 _ ?_
      show Steps p.tables e below (T97.setTop (mkF m 193 #[.val (.int y), .val (.ref b1), .val (.ref b28), .val (.int (6 : Int32)), .val (.ref w6), .val (.int (0 : Int32))] [(.ref v1), (.ref v0), (.int (0 : Int32))])) t
      refine Jvm.RoadKit.acmp (g := (mkF m 193 #[.val (.int y), .val (.ref b1), .val (.ref b28), .val (.int (6 : Int32)), .val (.ref w6), .val (.int (0 : Int32))] [(.ref v1), (.ref v0), (.int (0 : Int32))])) X97 hx rfl rfl rfl (pc0 := 193) (pc' := 200) (same := false) rfl (hb hby at_193) rfl (decide_eq_false (fun q => ne_v0_v1 (Value.ref.inj q))) (by decide) (by decide) ?_
      show Steps p.tables e below (T97.setTop (mkF m 200 #[.val (.int y), .val (.ref b1), .val (.ref b28), .val (.int (6 : Int32)), .val (.ref w6), .val (.int (0 : Int32))] [(.int (0 : Int32))])) t
      refine XS.iconst X97.here hx rfl (hb hby at_200) ?_
      show Steps p.tables e below (T97.setTop (mkF m 201 #[.val (.int y), .val (.ref b1), .val (.ref b28), .val (.int (6 : Int32)), .val (.ref w6), .val (.int (0 : Int32))] [(.int (0 : Int32)), (.int (0 : Int32))])) t
      refine XS.icmpNo X97.here hx rfl (hb hby at_201) rfl (teq ((by decide) : (0 : Int32) = (0 : Int32))).2 ?_
      show Steps p.tables e below (T97.setTop (mkF m 204 #[.val (.int y), .val (.ref b1), .val (.ref b28), .val (.int (6 : Int32)), .val (.ref w6), .val (.int (0 : Int32))] [])) t
      refine XS.iconst X97.here hx rfl (hb hby at_204) ?_
      show Steps p.tables e below (T97.setTop (mkF m 205 #[.val (.int y), .val (.ref b1), .val (.ref b28), .val (.int (6 : Int32)), .val (.ref w6), .val (.int (0 : Int32))] [(.int (1 : Int32))])) t
      refine XS.goto X97.here hx rfl (pc0 := 205) (pc' := 209) rfl (hb hby at_205) (by decide) (by decide) ?_
      exact k
    obtain ⟨fs, hr, hrun, hended, hW, hsame⟩ := X97.leave (v := some (.int (1 : Int32))) (fun h => by rw [Bd.returns] at h; cases h)
    refine ⟨_, _, R98 _ ?_, hrun, hended, _, _, rfl, ?_, ⟨_, rfl⟩, hW, hsame.mono (by decide) (by decide)⟩
    · show Steps p.tables e below (T97.setTop (mkF m 209 #[.val (.int y), .val (.ref b1), .val (.ref b28), .val (.int (6 : Int32)), .val (.ref w6), .val (.int (0 : Int32))] [(.int (1 : Int32))])) _
      exact retN X97 hx (t := .boolean) Bd.returns (by simp) (hb hby at_209) hr
    · show Q_rm0 Z w0 w1 w2 w3 w4 w5 w6 w7 w8 w9 w10 w11 w12 v0 v1 v2 y h0 n0 _ T97.heap _
      rw [e97]
      exact ⟨rfl, N96⟩
  · have R99 := R42
    rw [hi] at R99
    have f100 : Arv Z h41 b1 k1 (.object "com/example/transcript_search/transcriptsearch/fusion/FusionMethod") (13 : Int32) [(.ref w0), (.ref w1), (.ref w2), (.ref w3), (.ref w4), (.ref w5), (.ref w6), (.ref w7), (.ref w8), (.ref w9), (.ref w10), (.ref w11), (.ref w12)] .null := ((((((((((((((V27.ext E28).other W29 ne_b1_b28).other W30 ne_b1_b28).other W31 ne_b1_b28).other W32 ne_b1_b28).other W33 ne_b1_b28).other W34 ne_b1_b28).other W35 ne_b1_b28).other W36 ne_b1_b28).other W37 ne_b1_b28).other W38 ne_b1_b28).other W39 ne_b1_b28).other W40 ne_b1_b28).other W41 ne_b1_b28)
    obtain ⟨cl101, Ar101, q101, S101, M101, H101, G101⟩ := id f100
    have in101 : ¬ ((7 : Int32) < 0 ∨ cl101.slots.size ≤ ((7 : Int32)).toNatClampNeg) := inb_of S101 ⟨by decide, by decide⟩
    have at101 : cl101.slots[((7 : Int32)).toNatClampNeg]? = some (.ref w7) := H101.at in101 rfl
    obtain ⟨cq102, kq102, q102a, q102b, q102c⟩ := isOf hZ e41 (E_w7.ext O41.2)
    obtain ⟨_, _, ⟨T102, L102, k102, n102⟩, -, X102, ⟨Lc102, hQ102, l102, y102, z102⟩, st102⟩ := X41.virtualBack hx (y := (⟨"com/example/transcript_search/transcriptsearch/fusion/FusionMethod", "countsUnscalableRunsAsZero", "()Z"⟩ : MethodName)) (z := (⟨"com/example/transcript_search/transcriptsearch/fusion/FusionMethod", "countsUnscalableRunsAsZero", "()Z"⟩ : MethodName)) hown (mvT hZ (hw _ (List.mem_of_getElem? (i := 32) rfl))) (mvT hZ (hw _ (List.mem_of_getElem? (i := 33) rfl))) (notFace_of_selects (args := #[]) (mvT hZ (hw _ (List.mem_of_getElem? (i := 35) rfl)))) (mvT hZ (hw _ (List.mem_of_getElem? (i := 35) rfl))) (mvT hZ (hw _ (List.mem_of_getElem? (i := 34) rfl))) (by decide) (backOf (W := 0) (czo l Z a0 hw [] w0 w1 w2 w3 w4 w5 w6 w7 w8 w9 w10 w11 w12 v0 v1 v2 w7 h41 n0 O41 S_w0 S_w1 S_w2 S_w3 S_w4 S_w5 S_w6 S_w7 S_w8 S_w9 S_w10 S_w11 S_w12 S_v1 E_w0 E_w1 E_w2 E_w3 E_w4 E_w5 E_w6 E_w7 E_w8 E_w9 E_w10 E_w11 E_w12 M_w0 M_w1 M_w2 M_w3 M_w4 M_w5 M_w6 M_w7 M_w8 M_w9 M_w10 M_w11 M_w12 ne_w0_w10 ne_w1_w10 ne_w2_w10 ne_w3_w10 ne_w4_w10 ne_w5_w10 ne_w6_w10 ne_w7_w10 ne_w8_w10 ne_w9_w10 ne_w11_w10 ne_w12_w10 ne_w0_w11 ne_w1_w11 ne_w2_w11 ne_w3_w11 ne_w4_w11 ne_w5_w11 ne_w6_w11 ne_w7_w11 ne_w8_w11 ne_w9_w11 ne_w12_w11 ne_v0_v1 ne_v2_v1  ne_w7_w10 ne_w7_w11 ) hZ (hw _ (List.mem_of_getElem? (i := 36) rfl)) (hw _ (List.mem_of_getElem? (i := 3) rfl)) (by decide) (by decide)) q102a q102c (g := (mkF m 170 #[.val (.int y), .val (.ref b1), .val (.ref b28), .val (.int (7 : Int32)), .val (.ref w7), .unset] [(.ref w7)])) rfl (by rw [hml]; rfl) (Steps.refl _) (argsL := []) (rest := []) (lenOf pd_0 rfl) rfl (by show 2 * 0 + _ ≤ _; exact Nat.le_of_eq rfl) (hb hby at_170) (fun _ _ => ⟨rfl, e41, (by decide : 2 + 0 ≤ _), (by decide : 26 + 0 ≤ _)⟩)
    dsimp only [Pt.U, Pt.locs, Pt.cells, Pt.slots] at X102 l102 y102 z102 st102 hQ102
    rw [l102, y102, z102] at X102
    obtain ⟨rfl, N102q, e102⟩ := hQ102
    have N102 := Fr.app N41 N102q
    obtain ⟨cl103, Ar103, q103, S103, M103, H103, G103⟩ := id V41
    have in103 : ¬ ((7 : Int32) < 0 ∨ cl103.slots.size ≤ ((7 : Int32)).toNatClampNeg) := inb_of S103 ⟨by decide, by decide⟩
    have at103 : cl103.slots[((7 : Int32)).toNatClampNeg]? = some (.int (0 : Int32)) := H103.at in103 rfl
    obtain ⟨cq104, kq104, q104a, q104b, q104c⟩ := isOf hZ e102 (E_w7.ext O41.2)
    obtain ⟨_, _, ⟨T104, L104, k104, n104⟩, -, X104, ⟨Lc104, hQ104, l104, y104, z104⟩, st104⟩ := X102.virtualBack hx (y := (⟨"com/example/transcript_search/transcriptsearch/fusion/FusionMethod", "defaultNormalisation", "()Lcom/example/transcript_search/transcriptsearch/fusion/Normalisation;"⟩ : MethodName)) (z := (⟨"com/example/transcript_search/transcriptsearch/fusion/FusionMethod", "defaultNormalisation", "()Lcom/example/transcript_search/transcriptsearch/fusion/Normalisation;"⟩ : MethodName)) hown (mvT hZ (hw _ (List.mem_of_getElem? (i := 39) rfl))) (mvT hZ (hw _ (List.mem_of_getElem? (i := 40) rfl))) (notFace_of_selects (args := #[]) (mvT hZ (hw _ (List.mem_of_getElem? (i := 42) rfl)))) (mvT hZ (hw _ (List.mem_of_getElem? (i := 42) rfl))) (mvT hZ (hw _ (List.mem_of_getElem? (i := 41) rfl))) (by decide) (backOf (W := 1) (dn l Z a0 hw [] w0 w1 w2 w3 w4 w5 w6 w7 w8 w9 w10 w11 w12 v0 v1 v2 w7 v0 h41 n0 O41 S_w0 S_w1 S_w2 S_w3 S_w4 S_w5 S_w6 S_w7 S_w8 S_w9 S_w10 S_w11 S_w12 S_v1 E_w0 E_w1 E_w2 E_w3 E_w4 E_w5 E_w6 E_w7 E_w8 E_w9 E_w10 E_w11 E_w12 M_w0 M_w1 M_w2 M_w3 M_w4 M_w5 M_w6 M_w7 M_w8 M_w9 M_w10 M_w11 M_w12 ne_w0_w10 ne_w1_w10 ne_w2_w10 ne_w3_w10 ne_w4_w10 ne_w5_w10 ne_w6_w10 ne_w7_w10 ne_w8_w10 ne_w9_w10 ne_w11_w10 ne_w12_w10 ne_w0_w11 ne_w1_w11 ne_w2_w11 ne_w3_w11 ne_w4_w11 ne_w5_w11 ne_w6_w11 ne_w7_w11 ne_w8_w11 ne_w9_w11 ne_w12_w11 ne_v0_v1 ne_v2_v1   (M_w7.ext O41.2)) hZ (hw _ (List.mem_of_getElem? (i := 43) rfl)) (hw _ (List.mem_of_getElem? (i := 3) rfl)) (by decide) (by decide)) q104a q104c (g := (mkF m 187 #[.val (.int y), .val (.ref b1), .val (.ref b28), .val (.int (7 : Int32)), .val (.ref w7), .val (.int (0 : Int32))] [(.ref w7), (.int (0 : Int32))])) rfl (by rw [hml]; rfl) (Steps.refl _) (argsL := []) (rest := [(.int (0 : Int32))]) (lenOf pd_1 rfl) rfl (by show 2 * 0 + _ ≤ _; exact Nat.le_of_eq rfl) (hb hby at_187) (fun _ _ => ⟨rfl, e102, (by decide : 2 + 0 ≤ _), (by decide : 26 + 0 ≤ _)⟩)
    dsimp only [Pt.U, Pt.locs, Pt.cells, Pt.slots] at X104 l104 y104 z104 st104 hQ104
    rw [l104, y104, z104] at X104
    obtain ⟨rfl, N104q, e104⟩ := hQ104
    have N104 := Fr.app N102 N104q
    obtain ⟨T105, X105, e105, st105⟩ := getS2 X104 hx hZ hown (host := "") (Or.inl (hw _ (List.mem_of_getElem? (i := 48) rfl))) Via.refl e104 (S_v1.ext O41.2) (g := (mkF m 190 #[.val (.int y), .val (.ref b1), .val (.ref b28), .val (.int (7 : Int32)), .val (.ref w7), .val (.int (0 : Int32))] [(.ref v0), (.int (0 : Int32))])) rfl (hb hby at_190)
    have R106 : ∀ t, Steps p.tables e below (T105.setTop (mkF m 209 #[.val (.int y), .val (.ref b1), .val (.ref b28), .val (.int (7 : Int32)), .val (.ref w7), .val (.int (0 : Int32))] [(.int (1 : Int32))])) t → Steps p.tables e below (s₁.setTop (entryFrame m #[(.int y)] maxLocals)) t := by
      intro t k
      refine R99 t ?_
      show Steps p.tables e below (T41.setTop (mkF m 165 #[.val (.int y), .val (.ref b1), .val (.ref b28), .val (.int (7 : Int32)), .unset, .unset] [(.int (7 : Int32)), (.ref b1)])) t
      refine X41.aaload hx (j := (7 : Int32)) (v := (.ref w7)) (by rw [e41]; exact Ar101.1) (State.isArrayOf_alike hZ.alike Ar101.2.1) rfl Ar101.2.2 in101 at101 (g := (mkF m 165 #[.val (.int y), .val (.ref b1), .val (.ref b28), .val (.int (7 : Int32)), .unset, .unset] [(.int (7 : Int32)), (.ref b1)])) rfl rfl (hb hby at_165) _ ?_
      show Steps p.tables e below (T41.setTop (mkF m 166 #[.val (.int y), .val (.ref b1), .val (.ref b28), .val (.int (7 : Int32)), .unset, .unset] [(.ref w7)])) t
      refine XS.astore X41.here hx rfl (hb hby at_166) rfl rfl (l' := #[.val (.int y), .val (.ref b1), .val (.ref b28), .val (.int (7 : Int32)), .val (.ref w7), .unset]) rfl ?_
      show Steps p.tables e below (T41.setTop (mkF m 168 #[.val (.int y), .val (.ref b1), .val (.ref b28), .val (.int (7 : Int32)), .val (.ref w7), .unset] [])) t
      refine XS.aload X41.here hx rfl (hb hby at_168) rfl rfl ?_
      show Steps p.tables e below (T41.setTop (mkF m 170 #[.val (.int y), .val (.ref b1), .val (.ref b28), .val (.int (7 : Int32)), .val (.ref w7), .unset] [(.ref w7)])) t
      refine st102.trans ?_
      show Steps p.tables e below (T102.setTop (mkF m 173 #[.val (.int y), .val (.ref b1), .val (.ref b28), .val (.int (7 : Int32)), .val (.ref w7), .unset] [(.int (0 : Int32))])) t
      refine XS.istore X102.here hx rfl (hb hby at_173) rfl (l' := #[.val (.int y), .val (.ref b1), .val (.ref b28), .val (.int (7 : Int32)), .val (.ref w7), .val (.int (0 : Int32))]) rfl ?_
      show Steps p.tables e below (T102.setTop (mkF m 175 #[.val (.int y), .val (.ref b1), .val (.ref b28), .val (.int (7 : Int32)), .val (.ref w7), .val (.int (0 : Int32))] [])) t
      refine XS.iload X102.here hx rfl (hb hby at_175) rfl ?_
      show Steps p.tables e below (T102.setTop (mkF m 177 #[.val (.int y), .val (.ref b1), .val (.ref b28), .val (.int (7 : Int32)), .val (.ref w7), .val (.int (0 : Int32))] [(.int (0 : Int32))])) t
      refine XS.aloadN X102.here hx rfl (hb hby at_177) rfl rfl ?_
      show Steps p.tables e below (T102.setTop (mkF m 178 #[.val (.int y), .val (.ref b1), .val (.ref b28), .val (.int (7 : Int32)), .val (.ref w7), .val (.int (0 : Int32))] [(.ref b28), (.int (0 : Int32))])) t
      refine XS.iloadN X102.here hx rfl (hb hby at_178) rfl ?_
      show Steps p.tables e below (T102.setTop (mkF m 179 #[.val (.int y), .val (.ref b1), .val (.ref b28), .val (.int (7 : Int32)), .val (.ref w7), .val (.int (0 : Int32))] [(.int (7 : Int32)), (.ref b28), (.int (0 : Int32))])) t
      refine X102.baloadBooleans hx (j := (7 : Int32)) (v := (.int (0 : Int32))) (by rw [e102]; exact Ar103.1) (State.isArrayOf_alike hZ.alike Ar103.2.1) Ar103.2.2 in103 at103 (g := (mkF m 179 #[.val (.int y), .val (.ref b1), .val (.ref b28), .val (.int (7 : Int32)), .val (.ref w7), .val (.int (0 : Int32))] [(.int (7 : Int32)), (.ref b28), (.int (0 : Int32))])) rfl rfl (hb hby at_179) _ ?_
      show Steps p.tables e below (T102.setTop (mkF m 180 #[.val (.int y), .val (.ref b1), .val (.ref b28), .val (.int (7 : Int32)), .val (.ref w7), .val (.int (0 : Int32))] [(.int (0 : Int32)), (.int (0 : Int32))])) t
      refine XS.icmpNo X102.here hx rfl (hb hby at_180) rfl (teq ((by decide) : (0 : Int32) = (0 : Int32))).2 ?_
      show Steps p.tables e below (T102.setTop (mkF m 183 #[.val (.int y), .val (.ref b1), .val (.ref b28), .val (.int (7 : Int32)), .val (.ref w7), .val (.int (0 : Int32))] [])) t
      refine XS.iload X102.here hx rfl (hb hby at_183) rfl ?_
      show Steps p.tables e below (T102.setTop (mkF m 185 #[.val (.int y), .val (.ref b1), .val (.ref b28), .val (.int (7 : Int32)), .val (.ref w7), .val (.int (0 : Int32))] [(.int (0 : Int32))])) t
      refine XS.aload X102.here hx rfl (hb hby at_185) rfl rfl ?_
      show Steps p.tables e below (T102.setTop (mkF m 187 #[.val (.int y), .val (.ref b1), .val (.ref b28), .val (.int (7 : Int32)), .val (.ref w7), .val (.int (0 : Int32))] [(.ref w7), (.int (0 : Int32))])) t
      refine st104.trans ?_
      show Steps p.tables e below (T104.setTop (mkF m 190 #[.val (.int y), .val (.ref b1), .val (.ref b28), .val (.int (7 : Int32)), .val (.ref w7), .val (.int (0 : Int32))] [(.ref v0), (.int (0 : Int32))])) t
      refine st105 _ ?_
      show Steps p.tables e below (T105.setTop (mkF m 193 #[.val (.int y), .val (.ref b1), .val (.ref b28), .val (.int (7 : Int32)), .val (.ref w7), .val (.int (0 : Int32))] [(.ref v1), (.ref v0), (.int (0 : Int32))])) t
      refine Jvm.RoadKit.acmp (g := (mkF m 193 #[.val (.int y), .val (.ref b1), .val (.ref b28), .val (.int (7 : Int32)), .val (.ref w7), .val (.int (0 : Int32))] [(.ref v1), (.ref v0), (.int (0 : Int32))])) X105 hx rfl rfl rfl (pc0 := 193) (pc' := 200) (same := false) rfl (hb hby at_193) rfl (decide_eq_false (fun q => ne_v0_v1 (Value.ref.inj q))) (by decide) (by decide) ?_
      show Steps p.tables e below (T105.setTop (mkF m 200 #[.val (.int y), .val (.ref b1), .val (.ref b28), .val (.int (7 : Int32)), .val (.ref w7), .val (.int (0 : Int32))] [(.int (0 : Int32))])) t
      refine XS.iconst X105.here hx rfl (hb hby at_200) ?_
      show Steps p.tables e below (T105.setTop (mkF m 201 #[.val (.int y), .val (.ref b1), .val (.ref b28), .val (.int (7 : Int32)), .val (.ref w7), .val (.int (0 : Int32))] [(.int (0 : Int32)), (.int (0 : Int32))])) t
      refine XS.icmpNo X105.here hx rfl (hb hby at_201) rfl (teq ((by decide) : (0 : Int32) = (0 : Int32))).2 ?_
      show Steps p.tables e below (T105.setTop (mkF m 204 #[.val (.int y), .val (.ref b1), .val (.ref b28), .val (.int (7 : Int32)), .val (.ref w7), .val (.int (0 : Int32))] [])) t
      refine XS.iconst X105.here hx rfl (hb hby at_204) ?_
      show Steps p.tables e below (T105.setTop (mkF m 205 #[.val (.int y), .val (.ref b1), .val (.ref b28), .val (.int (7 : Int32)), .val (.ref w7), .val (.int (0 : Int32))] [(.int (1 : Int32))])) t
      refine XS.goto X105.here hx rfl (pc0 := 205) (pc' := 209) rfl (hb hby at_205) (by decide) (by decide) ?_
      exact k
    obtain ⟨fs, hr, hrun, hended, hW, hsame⟩ := X105.leave (v := some (.int (1 : Int32))) (fun h => by rw [Bd.returns] at h; cases h)
    refine ⟨_, _, R106 _ ?_, hrun, hended, _, _, rfl, ?_, ⟨_, rfl⟩, hW, hsame.mono (by decide) (by decide)⟩
    · show Steps p.tables e below (T105.setTop (mkF m 209 #[.val (.int y), .val (.ref b1), .val (.ref b28), .val (.int (7 : Int32)), .val (.ref w7), .val (.int (0 : Int32))] [(.int (1 : Int32))])) _
      exact retN X105 hx (t := .boolean) Bd.returns (by simp) (hb hby at_209) hr
    · show Q_rm0 Z w0 w1 w2 w3 w4 w5 w6 w7 w8 w9 w10 w11 w12 v0 v1 v2 y h0 n0 _ T105.heap _
      rw [e105]
      exact ⟨rfl, N104⟩
  · have R107 := R42
    rw [hi] at R107
    have f108 : Arv Z h41 b1 k1 (.object "com/example/transcript_search/transcriptsearch/fusion/FusionMethod") (13 : Int32) [(.ref w0), (.ref w1), (.ref w2), (.ref w3), (.ref w4), (.ref w5), (.ref w6), (.ref w7), (.ref w8), (.ref w9), (.ref w10), (.ref w11), (.ref w12)] .null := ((((((((((((((V27.ext E28).other W29 ne_b1_b28).other W30 ne_b1_b28).other W31 ne_b1_b28).other W32 ne_b1_b28).other W33 ne_b1_b28).other W34 ne_b1_b28).other W35 ne_b1_b28).other W36 ne_b1_b28).other W37 ne_b1_b28).other W38 ne_b1_b28).other W39 ne_b1_b28).other W40 ne_b1_b28).other W41 ne_b1_b28)
    obtain ⟨cl109, Ar109, q109, S109, M109, H109, G109⟩ := id f108
    have in109 : ¬ ((8 : Int32) < 0 ∨ cl109.slots.size ≤ ((8 : Int32)).toNatClampNeg) := inb_of S109 ⟨by decide, by decide⟩
    have at109 : cl109.slots[((8 : Int32)).toNatClampNeg]? = some (.ref w8) := H109.at in109 rfl
    obtain ⟨cq110, kq110, q110a, q110b, q110c⟩ := isOf hZ e41 (E_w8.ext O41.2)
    obtain ⟨_, _, ⟨T110, L110, k110, n110⟩, -, X110, ⟨Lc110, hQ110, l110, y110, z110⟩, st110⟩ := X41.virtualBack hx (y := (⟨"com/example/transcript_search/transcriptsearch/fusion/FusionMethod", "countsUnscalableRunsAsZero", "()Z"⟩ : MethodName)) (z := (⟨"com/example/transcript_search/transcriptsearch/fusion/FusionMethod", "countsUnscalableRunsAsZero", "()Z"⟩ : MethodName)) hown (mvT hZ (hw _ (List.mem_of_getElem? (i := 32) rfl))) (mvT hZ (hw _ (List.mem_of_getElem? (i := 33) rfl))) (notFace_of_selects (args := #[]) (mvT hZ (hw _ (List.mem_of_getElem? (i := 35) rfl)))) (mvT hZ (hw _ (List.mem_of_getElem? (i := 35) rfl))) (mvT hZ (hw _ (List.mem_of_getElem? (i := 34) rfl))) (by decide) (backOf (W := 0) (czo l Z a0 hw [] w0 w1 w2 w3 w4 w5 w6 w7 w8 w9 w10 w11 w12 v0 v1 v2 w8 h41 n0 O41 S_w0 S_w1 S_w2 S_w3 S_w4 S_w5 S_w6 S_w7 S_w8 S_w9 S_w10 S_w11 S_w12 S_v1 E_w0 E_w1 E_w2 E_w3 E_w4 E_w5 E_w6 E_w7 E_w8 E_w9 E_w10 E_w11 E_w12 M_w0 M_w1 M_w2 M_w3 M_w4 M_w5 M_w6 M_w7 M_w8 M_w9 M_w10 M_w11 M_w12 ne_w0_w10 ne_w1_w10 ne_w2_w10 ne_w3_w10 ne_w4_w10 ne_w5_w10 ne_w6_w10 ne_w7_w10 ne_w8_w10 ne_w9_w10 ne_w11_w10 ne_w12_w10 ne_w0_w11 ne_w1_w11 ne_w2_w11 ne_w3_w11 ne_w4_w11 ne_w5_w11 ne_w6_w11 ne_w7_w11 ne_w8_w11 ne_w9_w11 ne_w12_w11 ne_v0_v1 ne_v2_v1  ne_w8_w10 ne_w8_w11 ) hZ (hw _ (List.mem_of_getElem? (i := 36) rfl)) (hw _ (List.mem_of_getElem? (i := 3) rfl)) (by decide) (by decide)) q110a q110c (g := (mkF m 170 #[.val (.int y), .val (.ref b1), .val (.ref b28), .val (.int (8 : Int32)), .val (.ref w8), .unset] [(.ref w8)])) rfl (by rw [hml]; rfl) (Steps.refl _) (argsL := []) (rest := []) (lenOf pd_0 rfl) rfl (by show 2 * 0 + _ ≤ _; exact Nat.le_of_eq rfl) (hb hby at_170) (fun _ _ => ⟨rfl, e41, (by decide : 2 + 0 ≤ _), (by decide : 26 + 0 ≤ _)⟩)
    dsimp only [Pt.U, Pt.locs, Pt.cells, Pt.slots] at X110 l110 y110 z110 st110 hQ110
    rw [l110, y110, z110] at X110
    obtain ⟨rfl, N110q, e110⟩ := hQ110
    have N110 := Fr.app N41 N110q
    obtain ⟨cl111, Ar111, q111, S111, M111, H111, G111⟩ := id V41
    have in111 : ¬ ((8 : Int32) < 0 ∨ cl111.slots.size ≤ ((8 : Int32)).toNatClampNeg) := inb_of S111 ⟨by decide, by decide⟩
    have at111 : cl111.slots[((8 : Int32)).toNatClampNeg]? = some (.int (0 : Int32)) := H111.at in111 rfl
    obtain ⟨cq112, kq112, q112a, q112b, q112c⟩ := isOf hZ e110 (E_w8.ext O41.2)
    obtain ⟨_, _, ⟨T112, L112, k112, n112⟩, -, X112, ⟨Lc112, hQ112, l112, y112, z112⟩, st112⟩ := X110.virtualBack hx (y := (⟨"com/example/transcript_search/transcriptsearch/fusion/FusionMethod", "defaultNormalisation", "()Lcom/example/transcript_search/transcriptsearch/fusion/Normalisation;"⟩ : MethodName)) (z := (⟨"com/example/transcript_search/transcriptsearch/fusion/FusionMethod", "defaultNormalisation", "()Lcom/example/transcript_search/transcriptsearch/fusion/Normalisation;"⟩ : MethodName)) hown (mvT hZ (hw _ (List.mem_of_getElem? (i := 39) rfl))) (mvT hZ (hw _ (List.mem_of_getElem? (i := 40) rfl))) (notFace_of_selects (args := #[]) (mvT hZ (hw _ (List.mem_of_getElem? (i := 42) rfl)))) (mvT hZ (hw _ (List.mem_of_getElem? (i := 42) rfl))) (mvT hZ (hw _ (List.mem_of_getElem? (i := 41) rfl))) (by decide) (backOf (W := 1) (dn l Z a0 hw [] w0 w1 w2 w3 w4 w5 w6 w7 w8 w9 w10 w11 w12 v0 v1 v2 w8 v2 h41 n0 O41 S_w0 S_w1 S_w2 S_w3 S_w4 S_w5 S_w6 S_w7 S_w8 S_w9 S_w10 S_w11 S_w12 S_v1 E_w0 E_w1 E_w2 E_w3 E_w4 E_w5 E_w6 E_w7 E_w8 E_w9 E_w10 E_w11 E_w12 M_w0 M_w1 M_w2 M_w3 M_w4 M_w5 M_w6 M_w7 M_w8 M_w9 M_w10 M_w11 M_w12 ne_w0_w10 ne_w1_w10 ne_w2_w10 ne_w3_w10 ne_w4_w10 ne_w5_w10 ne_w6_w10 ne_w7_w10 ne_w8_w10 ne_w9_w10 ne_w11_w10 ne_w12_w10 ne_w0_w11 ne_w1_w11 ne_w2_w11 ne_w3_w11 ne_w4_w11 ne_w5_w11 ne_w6_w11 ne_w7_w11 ne_w8_w11 ne_w9_w11 ne_w12_w11 ne_v0_v1 ne_v2_v1   (M_w8.ext O41.2)) hZ (hw _ (List.mem_of_getElem? (i := 43) rfl)) (hw _ (List.mem_of_getElem? (i := 3) rfl)) (by decide) (by decide)) q112a q112c (g := (mkF m 187 #[.val (.int y), .val (.ref b1), .val (.ref b28), .val (.int (8 : Int32)), .val (.ref w8), .val (.int (0 : Int32))] [(.ref w8), (.int (0 : Int32))])) rfl (by rw [hml]; rfl) (Steps.refl _) (argsL := []) (rest := [(.int (0 : Int32))]) (lenOf pd_1 rfl) rfl (by show 2 * 0 + _ ≤ _; exact Nat.le_of_eq rfl) (hb hby at_187) (fun _ _ => ⟨rfl, e110, (by decide : 2 + 0 ≤ _), (by decide : 26 + 0 ≤ _)⟩)
    dsimp only [Pt.U, Pt.locs, Pt.cells, Pt.slots] at X112 l112 y112 z112 st112 hQ112
    rw [l112, y112, z112] at X112
    obtain ⟨rfl, N112q, e112⟩ := hQ112
    have N112 := Fr.app N110 N112q
    obtain ⟨T113, X113, e113, st113⟩ := getS2 X112 hx hZ hown (host := "") (Or.inl (hw _ (List.mem_of_getElem? (i := 48) rfl))) Via.refl e112 (S_v1.ext O41.2) (g := (mkF m 190 #[.val (.int y), .val (.ref b1), .val (.ref b28), .val (.int (8 : Int32)), .val (.ref w8), .val (.int (0 : Int32))] [(.ref v2), (.int (0 : Int32))])) rfl (hb hby at_190)
    have R114 : ∀ t, Steps p.tables e below (T113.setTop (mkF m 209 #[.val (.int y), .val (.ref b1), .val (.ref b28), .val (.int (8 : Int32)), .val (.ref w8), .val (.int (0 : Int32))] [(.int (1 : Int32))])) t → Steps p.tables e below (s₁.setTop (entryFrame m #[(.int y)] maxLocals)) t := by
      intro t k
      refine R107 t ?_
      show Steps p.tables e below (T41.setTop (mkF m 165 #[.val (.int y), .val (.ref b1), .val (.ref b28), .val (.int (8 : Int32)), .unset, .unset] [(.int (8 : Int32)), (.ref b1)])) t
      refine X41.aaload hx (j := (8 : Int32)) (v := (.ref w8)) (by rw [e41]; exact Ar109.1) (State.isArrayOf_alike hZ.alike Ar109.2.1) rfl Ar109.2.2 in109 at109 (g := (mkF m 165 #[.val (.int y), .val (.ref b1), .val (.ref b28), .val (.int (8 : Int32)), .unset, .unset] [(.int (8 : Int32)), (.ref b1)])) rfl rfl (hb hby at_165) _ ?_
      show Steps p.tables e below (T41.setTop (mkF m 166 #[.val (.int y), .val (.ref b1), .val (.ref b28), .val (.int (8 : Int32)), .unset, .unset] [(.ref w8)])) t
      refine XS.astore X41.here hx rfl (hb hby at_166) rfl rfl (l' := #[.val (.int y), .val (.ref b1), .val (.ref b28), .val (.int (8 : Int32)), .val (.ref w8), .unset]) rfl ?_
      show Steps p.tables e below (T41.setTop (mkF m 168 #[.val (.int y), .val (.ref b1), .val (.ref b28), .val (.int (8 : Int32)), .val (.ref w8), .unset] [])) t
      refine XS.aload X41.here hx rfl (hb hby at_168) rfl rfl ?_
      show Steps p.tables e below (T41.setTop (mkF m 170 #[.val (.int y), .val (.ref b1), .val (.ref b28), .val (.int (8 : Int32)), .val (.ref w8), .unset] [(.ref w8)])) t
      refine st110.trans ?_
      show Steps p.tables e below (T110.setTop (mkF m 173 #[.val (.int y), .val (.ref b1), .val (.ref b28), .val (.int (8 : Int32)), .val (.ref w8), .unset] [(.int (0 : Int32))])) t
      refine XS.istore X110.here hx rfl (hb hby at_173) rfl (l' := #[.val (.int y), .val (.ref b1), .val (.ref b28), .val (.int (8 : Int32)), .val (.ref w8), .val (.int (0 : Int32))]) rfl ?_
      show Steps p.tables e below (T110.setTop (mkF m 175 #[.val (.int y), .val (.ref b1), .val (.ref b28), .val (.int (8 : Int32)), .val (.ref w8), .val (.int (0 : Int32))] [])) t
      refine XS.iload X110.here hx rfl (hb hby at_175) rfl ?_
      show Steps p.tables e below (T110.setTop (mkF m 177 #[.val (.int y), .val (.ref b1), .val (.ref b28), .val (.int (8 : Int32)), .val (.ref w8), .val (.int (0 : Int32))] [(.int (0 : Int32))])) t
      refine XS.aloadN X110.here hx rfl (hb hby at_177) rfl rfl ?_
      show Steps p.tables e below (T110.setTop (mkF m 178 #[.val (.int y), .val (.ref b1), .val (.ref b28), .val (.int (8 : Int32)), .val (.ref w8), .val (.int (0 : Int32))] [(.ref b28), (.int (0 : Int32))])) t
      refine XS.iloadN X110.here hx rfl (hb hby at_178) rfl ?_
      show Steps p.tables e below (T110.setTop (mkF m 179 #[.val (.int y), .val (.ref b1), .val (.ref b28), .val (.int (8 : Int32)), .val (.ref w8), .val (.int (0 : Int32))] [(.int (8 : Int32)), (.ref b28), (.int (0 : Int32))])) t
      refine X110.baloadBooleans hx (j := (8 : Int32)) (v := (.int (0 : Int32))) (by rw [e110]; exact Ar111.1) (State.isArrayOf_alike hZ.alike Ar111.2.1) Ar111.2.2 in111 at111 (g := (mkF m 179 #[.val (.int y), .val (.ref b1), .val (.ref b28), .val (.int (8 : Int32)), .val (.ref w8), .val (.int (0 : Int32))] [(.int (8 : Int32)), (.ref b28), (.int (0 : Int32))])) rfl rfl (hb hby at_179) _ ?_
      show Steps p.tables e below (T110.setTop (mkF m 180 #[.val (.int y), .val (.ref b1), .val (.ref b28), .val (.int (8 : Int32)), .val (.ref w8), .val (.int (0 : Int32))] [(.int (0 : Int32)), (.int (0 : Int32))])) t
      refine XS.icmpNo X110.here hx rfl (hb hby at_180) rfl (teq ((by decide) : (0 : Int32) = (0 : Int32))).2 ?_
      show Steps p.tables e below (T110.setTop (mkF m 183 #[.val (.int y), .val (.ref b1), .val (.ref b28), .val (.int (8 : Int32)), .val (.ref w8), .val (.int (0 : Int32))] [])) t
      refine XS.iload X110.here hx rfl (hb hby at_183) rfl ?_
      show Steps p.tables e below (T110.setTop (mkF m 185 #[.val (.int y), .val (.ref b1), .val (.ref b28), .val (.int (8 : Int32)), .val (.ref w8), .val (.int (0 : Int32))] [(.int (0 : Int32))])) t
      refine XS.aload X110.here hx rfl (hb hby at_185) rfl rfl ?_
      show Steps p.tables e below (T110.setTop (mkF m 187 #[.val (.int y), .val (.ref b1), .val (.ref b28), .val (.int (8 : Int32)), .val (.ref w8), .val (.int (0 : Int32))] [(.ref w8), (.int (0 : Int32))])) t
      refine st112.trans ?_
      show Steps p.tables e below (T112.setTop (mkF m 190 #[.val (.int y), .val (.ref b1), .val (.ref b28), .val (.int (8 : Int32)), .val (.ref w8), .val (.int (0 : Int32))] [(.ref v2), (.int (0 : Int32))])) t
      refine st113 _ ?_
      show Steps p.tables e below (T113.setTop (mkF m 193 #[.val (.int y), .val (.ref b1), .val (.ref b28), .val (.int (8 : Int32)), .val (.ref w8), .val (.int (0 : Int32))] [(.ref v1), (.ref v2), (.int (0 : Int32))])) t
      refine Jvm.RoadKit.acmp (g := (mkF m 193 #[.val (.int y), .val (.ref b1), .val (.ref b28), .val (.int (8 : Int32)), .val (.ref w8), .val (.int (0 : Int32))] [(.ref v1), (.ref v2), (.int (0 : Int32))])) X113 hx rfl rfl rfl (pc0 := 193) (pc' := 200) (same := false) rfl (hb hby at_193) rfl (decide_eq_false (fun q => ne_v2_v1 (Value.ref.inj q))) (by decide) (by decide) ?_
      show Steps p.tables e below (T113.setTop (mkF m 200 #[.val (.int y), .val (.ref b1), .val (.ref b28), .val (.int (8 : Int32)), .val (.ref w8), .val (.int (0 : Int32))] [(.int (0 : Int32))])) t
      refine XS.iconst X113.here hx rfl (hb hby at_200) ?_
      show Steps p.tables e below (T113.setTop (mkF m 201 #[.val (.int y), .val (.ref b1), .val (.ref b28), .val (.int (8 : Int32)), .val (.ref w8), .val (.int (0 : Int32))] [(.int (0 : Int32)), (.int (0 : Int32))])) t
      refine XS.icmpNo X113.here hx rfl (hb hby at_201) rfl (teq ((by decide) : (0 : Int32) = (0 : Int32))).2 ?_
      show Steps p.tables e below (T113.setTop (mkF m 204 #[.val (.int y), .val (.ref b1), .val (.ref b28), .val (.int (8 : Int32)), .val (.ref w8), .val (.int (0 : Int32))] [])) t
      refine XS.iconst X113.here hx rfl (hb hby at_204) ?_
      show Steps p.tables e below (T113.setTop (mkF m 205 #[.val (.int y), .val (.ref b1), .val (.ref b28), .val (.int (8 : Int32)), .val (.ref w8), .val (.int (0 : Int32))] [(.int (1 : Int32))])) t
      refine XS.goto X113.here hx rfl (pc0 := 205) (pc' := 209) rfl (hb hby at_205) (by decide) (by decide) ?_
      exact k
    obtain ⟨fs, hr, hrun, hended, hW, hsame⟩ := X113.leave (v := some (.int (1 : Int32))) (fun h => by rw [Bd.returns] at h; cases h)
    refine ⟨_, _, R114 _ ?_, hrun, hended, _, _, rfl, ?_, ⟨_, rfl⟩, hW, hsame.mono (by decide) (by decide)⟩
    · show Steps p.tables e below (T113.setTop (mkF m 209 #[.val (.int y), .val (.ref b1), .val (.ref b28), .val (.int (8 : Int32)), .val (.ref w8), .val (.int (0 : Int32))] [(.int (1 : Int32))])) _
      exact retN X113 hx (t := .boolean) Bd.returns (by simp) (hb hby at_209) hr
    · show Q_rm0 Z w0 w1 w2 w3 w4 w5 w6 w7 w8 w9 w10 w11 w12 v0 v1 v2 y h0 n0 _ T113.heap _
      rw [e113]
      exact ⟨rfl, N112⟩
  · have R115 := R42
    rw [hi] at R115
    have f116 : Arv Z h41 b1 k1 (.object "com/example/transcript_search/transcriptsearch/fusion/FusionMethod") (13 : Int32) [(.ref w0), (.ref w1), (.ref w2), (.ref w3), (.ref w4), (.ref w5), (.ref w6), (.ref w7), (.ref w8), (.ref w9), (.ref w10), (.ref w11), (.ref w12)] .null := ((((((((((((((V27.ext E28).other W29 ne_b1_b28).other W30 ne_b1_b28).other W31 ne_b1_b28).other W32 ne_b1_b28).other W33 ne_b1_b28).other W34 ne_b1_b28).other W35 ne_b1_b28).other W36 ne_b1_b28).other W37 ne_b1_b28).other W38 ne_b1_b28).other W39 ne_b1_b28).other W40 ne_b1_b28).other W41 ne_b1_b28)
    obtain ⟨cl117, Ar117, q117, S117, M117, H117, G117⟩ := id f116
    have in117 : ¬ ((9 : Int32) < 0 ∨ cl117.slots.size ≤ ((9 : Int32)).toNatClampNeg) := inb_of S117 ⟨by decide, by decide⟩
    have at117 : cl117.slots[((9 : Int32)).toNatClampNeg]? = some (.ref w9) := H117.at in117 rfl
    obtain ⟨cq118, kq118, q118a, q118b, q118c⟩ := isOf hZ e41 (E_w9.ext O41.2)
    obtain ⟨_, _, ⟨T118, L118, k118, n118⟩, -, X118, ⟨Lc118, hQ118, l118, y118, z118⟩, st118⟩ := X41.virtualBack hx (y := (⟨"com/example/transcript_search/transcriptsearch/fusion/FusionMethod", "countsUnscalableRunsAsZero", "()Z"⟩ : MethodName)) (z := (⟨"com/example/transcript_search/transcriptsearch/fusion/FusionMethod", "countsUnscalableRunsAsZero", "()Z"⟩ : MethodName)) hown (mvT hZ (hw _ (List.mem_of_getElem? (i := 32) rfl))) (mvT hZ (hw _ (List.mem_of_getElem? (i := 33) rfl))) (notFace_of_selects (args := #[]) (mvT hZ (hw _ (List.mem_of_getElem? (i := 35) rfl)))) (mvT hZ (hw _ (List.mem_of_getElem? (i := 35) rfl))) (mvT hZ (hw _ (List.mem_of_getElem? (i := 34) rfl))) (by decide) (backOf (W := 0) (czo l Z a0 hw [] w0 w1 w2 w3 w4 w5 w6 w7 w8 w9 w10 w11 w12 v0 v1 v2 w9 h41 n0 O41 S_w0 S_w1 S_w2 S_w3 S_w4 S_w5 S_w6 S_w7 S_w8 S_w9 S_w10 S_w11 S_w12 S_v1 E_w0 E_w1 E_w2 E_w3 E_w4 E_w5 E_w6 E_w7 E_w8 E_w9 E_w10 E_w11 E_w12 M_w0 M_w1 M_w2 M_w3 M_w4 M_w5 M_w6 M_w7 M_w8 M_w9 M_w10 M_w11 M_w12 ne_w0_w10 ne_w1_w10 ne_w2_w10 ne_w3_w10 ne_w4_w10 ne_w5_w10 ne_w6_w10 ne_w7_w10 ne_w8_w10 ne_w9_w10 ne_w11_w10 ne_w12_w10 ne_w0_w11 ne_w1_w11 ne_w2_w11 ne_w3_w11 ne_w4_w11 ne_w5_w11 ne_w6_w11 ne_w7_w11 ne_w8_w11 ne_w9_w11 ne_w12_w11 ne_v0_v1 ne_v2_v1  ne_w9_w10 ne_w9_w11 ) hZ (hw _ (List.mem_of_getElem? (i := 36) rfl)) (hw _ (List.mem_of_getElem? (i := 3) rfl)) (by decide) (by decide)) q118a q118c (g := (mkF m 170 #[.val (.int y), .val (.ref b1), .val (.ref b28), .val (.int (9 : Int32)), .val (.ref w9), .unset] [(.ref w9)])) rfl (by rw [hml]; rfl) (Steps.refl _) (argsL := []) (rest := []) (lenOf pd_0 rfl) rfl (by show 2 * 0 + _ ≤ _; exact Nat.le_of_eq rfl) (hb hby at_170) (fun _ _ => ⟨rfl, e41, (by decide : 2 + 0 ≤ _), (by decide : 26 + 0 ≤ _)⟩)
    dsimp only [Pt.U, Pt.locs, Pt.cells, Pt.slots] at X118 l118 y118 z118 st118 hQ118
    rw [l118, y118, z118] at X118
    obtain ⟨rfl, N118q, e118⟩ := hQ118
    have N118 := Fr.app N41 N118q
    obtain ⟨cl119, Ar119, q119, S119, M119, H119, G119⟩ := id V41
    have in119 : ¬ ((9 : Int32) < 0 ∨ cl119.slots.size ≤ ((9 : Int32)).toNatClampNeg) := inb_of S119 ⟨by decide, by decide⟩
    have at119 : cl119.slots[((9 : Int32)).toNatClampNeg]? = some (.int (0 : Int32)) := H119.at in119 rfl
    obtain ⟨cq120, kq120, q120a, q120b, q120c⟩ := isOf hZ e118 (E_w9.ext O41.2)
    obtain ⟨_, _, ⟨T120, L120, k120, n120⟩, -, X120, ⟨Lc120, hQ120, l120, y120, z120⟩, st120⟩ := X118.virtualBack hx (y := (⟨"com/example/transcript_search/transcriptsearch/fusion/FusionMethod", "defaultNormalisation", "()Lcom/example/transcript_search/transcriptsearch/fusion/Normalisation;"⟩ : MethodName)) (z := (⟨"com/example/transcript_search/transcriptsearch/fusion/FusionMethod", "defaultNormalisation", "()Lcom/example/transcript_search/transcriptsearch/fusion/Normalisation;"⟩ : MethodName)) hown (mvT hZ (hw _ (List.mem_of_getElem? (i := 39) rfl))) (mvT hZ (hw _ (List.mem_of_getElem? (i := 40) rfl))) (notFace_of_selects (args := #[]) (mvT hZ (hw _ (List.mem_of_getElem? (i := 42) rfl)))) (mvT hZ (hw _ (List.mem_of_getElem? (i := 42) rfl))) (mvT hZ (hw _ (List.mem_of_getElem? (i := 41) rfl))) (by decide) (backOf (W := 1) (dn l Z a0 hw [] w0 w1 w2 w3 w4 w5 w6 w7 w8 w9 w10 w11 w12 v0 v1 v2 w9 v2 h41 n0 O41 S_w0 S_w1 S_w2 S_w3 S_w4 S_w5 S_w6 S_w7 S_w8 S_w9 S_w10 S_w11 S_w12 S_v1 E_w0 E_w1 E_w2 E_w3 E_w4 E_w5 E_w6 E_w7 E_w8 E_w9 E_w10 E_w11 E_w12 M_w0 M_w1 M_w2 M_w3 M_w4 M_w5 M_w6 M_w7 M_w8 M_w9 M_w10 M_w11 M_w12 ne_w0_w10 ne_w1_w10 ne_w2_w10 ne_w3_w10 ne_w4_w10 ne_w5_w10 ne_w6_w10 ne_w7_w10 ne_w8_w10 ne_w9_w10 ne_w11_w10 ne_w12_w10 ne_w0_w11 ne_w1_w11 ne_w2_w11 ne_w3_w11 ne_w4_w11 ne_w5_w11 ne_w6_w11 ne_w7_w11 ne_w8_w11 ne_w9_w11 ne_w12_w11 ne_v0_v1 ne_v2_v1   (M_w9.ext O41.2)) hZ (hw _ (List.mem_of_getElem? (i := 43) rfl)) (hw _ (List.mem_of_getElem? (i := 3) rfl)) (by decide) (by decide)) q120a q120c (g := (mkF m 187 #[.val (.int y), .val (.ref b1), .val (.ref b28), .val (.int (9 : Int32)), .val (.ref w9), .val (.int (0 : Int32))] [(.ref w9), (.int (0 : Int32))])) rfl (by rw [hml]; rfl) (Steps.refl _) (argsL := []) (rest := [(.int (0 : Int32))]) (lenOf pd_1 rfl) rfl (by show 2 * 0 + _ ≤ _; exact Nat.le_of_eq rfl) (hb hby at_187) (fun _ _ => ⟨rfl, e118, (by decide : 2 + 0 ≤ _), (by decide : 26 + 0 ≤ _)⟩)
    dsimp only [Pt.U, Pt.locs, Pt.cells, Pt.slots] at X120 l120 y120 z120 st120 hQ120
    rw [l120, y120, z120] at X120
    obtain ⟨rfl, N120q, e120⟩ := hQ120
    have N120 := Fr.app N118 N120q
    obtain ⟨T121, X121, e121, st121⟩ := getS2 X120 hx hZ hown (host := "") (Or.inl (hw _ (List.mem_of_getElem? (i := 48) rfl))) Via.refl e120 (S_v1.ext O41.2) (g := (mkF m 190 #[.val (.int y), .val (.ref b1), .val (.ref b28), .val (.int (9 : Int32)), .val (.ref w9), .val (.int (0 : Int32))] [(.ref v2), (.int (0 : Int32))])) rfl (hb hby at_190)
    have R122 : ∀ t, Steps p.tables e below (T121.setTop (mkF m 209 #[.val (.int y), .val (.ref b1), .val (.ref b28), .val (.int (9 : Int32)), .val (.ref w9), .val (.int (0 : Int32))] [(.int (1 : Int32))])) t → Steps p.tables e below (s₁.setTop (entryFrame m #[(.int y)] maxLocals)) t := by
      intro t k
      refine R115 t ?_
      show Steps p.tables e below (T41.setTop (mkF m 165 #[.val (.int y), .val (.ref b1), .val (.ref b28), .val (.int (9 : Int32)), .unset, .unset] [(.int (9 : Int32)), (.ref b1)])) t
      refine X41.aaload hx (j := (9 : Int32)) (v := (.ref w9)) (by rw [e41]; exact Ar117.1) (State.isArrayOf_alike hZ.alike Ar117.2.1) rfl Ar117.2.2 in117 at117 (g := (mkF m 165 #[.val (.int y), .val (.ref b1), .val (.ref b28), .val (.int (9 : Int32)), .unset, .unset] [(.int (9 : Int32)), (.ref b1)])) rfl rfl (hb hby at_165) _ ?_
      show Steps p.tables e below (T41.setTop (mkF m 166 #[.val (.int y), .val (.ref b1), .val (.ref b28), .val (.int (9 : Int32)), .unset, .unset] [(.ref w9)])) t
      refine XS.astore X41.here hx rfl (hb hby at_166) rfl rfl (l' := #[.val (.int y), .val (.ref b1), .val (.ref b28), .val (.int (9 : Int32)), .val (.ref w9), .unset]) rfl ?_
      show Steps p.tables e below (T41.setTop (mkF m 168 #[.val (.int y), .val (.ref b1), .val (.ref b28), .val (.int (9 : Int32)), .val (.ref w9), .unset] [])) t
      refine XS.aload X41.here hx rfl (hb hby at_168) rfl rfl ?_
      show Steps p.tables e below (T41.setTop (mkF m 170 #[.val (.int y), .val (.ref b1), .val (.ref b28), .val (.int (9 : Int32)), .val (.ref w9), .unset] [(.ref w9)])) t
      refine st118.trans ?_
      show Steps p.tables e below (T118.setTop (mkF m 173 #[.val (.int y), .val (.ref b1), .val (.ref b28), .val (.int (9 : Int32)), .val (.ref w9), .unset] [(.int (0 : Int32))])) t
      refine XS.istore X118.here hx rfl (hb hby at_173) rfl (l' := #[.val (.int y), .val (.ref b1), .val (.ref b28), .val (.int (9 : Int32)), .val (.ref w9), .val (.int (0 : Int32))]) rfl ?_
      show Steps p.tables e below (T118.setTop (mkF m 175 #[.val (.int y), .val (.ref b1), .val (.ref b28), .val (.int (9 : Int32)), .val (.ref w9), .val (.int (0 : Int32))] [])) t
      refine XS.iload X118.here hx rfl (hb hby at_175) rfl ?_
      show Steps p.tables e below (T118.setTop (mkF m 177 #[.val (.int y), .val (.ref b1), .val (.ref b28), .val (.int (9 : Int32)), .val (.ref w9), .val (.int (0 : Int32))] [(.int (0 : Int32))])) t
      refine XS.aloadN X118.here hx rfl (hb hby at_177) rfl rfl ?_
      show Steps p.tables e below (T118.setTop (mkF m 178 #[.val (.int y), .val (.ref b1), .val (.ref b28), .val (.int (9 : Int32)), .val (.ref w9), .val (.int (0 : Int32))] [(.ref b28), (.int (0 : Int32))])) t
      refine XS.iloadN X118.here hx rfl (hb hby at_178) rfl ?_
      show Steps p.tables e below (T118.setTop (mkF m 179 #[.val (.int y), .val (.ref b1), .val (.ref b28), .val (.int (9 : Int32)), .val (.ref w9), .val (.int (0 : Int32))] [(.int (9 : Int32)), (.ref b28), (.int (0 : Int32))])) t
      refine X118.baloadBooleans hx (j := (9 : Int32)) (v := (.int (0 : Int32))) (by rw [e118]; exact Ar119.1) (State.isArrayOf_alike hZ.alike Ar119.2.1) Ar119.2.2 in119 at119 (g := (mkF m 179 #[.val (.int y), .val (.ref b1), .val (.ref b28), .val (.int (9 : Int32)), .val (.ref w9), .val (.int (0 : Int32))] [(.int (9 : Int32)), (.ref b28), (.int (0 : Int32))])) rfl rfl (hb hby at_179) _ ?_
      show Steps p.tables e below (T118.setTop (mkF m 180 #[.val (.int y), .val (.ref b1), .val (.ref b28), .val (.int (9 : Int32)), .val (.ref w9), .val (.int (0 : Int32))] [(.int (0 : Int32)), (.int (0 : Int32))])) t
      refine XS.icmpNo X118.here hx rfl (hb hby at_180) rfl (teq ((by decide) : (0 : Int32) = (0 : Int32))).2 ?_
      show Steps p.tables e below (T118.setTop (mkF m 183 #[.val (.int y), .val (.ref b1), .val (.ref b28), .val (.int (9 : Int32)), .val (.ref w9), .val (.int (0 : Int32))] [])) t
      refine XS.iload X118.here hx rfl (hb hby at_183) rfl ?_
      show Steps p.tables e below (T118.setTop (mkF m 185 #[.val (.int y), .val (.ref b1), .val (.ref b28), .val (.int (9 : Int32)), .val (.ref w9), .val (.int (0 : Int32))] [(.int (0 : Int32))])) t
      refine XS.aload X118.here hx rfl (hb hby at_185) rfl rfl ?_
      show Steps p.tables e below (T118.setTop (mkF m 187 #[.val (.int y), .val (.ref b1), .val (.ref b28), .val (.int (9 : Int32)), .val (.ref w9), .val (.int (0 : Int32))] [(.ref w9), (.int (0 : Int32))])) t
      refine st120.trans ?_
      show Steps p.tables e below (T120.setTop (mkF m 190 #[.val (.int y), .val (.ref b1), .val (.ref b28), .val (.int (9 : Int32)), .val (.ref w9), .val (.int (0 : Int32))] [(.ref v2), (.int (0 : Int32))])) t
      refine st121 _ ?_
      show Steps p.tables e below (T121.setTop (mkF m 193 #[.val (.int y), .val (.ref b1), .val (.ref b28), .val (.int (9 : Int32)), .val (.ref w9), .val (.int (0 : Int32))] [(.ref v1), (.ref v2), (.int (0 : Int32))])) t
      refine Jvm.RoadKit.acmp (g := (mkF m 193 #[.val (.int y), .val (.ref b1), .val (.ref b28), .val (.int (9 : Int32)), .val (.ref w9), .val (.int (0 : Int32))] [(.ref v1), (.ref v2), (.int (0 : Int32))])) X121 hx rfl rfl rfl (pc0 := 193) (pc' := 200) (same := false) rfl (hb hby at_193) rfl (decide_eq_false (fun q => ne_v2_v1 (Value.ref.inj q))) (by decide) (by decide) ?_
      show Steps p.tables e below (T121.setTop (mkF m 200 #[.val (.int y), .val (.ref b1), .val (.ref b28), .val (.int (9 : Int32)), .val (.ref w9), .val (.int (0 : Int32))] [(.int (0 : Int32))])) t
      refine XS.iconst X121.here hx rfl (hb hby at_200) ?_
      show Steps p.tables e below (T121.setTop (mkF m 201 #[.val (.int y), .val (.ref b1), .val (.ref b28), .val (.int (9 : Int32)), .val (.ref w9), .val (.int (0 : Int32))] [(.int (0 : Int32)), (.int (0 : Int32))])) t
      refine XS.icmpNo X121.here hx rfl (hb hby at_201) rfl (teq ((by decide) : (0 : Int32) = (0 : Int32))).2 ?_
      show Steps p.tables e below (T121.setTop (mkF m 204 #[.val (.int y), .val (.ref b1), .val (.ref b28), .val (.int (9 : Int32)), .val (.ref w9), .val (.int (0 : Int32))] [])) t
      refine XS.iconst X121.here hx rfl (hb hby at_204) ?_
      show Steps p.tables e below (T121.setTop (mkF m 205 #[.val (.int y), .val (.ref b1), .val (.ref b28), .val (.int (9 : Int32)), .val (.ref w9), .val (.int (0 : Int32))] [(.int (1 : Int32))])) t
      refine XS.goto X121.here hx rfl (pc0 := 205) (pc' := 209) rfl (hb hby at_205) (by decide) (by decide) ?_
      exact k
    obtain ⟨fs, hr, hrun, hended, hW, hsame⟩ := X121.leave (v := some (.int (1 : Int32))) (fun h => by rw [Bd.returns] at h; cases h)
    refine ⟨_, _, R122 _ ?_, hrun, hended, _, _, rfl, ?_, ⟨_, rfl⟩, hW, hsame.mono (by decide) (by decide)⟩
    · show Steps p.tables e below (T121.setTop (mkF m 209 #[.val (.int y), .val (.ref b1), .val (.ref b28), .val (.int (9 : Int32)), .val (.ref w9), .val (.int (0 : Int32))] [(.int (1 : Int32))])) _
      exact retN X121 hx (t := .boolean) Bd.returns (by simp) (hb hby at_209) hr
    · show Q_rm0 Z w0 w1 w2 w3 w4 w5 w6 w7 w8 w9 w10 w11 w12 v0 v1 v2 y h0 n0 _ T121.heap _
      rw [e121]
      exact ⟨rfl, N120⟩
  · have R123 := R42
    rw [hi] at R123
    have f124 : Arv Z h41 b1 k1 (.object "com/example/transcript_search/transcriptsearch/fusion/FusionMethod") (13 : Int32) [(.ref w0), (.ref w1), (.ref w2), (.ref w3), (.ref w4), (.ref w5), (.ref w6), (.ref w7), (.ref w8), (.ref w9), (.ref w10), (.ref w11), (.ref w12)] .null := ((((((((((((((V27.ext E28).other W29 ne_b1_b28).other W30 ne_b1_b28).other W31 ne_b1_b28).other W32 ne_b1_b28).other W33 ne_b1_b28).other W34 ne_b1_b28).other W35 ne_b1_b28).other W36 ne_b1_b28).other W37 ne_b1_b28).other W38 ne_b1_b28).other W39 ne_b1_b28).other W40 ne_b1_b28).other W41 ne_b1_b28)
    obtain ⟨cl125, Ar125, q125, S125, M125, H125, G125⟩ := id f124
    have in125 : ¬ ((10 : Int32) < 0 ∨ cl125.slots.size ≤ ((10 : Int32)).toNatClampNeg) := inb_of S125 ⟨by decide, by decide⟩
    have at125 : cl125.slots[((10 : Int32)).toNatClampNeg]? = some (.ref w10) := H125.at in125 rfl
    obtain ⟨cq126, kq126, q126a, q126b, q126c⟩ := isOf hZ e41 (E_w10.ext O41.2)
    obtain ⟨_, _, ⟨T126, L126, k126, n126⟩, -, X126, ⟨Lc126, hQ126, l126, y126, z126⟩, st126⟩ := X41.virtualBack hx (y := (⟨"com/example/transcript_search/transcriptsearch/fusion/FusionMethod", "countsUnscalableRunsAsZero", "()Z"⟩ : MethodName)) (z := (⟨"com/example/transcript_search/transcriptsearch/fusion/FusionMethod", "countsUnscalableRunsAsZero", "()Z"⟩ : MethodName)) hown (mvT hZ (hw _ (List.mem_of_getElem? (i := 32) rfl))) (mvT hZ (hw _ (List.mem_of_getElem? (i := 33) rfl))) (notFace_of_selects (args := #[]) (mvT hZ (hw _ (List.mem_of_getElem? (i := 35) rfl)))) (mvT hZ (hw _ (List.mem_of_getElem? (i := 35) rfl))) (mvT hZ (hw _ (List.mem_of_getElem? (i := 34) rfl))) (by decide) (backOf (W := 0) (cz10 l Z a0 hw [] w0 w1 w2 w3 w4 w5 w6 w7 w8 w9 w10 w11 w12 v0 v1 v2  h41 n0 O41 S_w0 S_w1 S_w2 S_w3 S_w4 S_w5 S_w6 S_w7 S_w8 S_w9 S_w10 S_w11 S_w12 S_v1 E_w0 E_w1 E_w2 E_w3 E_w4 E_w5 E_w6 E_w7 E_w8 E_w9 E_w10 E_w11 E_w12 M_w0 M_w1 M_w2 M_w3 M_w4 M_w5 M_w6 M_w7 M_w8 M_w9 M_w10 M_w11 M_w12 ne_w0_w10 ne_w1_w10 ne_w2_w10 ne_w3_w10 ne_w4_w10 ne_w5_w10 ne_w6_w10 ne_w7_w10 ne_w8_w10 ne_w9_w10 ne_w11_w10 ne_w12_w10 ne_w0_w11 ne_w1_w11 ne_w2_w11 ne_w3_w11 ne_w4_w11 ne_w5_w11 ne_w6_w11 ne_w7_w11 ne_w8_w11 ne_w9_w11 ne_w12_w11 ne_v0_v1 ne_v2_v1   ) hZ (hw _ (List.mem_of_getElem? (i := 36) rfl)) (hw _ (List.mem_of_getElem? (i := 3) rfl)) (by decide) (by decide)) q126a q126c (g := (mkF m 170 #[.val (.int y), .val (.ref b1), .val (.ref b28), .val (.int (10 : Int32)), .val (.ref w10), .unset] [(.ref w10)])) rfl (by rw [hml]; rfl) (Steps.refl _) (argsL := []) (rest := []) (lenOf pd_0 rfl) rfl (by show 2 * 0 + _ ≤ _; exact Nat.le_of_eq rfl) (hb hby at_170) (fun _ _ => ⟨rfl, e41, (by decide : 2 + 0 ≤ _), (by decide : 26 + 0 ≤ _)⟩)
    dsimp only [Pt.U, Pt.locs, Pt.cells, Pt.slots] at X126 l126 y126 z126 st126 hQ126
    rw [l126, y126, z126] at X126
    obtain ⟨rfl, N126q, e126⟩ := hQ126
    have N126 := Fr.app N41 N126q
    obtain ⟨cl127, Ar127, q127, S127, M127, H127, G127⟩ := id V41
    have in127 : ¬ ((10 : Int32) < 0 ∨ cl127.slots.size ≤ ((10 : Int32)).toNatClampNeg) := inb_of S127 ⟨by decide, by decide⟩
    have at127 : cl127.slots[((10 : Int32)).toNatClampNeg]? = some (.int (1 : Int32)) := H127.at in127 rfl
    obtain ⟨cq128, kq128, q128a, q128b, q128c⟩ := isOf hZ e126 (E_w10.ext O41.2)
    obtain ⟨_, _, ⟨T128, L128, k128, n128⟩, -, X128, ⟨Lc128, hQ128, l128, y128, z128⟩, st128⟩ := X126.virtualBack hx (y := (⟨"com/example/transcript_search/transcriptsearch/fusion/FusionMethod", "defaultNormalisation", "()Lcom/example/transcript_search/transcriptsearch/fusion/Normalisation;"⟩ : MethodName)) (z := (⟨"com/example/transcript_search/transcriptsearch/fusion/FusionMethod", "defaultNormalisation", "()Lcom/example/transcript_search/transcriptsearch/fusion/Normalisation;"⟩ : MethodName)) hown (mvT hZ (hw _ (List.mem_of_getElem? (i := 39) rfl))) (mvT hZ (hw _ (List.mem_of_getElem? (i := 40) rfl))) (notFace_of_selects (args := #[]) (mvT hZ (hw _ (List.mem_of_getElem? (i := 42) rfl)))) (mvT hZ (hw _ (List.mem_of_getElem? (i := 42) rfl))) (mvT hZ (hw _ (List.mem_of_getElem? (i := 41) rfl))) (by decide) (backOf (W := 1) (dn l Z a0 hw [] w0 w1 w2 w3 w4 w5 w6 w7 w8 w9 w10 w11 w12 v0 v1 v2 w10 v1 h41 n0 O41 S_w0 S_w1 S_w2 S_w3 S_w4 S_w5 S_w6 S_w7 S_w8 S_w9 S_w10 S_w11 S_w12 S_v1 E_w0 E_w1 E_w2 E_w3 E_w4 E_w5 E_w6 E_w7 E_w8 E_w9 E_w10 E_w11 E_w12 M_w0 M_w1 M_w2 M_w3 M_w4 M_w5 M_w6 M_w7 M_w8 M_w9 M_w10 M_w11 M_w12 ne_w0_w10 ne_w1_w10 ne_w2_w10 ne_w3_w10 ne_w4_w10 ne_w5_w10 ne_w6_w10 ne_w7_w10 ne_w8_w10 ne_w9_w10 ne_w11_w10 ne_w12_w10 ne_w0_w11 ne_w1_w11 ne_w2_w11 ne_w3_w11 ne_w4_w11 ne_w5_w11 ne_w6_w11 ne_w7_w11 ne_w8_w11 ne_w9_w11 ne_w12_w11 ne_v0_v1 ne_v2_v1   (M_w10.ext O41.2)) hZ (hw _ (List.mem_of_getElem? (i := 43) rfl)) (hw _ (List.mem_of_getElem? (i := 3) rfl)) (by decide) (by decide)) q128a q128c (g := (mkF m 187 #[.val (.int y), .val (.ref b1), .val (.ref b28), .val (.int (10 : Int32)), .val (.ref w10), .val (.int (1 : Int32))] [(.ref w10), (.int (1 : Int32))])) rfl (by rw [hml]; rfl) (Steps.refl _) (argsL := []) (rest := [(.int (1 : Int32))]) (lenOf pd_1 rfl) rfl (by show 2 * 0 + _ ≤ _; exact Nat.le_of_eq rfl) (hb hby at_187) (fun _ _ => ⟨rfl, e126, (by decide : 2 + 0 ≤ _), (by decide : 26 + 0 ≤ _)⟩)
    dsimp only [Pt.U, Pt.locs, Pt.cells, Pt.slots] at X128 l128 y128 z128 st128 hQ128
    rw [l128, y128, z128] at X128
    obtain ⟨rfl, N128q, e128⟩ := hQ128
    have N128 := Fr.app N126 N128q
    obtain ⟨T129, X129, e129, st129⟩ := getS2 X128 hx hZ hown (host := "") (Or.inl (hw _ (List.mem_of_getElem? (i := 48) rfl))) Via.refl e128 (S_v1.ext O41.2) (g := (mkF m 190 #[.val (.int y), .val (.ref b1), .val (.ref b28), .val (.int (10 : Int32)), .val (.ref w10), .val (.int (1 : Int32))] [(.ref v1), (.int (1 : Int32))])) rfl (hb hby at_190)
    have R130 : ∀ t, Steps p.tables e below (T129.setTop (mkF m 209 #[.val (.int y), .val (.ref b1), .val (.ref b28), .val (.int (10 : Int32)), .val (.ref w10), .val (.int (1 : Int32))] [(.int (1 : Int32))])) t → Steps p.tables e below (s₁.setTop (entryFrame m #[(.int y)] maxLocals)) t := by
      intro t k
      refine R123 t ?_
      show Steps p.tables e below (T41.setTop (mkF m 165 #[.val (.int y), .val (.ref b1), .val (.ref b28), .val (.int (10 : Int32)), .unset, .unset] [(.int (10 : Int32)), (.ref b1)])) t
      refine X41.aaload hx (j := (10 : Int32)) (v := (.ref w10)) (by rw [e41]; exact Ar125.1) (State.isArrayOf_alike hZ.alike Ar125.2.1) rfl Ar125.2.2 in125 at125 (g := (mkF m 165 #[.val (.int y), .val (.ref b1), .val (.ref b28), .val (.int (10 : Int32)), .unset, .unset] [(.int (10 : Int32)), (.ref b1)])) rfl rfl (hb hby at_165) _ ?_
      show Steps p.tables e below (T41.setTop (mkF m 166 #[.val (.int y), .val (.ref b1), .val (.ref b28), .val (.int (10 : Int32)), .unset, .unset] [(.ref w10)])) t
      refine XS.astore X41.here hx rfl (hb hby at_166) rfl rfl (l' := #[.val (.int y), .val (.ref b1), .val (.ref b28), .val (.int (10 : Int32)), .val (.ref w10), .unset]) rfl ?_
      show Steps p.tables e below (T41.setTop (mkF m 168 #[.val (.int y), .val (.ref b1), .val (.ref b28), .val (.int (10 : Int32)), .val (.ref w10), .unset] [])) t
      refine XS.aload X41.here hx rfl (hb hby at_168) rfl rfl ?_
      show Steps p.tables e below (T41.setTop (mkF m 170 #[.val (.int y), .val (.ref b1), .val (.ref b28), .val (.int (10 : Int32)), .val (.ref w10), .unset] [(.ref w10)])) t
      refine st126.trans ?_
      show Steps p.tables e below (T126.setTop (mkF m 173 #[.val (.int y), .val (.ref b1), .val (.ref b28), .val (.int (10 : Int32)), .val (.ref w10), .unset] [(.int (1 : Int32))])) t
      refine XS.istore X126.here hx rfl (hb hby at_173) rfl (l' := #[.val (.int y), .val (.ref b1), .val (.ref b28), .val (.int (10 : Int32)), .val (.ref w10), .val (.int (1 : Int32))]) rfl ?_
      show Steps p.tables e below (T126.setTop (mkF m 175 #[.val (.int y), .val (.ref b1), .val (.ref b28), .val (.int (10 : Int32)), .val (.ref w10), .val (.int (1 : Int32))] [])) t
      refine XS.iload X126.here hx rfl (hb hby at_175) rfl ?_
      show Steps p.tables e below (T126.setTop (mkF m 177 #[.val (.int y), .val (.ref b1), .val (.ref b28), .val (.int (10 : Int32)), .val (.ref w10), .val (.int (1 : Int32))] [(.int (1 : Int32))])) t
      refine XS.aloadN X126.here hx rfl (hb hby at_177) rfl rfl ?_
      show Steps p.tables e below (T126.setTop (mkF m 178 #[.val (.int y), .val (.ref b1), .val (.ref b28), .val (.int (10 : Int32)), .val (.ref w10), .val (.int (1 : Int32))] [(.ref b28), (.int (1 : Int32))])) t
      refine XS.iloadN X126.here hx rfl (hb hby at_178) rfl ?_
      show Steps p.tables e below (T126.setTop (mkF m 179 #[.val (.int y), .val (.ref b1), .val (.ref b28), .val (.int (10 : Int32)), .val (.ref w10), .val (.int (1 : Int32))] [(.int (10 : Int32)), (.ref b28), (.int (1 : Int32))])) t
      refine X126.baloadBooleans hx (j := (10 : Int32)) (v := (.int (1 : Int32))) (by rw [e126]; exact Ar127.1) (State.isArrayOf_alike hZ.alike Ar127.2.1) Ar127.2.2 in127 at127 (g := (mkF m 179 #[.val (.int y), .val (.ref b1), .val (.ref b28), .val (.int (10 : Int32)), .val (.ref w10), .val (.int (1 : Int32))] [(.int (10 : Int32)), (.ref b28), (.int (1 : Int32))])) rfl rfl (hb hby at_179) _ ?_
      show Steps p.tables e below (T126.setTop (mkF m 180 #[.val (.int y), .val (.ref b1), .val (.ref b28), .val (.int (10 : Int32)), .val (.ref w10), .val (.int (1 : Int32))] [(.int (1 : Int32)), (.int (1 : Int32))])) t
      refine XS.icmpNo X126.here hx rfl (hb hby at_180) rfl (teq ((by decide) : (1 : Int32) = (1 : Int32))).2 ?_
      show Steps p.tables e below (T126.setTop (mkF m 183 #[.val (.int y), .val (.ref b1), .val (.ref b28), .val (.int (10 : Int32)), .val (.ref w10), .val (.int (1 : Int32))] [])) t
      refine XS.iload X126.here hx rfl (hb hby at_183) rfl ?_
      show Steps p.tables e below (T126.setTop (mkF m 185 #[.val (.int y), .val (.ref b1), .val (.ref b28), .val (.int (10 : Int32)), .val (.ref w10), .val (.int (1 : Int32))] [(.int (1 : Int32))])) t
      refine XS.aload X126.here hx rfl (hb hby at_185) rfl rfl ?_
      show Steps p.tables e below (T126.setTop (mkF m 187 #[.val (.int y), .val (.ref b1), .val (.ref b28), .val (.int (10 : Int32)), .val (.ref w10), .val (.int (1 : Int32))] [(.ref w10), (.int (1 : Int32))])) t
      refine st128.trans ?_
      show Steps p.tables e below (T128.setTop (mkF m 190 #[.val (.int y), .val (.ref b1), .val (.ref b28), .val (.int (10 : Int32)), .val (.ref w10), .val (.int (1 : Int32))] [(.ref v1), (.int (1 : Int32))])) t
      refine st129 _ ?_
      show Steps p.tables e below (T129.setTop (mkF m 193 #[.val (.int y), .val (.ref b1), .val (.ref b28), .val (.int (10 : Int32)), .val (.ref w10), .val (.int (1 : Int32))] [(.ref v1), (.ref v1), (.int (1 : Int32))])) t
      refine Jvm.RoadKit.acmp (g := (mkF m 193 #[.val (.int y), .val (.ref b1), .val (.ref b28), .val (.int (10 : Int32)), .val (.ref w10), .val (.int (1 : Int32))] [(.ref v1), (.ref v1), (.int (1 : Int32))])) X129 hx rfl rfl rfl (pc0 := 193) (pc' := 196) (same := true) rfl (hb hby at_193) rfl (decide_eq_true (congrArg Value.ref rfl)) (by decide) (by decide) ?_
      show Steps p.tables e below (T129.setTop (mkF m 196 #[.val (.int y), .val (.ref b1), .val (.ref b28), .val (.int (10 : Int32)), .val (.ref w10), .val (.int (1 : Int32))] [(.int (1 : Int32))])) t
      refine XS.iconst X129.here hx rfl (hb hby at_196) ?_
      show Steps p.tables e below (T129.setTop (mkF m 197 #[.val (.int y), .val (.ref b1), .val (.ref b28), .val (.int (10 : Int32)), .val (.ref w10), .val (.int (1 : Int32))] [(.int (1 : Int32)), (.int (1 : Int32))])) t
      refine XS.goto X129.here hx rfl (pc0 := 197) (pc' := 201) rfl (hb hby at_197) (by decide) (by decide) ?_
      show Steps p.tables e below (T129.setTop (mkF m 201 #[.val (.int y), .val (.ref b1), .val (.ref b28), .val (.int (10 : Int32)), .val (.ref w10), .val (.int (1 : Int32))] [(.int (1 : Int32)), (.int (1 : Int32))])) t
      refine XS.icmpNo X129.here hx rfl (hb hby at_201) rfl (teq ((by decide) : (1 : Int32) = (1 : Int32))).2 ?_
      show Steps p.tables e below (T129.setTop (mkF m 204 #[.val (.int y), .val (.ref b1), .val (.ref b28), .val (.int (10 : Int32)), .val (.ref w10), .val (.int (1 : Int32))] [])) t
      refine XS.iconst X129.here hx rfl (hb hby at_204) ?_
      show Steps p.tables e below (T129.setTop (mkF m 205 #[.val (.int y), .val (.ref b1), .val (.ref b28), .val (.int (10 : Int32)), .val (.ref w10), .val (.int (1 : Int32))] [(.int (1 : Int32))])) t
      refine XS.goto X129.here hx rfl (pc0 := 205) (pc' := 209) rfl (hb hby at_205) (by decide) (by decide) ?_
      exact k
    obtain ⟨fs, hr, hrun, hended, hW, hsame⟩ := X129.leave (v := some (.int (1 : Int32))) (fun h => by rw [Bd.returns] at h; cases h)
    refine ⟨_, _, R130 _ ?_, hrun, hended, _, _, rfl, ?_, ⟨_, rfl⟩, hW, hsame.mono (by decide) (by decide)⟩
    · show Steps p.tables e below (T129.setTop (mkF m 209 #[.val (.int y), .val (.ref b1), .val (.ref b28), .val (.int (10 : Int32)), .val (.ref w10), .val (.int (1 : Int32))] [(.int (1 : Int32))])) _
      exact retN X129 hx (t := .boolean) Bd.returns (by simp) (hb hby at_209) hr
    · show Q_rm0 Z w0 w1 w2 w3 w4 w5 w6 w7 w8 w9 w10 w11 w12 v0 v1 v2 y h0 n0 _ T129.heap _
      rw [e129]
      exact ⟨rfl, N128⟩
  · have R131 := R42
    rw [hi] at R131
    have f132 : Arv Z h41 b1 k1 (.object "com/example/transcript_search/transcriptsearch/fusion/FusionMethod") (13 : Int32) [(.ref w0), (.ref w1), (.ref w2), (.ref w3), (.ref w4), (.ref w5), (.ref w6), (.ref w7), (.ref w8), (.ref w9), (.ref w10), (.ref w11), (.ref w12)] .null := ((((((((((((((V27.ext E28).other W29 ne_b1_b28).other W30 ne_b1_b28).other W31 ne_b1_b28).other W32 ne_b1_b28).other W33 ne_b1_b28).other W34 ne_b1_b28).other W35 ne_b1_b28).other W36 ne_b1_b28).other W37 ne_b1_b28).other W38 ne_b1_b28).other W39 ne_b1_b28).other W40 ne_b1_b28).other W41 ne_b1_b28)
    obtain ⟨cl133, Ar133, q133, S133, M133, H133, G133⟩ := id f132
    have in133 : ¬ ((11 : Int32) < 0 ∨ cl133.slots.size ≤ ((11 : Int32)).toNatClampNeg) := inb_of S133 ⟨by decide, by decide⟩
    have at133 : cl133.slots[((11 : Int32)).toNatClampNeg]? = some (.ref w11) := H133.at in133 rfl
    obtain ⟨cq134, kq134, q134a, q134b, q134c⟩ := isOf hZ e41 (E_w11.ext O41.2)
    obtain ⟨_, _, ⟨T134, L134, k134, n134⟩, -, X134, ⟨Lc134, hQ134, l134, y134, z134⟩, st134⟩ := X41.virtualBack hx (y := (⟨"com/example/transcript_search/transcriptsearch/fusion/FusionMethod", "countsUnscalableRunsAsZero", "()Z"⟩ : MethodName)) (z := (⟨"com/example/transcript_search/transcriptsearch/fusion/FusionMethod", "countsUnscalableRunsAsZero", "()Z"⟩ : MethodName)) hown (mvT hZ (hw _ (List.mem_of_getElem? (i := 32) rfl))) (mvT hZ (hw _ (List.mem_of_getElem? (i := 33) rfl))) (notFace_of_selects (args := #[]) (mvT hZ (hw _ (List.mem_of_getElem? (i := 35) rfl)))) (mvT hZ (hw _ (List.mem_of_getElem? (i := 35) rfl))) (mvT hZ (hw _ (List.mem_of_getElem? (i := 34) rfl))) (by decide) (backOf (W := 0) (cz11 l Z a0 hw [] w0 w1 w2 w3 w4 w5 w6 w7 w8 w9 w10 w11 w12 v0 v1 v2  h41 n0 O41 S_w0 S_w1 S_w2 S_w3 S_w4 S_w5 S_w6 S_w7 S_w8 S_w9 S_w10 S_w11 S_w12 S_v1 E_w0 E_w1 E_w2 E_w3 E_w4 E_w5 E_w6 E_w7 E_w8 E_w9 E_w10 E_w11 E_w12 M_w0 M_w1 M_w2 M_w3 M_w4 M_w5 M_w6 M_w7 M_w8 M_w9 M_w10 M_w11 M_w12 ne_w0_w10 ne_w1_w10 ne_w2_w10 ne_w3_w10 ne_w4_w10 ne_w5_w10 ne_w6_w10 ne_w7_w10 ne_w8_w10 ne_w9_w10 ne_w11_w10 ne_w12_w10 ne_w0_w11 ne_w1_w11 ne_w2_w11 ne_w3_w11 ne_w4_w11 ne_w5_w11 ne_w6_w11 ne_w7_w11 ne_w8_w11 ne_w9_w11 ne_w12_w11 ne_v0_v1 ne_v2_v1   ) hZ (hw _ (List.mem_of_getElem? (i := 36) rfl)) (hw _ (List.mem_of_getElem? (i := 3) rfl)) (by decide) (by decide)) q134a q134c (g := (mkF m 170 #[.val (.int y), .val (.ref b1), .val (.ref b28), .val (.int (11 : Int32)), .val (.ref w11), .unset] [(.ref w11)])) rfl (by rw [hml]; rfl) (Steps.refl _) (argsL := []) (rest := []) (lenOf pd_0 rfl) rfl (by show 2 * 0 + _ ≤ _; exact Nat.le_of_eq rfl) (hb hby at_170) (fun _ _ => ⟨rfl, e41, (by decide : 2 + 0 ≤ _), (by decide : 26 + 0 ≤ _)⟩)
    dsimp only [Pt.U, Pt.locs, Pt.cells, Pt.slots] at X134 l134 y134 z134 st134 hQ134
    rw [l134, y134, z134] at X134
    obtain ⟨rfl, N134q, e134⟩ := hQ134
    have N134 := Fr.app N41 N134q
    obtain ⟨cl135, Ar135, q135, S135, M135, H135, G135⟩ := id V41
    have in135 : ¬ ((11 : Int32) < 0 ∨ cl135.slots.size ≤ ((11 : Int32)).toNatClampNeg) := inb_of S135 ⟨by decide, by decide⟩
    have at135 : cl135.slots[((11 : Int32)).toNatClampNeg]? = some (.int (1 : Int32)) := H135.at in135 rfl
    obtain ⟨cq136, kq136, q136a, q136b, q136c⟩ := isOf hZ e134 (E_w11.ext O41.2)
    obtain ⟨_, _, ⟨T136, L136, k136, n136⟩, -, X136, ⟨Lc136, hQ136, l136, y136, z136⟩, st136⟩ := X134.virtualBack hx (y := (⟨"com/example/transcript_search/transcriptsearch/fusion/FusionMethod", "defaultNormalisation", "()Lcom/example/transcript_search/transcriptsearch/fusion/Normalisation;"⟩ : MethodName)) (z := (⟨"com/example/transcript_search/transcriptsearch/fusion/FusionMethod", "defaultNormalisation", "()Lcom/example/transcript_search/transcriptsearch/fusion/Normalisation;"⟩ : MethodName)) hown (mvT hZ (hw _ (List.mem_of_getElem? (i := 39) rfl))) (mvT hZ (hw _ (List.mem_of_getElem? (i := 40) rfl))) (notFace_of_selects (args := #[]) (mvT hZ (hw _ (List.mem_of_getElem? (i := 42) rfl)))) (mvT hZ (hw _ (List.mem_of_getElem? (i := 42) rfl))) (mvT hZ (hw _ (List.mem_of_getElem? (i := 41) rfl))) (by decide) (backOf (W := 1) (dn l Z a0 hw [] w0 w1 w2 w3 w4 w5 w6 w7 w8 w9 w10 w11 w12 v0 v1 v2 w11 v1 h41 n0 O41 S_w0 S_w1 S_w2 S_w3 S_w4 S_w5 S_w6 S_w7 S_w8 S_w9 S_w10 S_w11 S_w12 S_v1 E_w0 E_w1 E_w2 E_w3 E_w4 E_w5 E_w6 E_w7 E_w8 E_w9 E_w10 E_w11 E_w12 M_w0 M_w1 M_w2 M_w3 M_w4 M_w5 M_w6 M_w7 M_w8 M_w9 M_w10 M_w11 M_w12 ne_w0_w10 ne_w1_w10 ne_w2_w10 ne_w3_w10 ne_w4_w10 ne_w5_w10 ne_w6_w10 ne_w7_w10 ne_w8_w10 ne_w9_w10 ne_w11_w10 ne_w12_w10 ne_w0_w11 ne_w1_w11 ne_w2_w11 ne_w3_w11 ne_w4_w11 ne_w5_w11 ne_w6_w11 ne_w7_w11 ne_w8_w11 ne_w9_w11 ne_w12_w11 ne_v0_v1 ne_v2_v1   (M_w11.ext O41.2)) hZ (hw _ (List.mem_of_getElem? (i := 43) rfl)) (hw _ (List.mem_of_getElem? (i := 3) rfl)) (by decide) (by decide)) q136a q136c (g := (mkF m 187 #[.val (.int y), .val (.ref b1), .val (.ref b28), .val (.int (11 : Int32)), .val (.ref w11), .val (.int (1 : Int32))] [(.ref w11), (.int (1 : Int32))])) rfl (by rw [hml]; rfl) (Steps.refl _) (argsL := []) (rest := [(.int (1 : Int32))]) (lenOf pd_1 rfl) rfl (by show 2 * 0 + _ ≤ _; exact Nat.le_of_eq rfl) (hb hby at_187) (fun _ _ => ⟨rfl, e134, (by decide : 2 + 0 ≤ _), (by decide : 26 + 0 ≤ _)⟩)
    dsimp only [Pt.U, Pt.locs, Pt.cells, Pt.slots] at X136 l136 y136 z136 st136 hQ136
    rw [l136, y136, z136] at X136
    obtain ⟨rfl, N136q, e136⟩ := hQ136
    have N136 := Fr.app N134 N136q
    obtain ⟨T137, X137, e137, st137⟩ := getS2 X136 hx hZ hown (host := "") (Or.inl (hw _ (List.mem_of_getElem? (i := 48) rfl))) Via.refl e136 (S_v1.ext O41.2) (g := (mkF m 190 #[.val (.int y), .val (.ref b1), .val (.ref b28), .val (.int (11 : Int32)), .val (.ref w11), .val (.int (1 : Int32))] [(.ref v1), (.int (1 : Int32))])) rfl (hb hby at_190)
    have R138 : ∀ t, Steps p.tables e below (T137.setTop (mkF m 209 #[.val (.int y), .val (.ref b1), .val (.ref b28), .val (.int (11 : Int32)), .val (.ref w11), .val (.int (1 : Int32))] [(.int (1 : Int32))])) t → Steps p.tables e below (s₁.setTop (entryFrame m #[(.int y)] maxLocals)) t := by
      intro t k
      refine R131 t ?_
      show Steps p.tables e below (T41.setTop (mkF m 165 #[.val (.int y), .val (.ref b1), .val (.ref b28), .val (.int (11 : Int32)), .unset, .unset] [(.int (11 : Int32)), (.ref b1)])) t
      refine X41.aaload hx (j := (11 : Int32)) (v := (.ref w11)) (by rw [e41]; exact Ar133.1) (State.isArrayOf_alike hZ.alike Ar133.2.1) rfl Ar133.2.2 in133 at133 (g := (mkF m 165 #[.val (.int y), .val (.ref b1), .val (.ref b28), .val (.int (11 : Int32)), .unset, .unset] [(.int (11 : Int32)), (.ref b1)])) rfl rfl (hb hby at_165) _ ?_
      show Steps p.tables e below (T41.setTop (mkF m 166 #[.val (.int y), .val (.ref b1), .val (.ref b28), .val (.int (11 : Int32)), .unset, .unset] [(.ref w11)])) t
      refine XS.astore X41.here hx rfl (hb hby at_166) rfl rfl (l' := #[.val (.int y), .val (.ref b1), .val (.ref b28), .val (.int (11 : Int32)), .val (.ref w11), .unset]) rfl ?_
      show Steps p.tables e below (T41.setTop (mkF m 168 #[.val (.int y), .val (.ref b1), .val (.ref b28), .val (.int (11 : Int32)), .val (.ref w11), .unset] [])) t
      refine XS.aload X41.here hx rfl (hb hby at_168) rfl rfl ?_
      show Steps p.tables e below (T41.setTop (mkF m 170 #[.val (.int y), .val (.ref b1), .val (.ref b28), .val (.int (11 : Int32)), .val (.ref w11), .unset] [(.ref w11)])) t
      refine st134.trans ?_
      show Steps p.tables e below (T134.setTop (mkF m 173 #[.val (.int y), .val (.ref b1), .val (.ref b28), .val (.int (11 : Int32)), .val (.ref w11), .unset] [(.int (1 : Int32))])) t
      refine XS.istore X134.here hx rfl (hb hby at_173) rfl (l' := #[.val (.int y), .val (.ref b1), .val (.ref b28), .val (.int (11 : Int32)), .val (.ref w11), .val (.int (1 : Int32))]) rfl ?_
      show Steps p.tables e below (T134.setTop (mkF m 175 #[.val (.int y), .val (.ref b1), .val (.ref b28), .val (.int (11 : Int32)), .val (.ref w11), .val (.int (1 : Int32))] [])) t
      refine XS.iload X134.here hx rfl (hb hby at_175) rfl ?_
      show Steps p.tables e below (T134.setTop (mkF m 177 #[.val (.int y), .val (.ref b1), .val (.ref b28), .val (.int (11 : Int32)), .val (.ref w11), .val (.int (1 : Int32))] [(.int (1 : Int32))])) t
      refine XS.aloadN X134.here hx rfl (hb hby at_177) rfl rfl ?_
      show Steps p.tables e below (T134.setTop (mkF m 178 #[.val (.int y), .val (.ref b1), .val (.ref b28), .val (.int (11 : Int32)), .val (.ref w11), .val (.int (1 : Int32))] [(.ref b28), (.int (1 : Int32))])) t
      refine XS.iloadN X134.here hx rfl (hb hby at_178) rfl ?_
      show Steps p.tables e below (T134.setTop (mkF m 179 #[.val (.int y), .val (.ref b1), .val (.ref b28), .val (.int (11 : Int32)), .val (.ref w11), .val (.int (1 : Int32))] [(.int (11 : Int32)), (.ref b28), (.int (1 : Int32))])) t
      refine X134.baloadBooleans hx (j := (11 : Int32)) (v := (.int (1 : Int32))) (by rw [e134]; exact Ar135.1) (State.isArrayOf_alike hZ.alike Ar135.2.1) Ar135.2.2 in135 at135 (g := (mkF m 179 #[.val (.int y), .val (.ref b1), .val (.ref b28), .val (.int (11 : Int32)), .val (.ref w11), .val (.int (1 : Int32))] [(.int (11 : Int32)), (.ref b28), (.int (1 : Int32))])) rfl rfl (hb hby at_179) _ ?_
      show Steps p.tables e below (T134.setTop (mkF m 180 #[.val (.int y), .val (.ref b1), .val (.ref b28), .val (.int (11 : Int32)), .val (.ref w11), .val (.int (1 : Int32))] [(.int (1 : Int32)), (.int (1 : Int32))])) t
      refine XS.icmpNo X134.here hx rfl (hb hby at_180) rfl (teq ((by decide) : (1 : Int32) = (1 : Int32))).2 ?_
      show Steps p.tables e below (T134.setTop (mkF m 183 #[.val (.int y), .val (.ref b1), .val (.ref b28), .val (.int (11 : Int32)), .val (.ref w11), .val (.int (1 : Int32))] [])) t
      refine XS.iload X134.here hx rfl (hb hby at_183) rfl ?_
      show Steps p.tables e below (T134.setTop (mkF m 185 #[.val (.int y), .val (.ref b1), .val (.ref b28), .val (.int (11 : Int32)), .val (.ref w11), .val (.int (1 : Int32))] [(.int (1 : Int32))])) t
      refine XS.aload X134.here hx rfl (hb hby at_185) rfl rfl ?_
      show Steps p.tables e below (T134.setTop (mkF m 187 #[.val (.int y), .val (.ref b1), .val (.ref b28), .val (.int (11 : Int32)), .val (.ref w11), .val (.int (1 : Int32))] [(.ref w11), (.int (1 : Int32))])) t
      refine st136.trans ?_
      show Steps p.tables e below (T136.setTop (mkF m 190 #[.val (.int y), .val (.ref b1), .val (.ref b28), .val (.int (11 : Int32)), .val (.ref w11), .val (.int (1 : Int32))] [(.ref v1), (.int (1 : Int32))])) t
      refine st137 _ ?_
      show Steps p.tables e below (T137.setTop (mkF m 193 #[.val (.int y), .val (.ref b1), .val (.ref b28), .val (.int (11 : Int32)), .val (.ref w11), .val (.int (1 : Int32))] [(.ref v1), (.ref v1), (.int (1 : Int32))])) t
      refine Jvm.RoadKit.acmp (g := (mkF m 193 #[.val (.int y), .val (.ref b1), .val (.ref b28), .val (.int (11 : Int32)), .val (.ref w11), .val (.int (1 : Int32))] [(.ref v1), (.ref v1), (.int (1 : Int32))])) X137 hx rfl rfl rfl (pc0 := 193) (pc' := 196) (same := true) rfl (hb hby at_193) rfl (decide_eq_true (congrArg Value.ref rfl)) (by decide) (by decide) ?_
      show Steps p.tables e below (T137.setTop (mkF m 196 #[.val (.int y), .val (.ref b1), .val (.ref b28), .val (.int (11 : Int32)), .val (.ref w11), .val (.int (1 : Int32))] [(.int (1 : Int32))])) t
      refine XS.iconst X137.here hx rfl (hb hby at_196) ?_
      show Steps p.tables e below (T137.setTop (mkF m 197 #[.val (.int y), .val (.ref b1), .val (.ref b28), .val (.int (11 : Int32)), .val (.ref w11), .val (.int (1 : Int32))] [(.int (1 : Int32)), (.int (1 : Int32))])) t
      refine XS.goto X137.here hx rfl (pc0 := 197) (pc' := 201) rfl (hb hby at_197) (by decide) (by decide) ?_
      show Steps p.tables e below (T137.setTop (mkF m 201 #[.val (.int y), .val (.ref b1), .val (.ref b28), .val (.int (11 : Int32)), .val (.ref w11), .val (.int (1 : Int32))] [(.int (1 : Int32)), (.int (1 : Int32))])) t
      refine XS.icmpNo X137.here hx rfl (hb hby at_201) rfl (teq ((by decide) : (1 : Int32) = (1 : Int32))).2 ?_
      show Steps p.tables e below (T137.setTop (mkF m 204 #[.val (.int y), .val (.ref b1), .val (.ref b28), .val (.int (11 : Int32)), .val (.ref w11), .val (.int (1 : Int32))] [])) t
      refine XS.iconst X137.here hx rfl (hb hby at_204) ?_
      show Steps p.tables e below (T137.setTop (mkF m 205 #[.val (.int y), .val (.ref b1), .val (.ref b28), .val (.int (11 : Int32)), .val (.ref w11), .val (.int (1 : Int32))] [(.int (1 : Int32))])) t
      refine XS.goto X137.here hx rfl (pc0 := 205) (pc' := 209) rfl (hb hby at_205) (by decide) (by decide) ?_
      exact k
    obtain ⟨fs, hr, hrun, hended, hW, hsame⟩ := X137.leave (v := some (.int (1 : Int32))) (fun h => by rw [Bd.returns] at h; cases h)
    refine ⟨_, _, R138 _ ?_, hrun, hended, _, _, rfl, ?_, ⟨_, rfl⟩, hW, hsame.mono (by decide) (by decide)⟩
    · show Steps p.tables e below (T137.setTop (mkF m 209 #[.val (.int y), .val (.ref b1), .val (.ref b28), .val (.int (11 : Int32)), .val (.ref w11), .val (.int (1 : Int32))] [(.int (1 : Int32))])) _
      exact retN X137 hx (t := .boolean) Bd.returns (by simp) (hb hby at_209) hr
    · show Q_rm0 Z w0 w1 w2 w3 w4 w5 w6 w7 w8 w9 w10 w11 w12 v0 v1 v2 y h0 n0 _ T137.heap _
      rw [e137]
      exact ⟨rfl, N136⟩
  · have R139 := R42
    rw [hi] at R139
    have f140 : Arv Z h41 b1 k1 (.object "com/example/transcript_search/transcriptsearch/fusion/FusionMethod") (13 : Int32) [(.ref w0), (.ref w1), (.ref w2), (.ref w3), (.ref w4), (.ref w5), (.ref w6), (.ref w7), (.ref w8), (.ref w9), (.ref w10), (.ref w11), (.ref w12)] .null := ((((((((((((((V27.ext E28).other W29 ne_b1_b28).other W30 ne_b1_b28).other W31 ne_b1_b28).other W32 ne_b1_b28).other W33 ne_b1_b28).other W34 ne_b1_b28).other W35 ne_b1_b28).other W36 ne_b1_b28).other W37 ne_b1_b28).other W38 ne_b1_b28).other W39 ne_b1_b28).other W40 ne_b1_b28).other W41 ne_b1_b28)
    obtain ⟨cl141, Ar141, q141, S141, M141, H141, G141⟩ := id f140
    have in141 : ¬ ((12 : Int32) < 0 ∨ cl141.slots.size ≤ ((12 : Int32)).toNatClampNeg) := inb_of S141 ⟨by decide, by decide⟩
    have at141 : cl141.slots[((12 : Int32)).toNatClampNeg]? = some (.ref w12) := H141.at in141 rfl
    obtain ⟨cq142, kq142, q142a, q142b, q142c⟩ := isOf hZ e41 (E_w12.ext O41.2)
    obtain ⟨_, _, ⟨T142, L142, k142, n142⟩, -, X142, ⟨Lc142, hQ142, l142, y142, z142⟩, st142⟩ := X41.virtualBack hx (y := (⟨"com/example/transcript_search/transcriptsearch/fusion/FusionMethod", "countsUnscalableRunsAsZero", "()Z"⟩ : MethodName)) (z := (⟨"com/example/transcript_search/transcriptsearch/fusion/FusionMethod", "countsUnscalableRunsAsZero", "()Z"⟩ : MethodName)) hown (mvT hZ (hw _ (List.mem_of_getElem? (i := 32) rfl))) (mvT hZ (hw _ (List.mem_of_getElem? (i := 33) rfl))) (notFace_of_selects (args := #[]) (mvT hZ (hw _ (List.mem_of_getElem? (i := 35) rfl)))) (mvT hZ (hw _ (List.mem_of_getElem? (i := 35) rfl))) (mvT hZ (hw _ (List.mem_of_getElem? (i := 34) rfl))) (by decide) (backOf (W := 0) (czo l Z a0 hw [] w0 w1 w2 w3 w4 w5 w6 w7 w8 w9 w10 w11 w12 v0 v1 v2 w12 h41 n0 O41 S_w0 S_w1 S_w2 S_w3 S_w4 S_w5 S_w6 S_w7 S_w8 S_w9 S_w10 S_w11 S_w12 S_v1 E_w0 E_w1 E_w2 E_w3 E_w4 E_w5 E_w6 E_w7 E_w8 E_w9 E_w10 E_w11 E_w12 M_w0 M_w1 M_w2 M_w3 M_w4 M_w5 M_w6 M_w7 M_w8 M_w9 M_w10 M_w11 M_w12 ne_w0_w10 ne_w1_w10 ne_w2_w10 ne_w3_w10 ne_w4_w10 ne_w5_w10 ne_w6_w10 ne_w7_w10 ne_w8_w10 ne_w9_w10 ne_w11_w10 ne_w12_w10 ne_w0_w11 ne_w1_w11 ne_w2_w11 ne_w3_w11 ne_w4_w11 ne_w5_w11 ne_w6_w11 ne_w7_w11 ne_w8_w11 ne_w9_w11 ne_w12_w11 ne_v0_v1 ne_v2_v1  ne_w12_w10 ne_w12_w11 ) hZ (hw _ (List.mem_of_getElem? (i := 36) rfl)) (hw _ (List.mem_of_getElem? (i := 3) rfl)) (by decide) (by decide)) q142a q142c (g := (mkF m 170 #[.val (.int y), .val (.ref b1), .val (.ref b28), .val (.int (12 : Int32)), .val (.ref w12), .unset] [(.ref w12)])) rfl (by rw [hml]; rfl) (Steps.refl _) (argsL := []) (rest := []) (lenOf pd_0 rfl) rfl (by show 2 * 0 + _ ≤ _; exact Nat.le_of_eq rfl) (hb hby at_170) (fun _ _ => ⟨rfl, e41, (by decide : 2 + 0 ≤ _), (by decide : 26 + 0 ≤ _)⟩)
    dsimp only [Pt.U, Pt.locs, Pt.cells, Pt.slots] at X142 l142 y142 z142 st142 hQ142
    rw [l142, y142, z142] at X142
    obtain ⟨rfl, N142q, e142⟩ := hQ142
    have N142 := Fr.app N41 N142q
    obtain ⟨cl143, Ar143, q143, S143, M143, H143, G143⟩ := id V41
    have in143 : ¬ ((12 : Int32) < 0 ∨ cl143.slots.size ≤ ((12 : Int32)).toNatClampNeg) := inb_of S143 ⟨by decide, by decide⟩
    have at143 : cl143.slots[((12 : Int32)).toNatClampNeg]? = some (.int (0 : Int32)) := H143.at in143 rfl
    obtain ⟨cq144, kq144, q144a, q144b, q144c⟩ := isOf hZ e142 (E_w12.ext O41.2)
    obtain ⟨_, _, ⟨T144, L144, k144, n144⟩, -, X144, ⟨Lc144, hQ144, l144, y144, z144⟩, st144⟩ := X142.virtualBack hx (y := (⟨"com/example/transcript_search/transcriptsearch/fusion/FusionMethod", "defaultNormalisation", "()Lcom/example/transcript_search/transcriptsearch/fusion/Normalisation;"⟩ : MethodName)) (z := (⟨"com/example/transcript_search/transcriptsearch/fusion/FusionMethod", "defaultNormalisation", "()Lcom/example/transcript_search/transcriptsearch/fusion/Normalisation;"⟩ : MethodName)) hown (mvT hZ (hw _ (List.mem_of_getElem? (i := 39) rfl))) (mvT hZ (hw _ (List.mem_of_getElem? (i := 40) rfl))) (notFace_of_selects (args := #[]) (mvT hZ (hw _ (List.mem_of_getElem? (i := 42) rfl)))) (mvT hZ (hw _ (List.mem_of_getElem? (i := 42) rfl))) (mvT hZ (hw _ (List.mem_of_getElem? (i := 41) rfl))) (by decide) (backOf (W := 1) (dn l Z a0 hw [] w0 w1 w2 w3 w4 w5 w6 w7 w8 w9 w10 w11 w12 v0 v1 v2 w12 v2 h41 n0 O41 S_w0 S_w1 S_w2 S_w3 S_w4 S_w5 S_w6 S_w7 S_w8 S_w9 S_w10 S_w11 S_w12 S_v1 E_w0 E_w1 E_w2 E_w3 E_w4 E_w5 E_w6 E_w7 E_w8 E_w9 E_w10 E_w11 E_w12 M_w0 M_w1 M_w2 M_w3 M_w4 M_w5 M_w6 M_w7 M_w8 M_w9 M_w10 M_w11 M_w12 ne_w0_w10 ne_w1_w10 ne_w2_w10 ne_w3_w10 ne_w4_w10 ne_w5_w10 ne_w6_w10 ne_w7_w10 ne_w8_w10 ne_w9_w10 ne_w11_w10 ne_w12_w10 ne_w0_w11 ne_w1_w11 ne_w2_w11 ne_w3_w11 ne_w4_w11 ne_w5_w11 ne_w6_w11 ne_w7_w11 ne_w8_w11 ne_w9_w11 ne_w12_w11 ne_v0_v1 ne_v2_v1   (M_w12.ext O41.2)) hZ (hw _ (List.mem_of_getElem? (i := 43) rfl)) (hw _ (List.mem_of_getElem? (i := 3) rfl)) (by decide) (by decide)) q144a q144c (g := (mkF m 187 #[.val (.int y), .val (.ref b1), .val (.ref b28), .val (.int (12 : Int32)), .val (.ref w12), .val (.int (0 : Int32))] [(.ref w12), (.int (0 : Int32))])) rfl (by rw [hml]; rfl) (Steps.refl _) (argsL := []) (rest := [(.int (0 : Int32))]) (lenOf pd_1 rfl) rfl (by show 2 * 0 + _ ≤ _; exact Nat.le_of_eq rfl) (hb hby at_187) (fun _ _ => ⟨rfl, e142, (by decide : 2 + 0 ≤ _), (by decide : 26 + 0 ≤ _)⟩)
    dsimp only [Pt.U, Pt.locs, Pt.cells, Pt.slots] at X144 l144 y144 z144 st144 hQ144
    rw [l144, y144, z144] at X144
    obtain ⟨rfl, N144q, e144⟩ := hQ144
    have N144 := Fr.app N142 N144q
    obtain ⟨T145, X145, e145, st145⟩ := getS2 X144 hx hZ hown (host := "") (Or.inl (hw _ (List.mem_of_getElem? (i := 48) rfl))) Via.refl e144 (S_v1.ext O41.2) (g := (mkF m 190 #[.val (.int y), .val (.ref b1), .val (.ref b28), .val (.int (12 : Int32)), .val (.ref w12), .val (.int (0 : Int32))] [(.ref v2), (.int (0 : Int32))])) rfl (hb hby at_190)
    have R146 : ∀ t, Steps p.tables e below (T145.setTop (mkF m 209 #[.val (.int y), .val (.ref b1), .val (.ref b28), .val (.int (12 : Int32)), .val (.ref w12), .val (.int (0 : Int32))] [(.int (1 : Int32))])) t → Steps p.tables e below (s₁.setTop (entryFrame m #[(.int y)] maxLocals)) t := by
      intro t k
      refine R139 t ?_
      show Steps p.tables e below (T41.setTop (mkF m 165 #[.val (.int y), .val (.ref b1), .val (.ref b28), .val (.int (12 : Int32)), .unset, .unset] [(.int (12 : Int32)), (.ref b1)])) t
      refine X41.aaload hx (j := (12 : Int32)) (v := (.ref w12)) (by rw [e41]; exact Ar141.1) (State.isArrayOf_alike hZ.alike Ar141.2.1) rfl Ar141.2.2 in141 at141 (g := (mkF m 165 #[.val (.int y), .val (.ref b1), .val (.ref b28), .val (.int (12 : Int32)), .unset, .unset] [(.int (12 : Int32)), (.ref b1)])) rfl rfl (hb hby at_165) _ ?_
      show Steps p.tables e below (T41.setTop (mkF m 166 #[.val (.int y), .val (.ref b1), .val (.ref b28), .val (.int (12 : Int32)), .unset, .unset] [(.ref w12)])) t
      refine XS.astore X41.here hx rfl (hb hby at_166) rfl rfl (l' := #[.val (.int y), .val (.ref b1), .val (.ref b28), .val (.int (12 : Int32)), .val (.ref w12), .unset]) rfl ?_
      show Steps p.tables e below (T41.setTop (mkF m 168 #[.val (.int y), .val (.ref b1), .val (.ref b28), .val (.int (12 : Int32)), .val (.ref w12), .unset] [])) t
      refine XS.aload X41.here hx rfl (hb hby at_168) rfl rfl ?_
      show Steps p.tables e below (T41.setTop (mkF m 170 #[.val (.int y), .val (.ref b1), .val (.ref b28), .val (.int (12 : Int32)), .val (.ref w12), .unset] [(.ref w12)])) t
      refine st142.trans ?_
      show Steps p.tables e below (T142.setTop (mkF m 173 #[.val (.int y), .val (.ref b1), .val (.ref b28), .val (.int (12 : Int32)), .val (.ref w12), .unset] [(.int (0 : Int32))])) t
      refine XS.istore X142.here hx rfl (hb hby at_173) rfl (l' := #[.val (.int y), .val (.ref b1), .val (.ref b28), .val (.int (12 : Int32)), .val (.ref w12), .val (.int (0 : Int32))]) rfl ?_
      show Steps p.tables e below (T142.setTop (mkF m 175 #[.val (.int y), .val (.ref b1), .val (.ref b28), .val (.int (12 : Int32)), .val (.ref w12), .val (.int (0 : Int32))] [])) t
      refine XS.iload X142.here hx rfl (hb hby at_175) rfl ?_
      show Steps p.tables e below (T142.setTop (mkF m 177 #[.val (.int y), .val (.ref b1), .val (.ref b28), .val (.int (12 : Int32)), .val (.ref w12), .val (.int (0 : Int32))] [(.int (0 : Int32))])) t
      refine XS.aloadN X142.here hx rfl (hb hby at_177) rfl rfl ?_
      show Steps p.tables e below (T142.setTop (mkF m 178 #[.val (.int y), .val (.ref b1), .val (.ref b28), .val (.int (12 : Int32)), .val (.ref w12), .val (.int (0 : Int32))] [(.ref b28), (.int (0 : Int32))])) t
      refine XS.iloadN X142.here hx rfl (hb hby at_178) rfl ?_
      show Steps p.tables e below (T142.setTop (mkF m 179 #[.val (.int y), .val (.ref b1), .val (.ref b28), .val (.int (12 : Int32)), .val (.ref w12), .val (.int (0 : Int32))] [(.int (12 : Int32)), (.ref b28), (.int (0 : Int32))])) t
      refine X142.baloadBooleans hx (j := (12 : Int32)) (v := (.int (0 : Int32))) (by rw [e142]; exact Ar143.1) (State.isArrayOf_alike hZ.alike Ar143.2.1) Ar143.2.2 in143 at143 (g := (mkF m 179 #[.val (.int y), .val (.ref b1), .val (.ref b28), .val (.int (12 : Int32)), .val (.ref w12), .val (.int (0 : Int32))] [(.int (12 : Int32)), (.ref b28), (.int (0 : Int32))])) rfl rfl (hb hby at_179) _ ?_
      show Steps p.tables e below (T142.setTop (mkF m 180 #[.val (.int y), .val (.ref b1), .val (.ref b28), .val (.int (12 : Int32)), .val (.ref w12), .val (.int (0 : Int32))] [(.int (0 : Int32)), (.int (0 : Int32))])) t
      refine XS.icmpNo X142.here hx rfl (hb hby at_180) rfl (teq ((by decide) : (0 : Int32) = (0 : Int32))).2 ?_
      show Steps p.tables e below (T142.setTop (mkF m 183 #[.val (.int y), .val (.ref b1), .val (.ref b28), .val (.int (12 : Int32)), .val (.ref w12), .val (.int (0 : Int32))] [])) t
      refine XS.iload X142.here hx rfl (hb hby at_183) rfl ?_
      show Steps p.tables e below (T142.setTop (mkF m 185 #[.val (.int y), .val (.ref b1), .val (.ref b28), .val (.int (12 : Int32)), .val (.ref w12), .val (.int (0 : Int32))] [(.int (0 : Int32))])) t
      refine XS.aload X142.here hx rfl (hb hby at_185) rfl rfl ?_
      show Steps p.tables e below (T142.setTop (mkF m 187 #[.val (.int y), .val (.ref b1), .val (.ref b28), .val (.int (12 : Int32)), .val (.ref w12), .val (.int (0 : Int32))] [(.ref w12), (.int (0 : Int32))])) t
      refine st144.trans ?_
      show Steps p.tables e below (T144.setTop (mkF m 190 #[.val (.int y), .val (.ref b1), .val (.ref b28), .val (.int (12 : Int32)), .val (.ref w12), .val (.int (0 : Int32))] [(.ref v2), (.int (0 : Int32))])) t
      refine st145 _ ?_
      show Steps p.tables e below (T145.setTop (mkF m 193 #[.val (.int y), .val (.ref b1), .val (.ref b28), .val (.int (12 : Int32)), .val (.ref w12), .val (.int (0 : Int32))] [(.ref v1), (.ref v2), (.int (0 : Int32))])) t
      refine Jvm.RoadKit.acmp (g := (mkF m 193 #[.val (.int y), .val (.ref b1), .val (.ref b28), .val (.int (12 : Int32)), .val (.ref w12), .val (.int (0 : Int32))] [(.ref v1), (.ref v2), (.int (0 : Int32))])) X145 hx rfl rfl rfl (pc0 := 193) (pc' := 200) (same := false) rfl (hb hby at_193) rfl (decide_eq_false (fun q => ne_v2_v1 (Value.ref.inj q))) (by decide) (by decide) ?_
      show Steps p.tables e below (T145.setTop (mkF m 200 #[.val (.int y), .val (.ref b1), .val (.ref b28), .val (.int (12 : Int32)), .val (.ref w12), .val (.int (0 : Int32))] [(.int (0 : Int32))])) t
      refine XS.iconst X145.here hx rfl (hb hby at_200) ?_
      show Steps p.tables e below (T145.setTop (mkF m 201 #[.val (.int y), .val (.ref b1), .val (.ref b28), .val (.int (12 : Int32)), .val (.ref w12), .val (.int (0 : Int32))] [(.int (0 : Int32)), (.int (0 : Int32))])) t
      refine XS.icmpNo X145.here hx rfl (hb hby at_201) rfl (teq ((by decide) : (0 : Int32) = (0 : Int32))).2 ?_
      show Steps p.tables e below (T145.setTop (mkF m 204 #[.val (.int y), .val (.ref b1), .val (.ref b28), .val (.int (12 : Int32)), .val (.ref w12), .val (.int (0 : Int32))] [])) t
      refine XS.iconst X145.here hx rfl (hb hby at_204) ?_
      show Steps p.tables e below (T145.setTop (mkF m 205 #[.val (.int y), .val (.ref b1), .val (.ref b28), .val (.int (12 : Int32)), .val (.ref w12), .val (.int (0 : Int32))] [(.int (1 : Int32))])) t
      refine XS.goto X145.here hx rfl (pc0 := 205) (pc' := 209) rfl (hb hby at_205) (by decide) (by decide) ?_
      exact k
    obtain ⟨fs, hr, hrun, hended, hW, hsame⟩ := X145.leave (v := some (.int (1 : Int32))) (fun h => by rw [Bd.returns] at h; cases h)
    refine ⟨_, _, R146 _ ?_, hrun, hended, _, _, rfl, ?_, ⟨_, rfl⟩, hW, hsame.mono (by decide) (by decide)⟩
    · show Steps p.tables e below (T145.setTop (mkF m 209 #[.val (.int y), .val (.ref b1), .val (.ref b28), .val (.int (12 : Int32)), .val (.ref w12), .val (.int (0 : Int32))] [(.int (1 : Int32))])) _
      exact retN X145 hx (t := .boolean) Bd.returns (by simp) (hb hby at_209) hr
    · show Q_rm0 Z w0 w1 w2 w3 w4 w5 w6 w7 w8 w9 w10 w11 w12 v0 v1 v2 y h0 n0 _ T145.heap _
      rw [e145]
      exact ⟨rfl, N144⟩
set_option maxRecDepth 65536 in
set_option maxHeartbeats 40000000 in
theorem comes_1 {Post : Tables → Env → Array Value → State → Outcome → State → Prop} (hpost : ∀ tb e args s v u, (limb_1_1.after args s (.returned v) u = true ∧ limb_1_2.after args s (.returned v) u = true ∧ True) → FrameEnd s (.returned v) u (Jvm.fieldLocs frame_1_writes args s ++ Jvm.arrayLocs frame_1_arrays args s ++ Jvm.staticLocs frame_1_statics s) 16 128 → Post tb e args s (.returned v) u) :
    ArmFor flags0 classFile x code maxLocals ret World_1 tables_1 room_1 Calls_1 rest_1 Pre_1 Post := by
  intro l hfl _ _ p e ha hc hk s m args below hf hA hF happ hP
  obtain ⟨hcalls, hrest, hpre⟩ := hP
  obtain ⟨-, -, -, hnamed, -, -, -, hat⟩ := (Spec.applies_iff hf).mp happ
  obtain ⟨hg, hn⟩ := and_e (Cond.before_iff.mp (show (Jvm.Cond.and given_1 narrow_1).before args s = true from hpre))
  obtain ⟨g1, g2⟩ := and_e hg
  obtain ⟨g3, g4⟩ := and_e hn
  obtain ⟨g5, g6⟩ := and_e g4
  obtain ⟨g7, g8⟩ := and_e g6
  obtain ⟨g9, g10⟩ := and_e g8
  obtain ⟨g11, g12⟩ := and_e g10
  obtain ⟨g13, g14⟩ := and_e g12
  obtain ⟨g15, g16⟩ := and_e g14
  obtain ⟨g17, g18⟩ := and_e g16
  obtain ⟨g19, g20⟩ := and_e g18
  obtain ⟨g21, g22⟩ := and_e g20
  obtain ⟨g23, g24⟩ := and_e g22
  obtain ⟨g25, g26⟩ := and_e g24
  obtain ⟨g27, g28⟩ := and_e g26
  obtain ⟨g29, g30⟩ := and_e g28
  obtain ⟨g31, g32⟩ := and_e g30
  obtain ⟨g33, g34⟩ := and_e g32
  obtain ⟨g35, g36⟩ := and_e g34
  obtain ⟨g37, g38⟩ := and_e g36
  obtain ⟨g39, g40⟩ := and_e g38
  obtain ⟨g41, g42⟩ := and_e g40
  obtain ⟨g43, g44⟩ := and_e g42
  obtain ⟨g45, g46⟩ := and_e g44
  obtain ⟨g47, g48⟩ := and_e g46
  obtain ⟨g49, g50⟩ := and_e g48
  obtain ⟨g51, g52⟩ := and_e g50
  obtain ⟨g53, g54⟩ := and_e g52
  obtain ⟨g55, g56⟩ := and_e g54
  obtain ⟨g57, g58⟩ := and_e g56
  obtain ⟨g59, g60⟩ := and_e g58
  obtain ⟨g61, g62⟩ := and_e g60
  obtain ⟨g63, g64⟩ := and_e g62
  obtain ⟨g65, g66⟩ := and_e g64
  obtain ⟨g67, g68⟩ := and_e g66
  obtain ⟨g69, g70⟩ := and_e g68
  obtain ⟨g71, g72⟩ := and_e g70
  obtain ⟨g73, g74⟩ := and_e g72
  obtain ⟨g75, g76⟩ := and_e g74
  obtain ⟨g77, g78⟩ := and_e g76
  obtain ⟨g79, g80⟩ := and_e g78
  obtain ⟨g81, g82⟩ := and_e g80
  obtain ⟨g83, g84⟩ := and_e g82
  obtain ⟨g85, g86⟩ := and_e g84
  obtain ⟨g87, g88⟩ := and_e g86
  obtain ⟨g89, g90⟩ := and_e g88
  obtain ⟨w0, rfl⟩ : ∃ w0 : Value, args = #[w0] := by
    have hs : args.size = 1 := by simpa [Cond.value, given_1] using g1
    obtain ⟨L⟩ := args
    match L, hs with
    | [w0], _ => exact ⟨w0, rfl⟩
  have hw := fun d (hd : d ∈ tables_1) => atoms_spec (ws := Jvm.Cond.code x code maxLocals ret :: tables_1) hat d (List.mem_cons_of_mem _ hd)
  have hfit : Fit s := fun {y c} hc i hi => by
    obtain ⟨ha, rfl⟩ := Array.getElem?_eq_some_iff.mp hc
    have q := List.all_eq_true.mp ((Array.all_eq_true_iff_forall_mem.mp hF) _ (Array.getElem_mem ha)) i (List.mem_range.mpr hi)
    simpa [Array.getElem?_eq_getElem hi] using q
  obtain ⟨i0, ei0⟩ := is_v g2
  obtain rfl : w0 = (.int i0) := Option.some.inj ei0
  obtain ⟨w0, ev_w0, S_w0, E_w0⟩ := own_sta g3 (hw _ (List.mem_of_getElem? (i := 3) rfl)) (hw _ (List.mem_of_getElem? (i := 4) rfl))
  obtain ⟨w1, ev_w1, S_w1, E_w1⟩ := own_sta g5 (hw _ (List.mem_of_getElem? (i := 3) rfl)) (hw _ (List.mem_of_getElem? (i := 7) rfl))
  obtain ⟨w2, ev_w2, S_w2, E_w2⟩ := own_sta g7 (hw _ (List.mem_of_getElem? (i := 3) rfl)) (hw _ (List.mem_of_getElem? (i := 9) rfl))
  obtain ⟨w3, ev_w3, S_w3, E_w3⟩ := own_sta g9 (hw _ (List.mem_of_getElem? (i := 3) rfl)) (hw _ (List.mem_of_getElem? (i := 11) rfl))
  obtain ⟨w4, ev_w4, S_w4, E_w4⟩ := own_sta g11 (hw _ (List.mem_of_getElem? (i := 3) rfl)) (hw _ (List.mem_of_getElem? (i := 13) rfl))
  obtain ⟨w5, ev_w5, S_w5, E_w5⟩ := own_sta g13 (hw _ (List.mem_of_getElem? (i := 3) rfl)) (hw _ (List.mem_of_getElem? (i := 15) rfl))
  obtain ⟨w6, ev_w6, S_w6, E_w6⟩ := own_sta g15 (hw _ (List.mem_of_getElem? (i := 3) rfl)) (hw _ (List.mem_of_getElem? (i := 17) rfl))
  obtain ⟨w7, ev_w7, S_w7, E_w7⟩ := own_sta g17 (hw _ (List.mem_of_getElem? (i := 3) rfl)) (hw _ (List.mem_of_getElem? (i := 19) rfl))
  obtain ⟨w8, ev_w8, S_w8, E_w8⟩ := own_sta g19 (hw _ (List.mem_of_getElem? (i := 3) rfl)) (hw _ (List.mem_of_getElem? (i := 21) rfl))
  obtain ⟨w9, ev_w9, S_w9, E_w9⟩ := own_sta g21 (hw _ (List.mem_of_getElem? (i := 3) rfl)) (hw _ (List.mem_of_getElem? (i := 23) rfl))
  obtain ⟨w10, ev_w10, S_w10, E_w10⟩ := own_sta g23 (hw _ (List.mem_of_getElem? (i := 3) rfl)) (hw _ (List.mem_of_getElem? (i := 25) rfl))
  obtain ⟨w11, ev_w11, S_w11, E_w11⟩ := own_sta g25 (hw _ (List.mem_of_getElem? (i := 3) rfl)) (hw _ (List.mem_of_getElem? (i := 27) rfl))
  obtain ⟨w12, ev_w12, S_w12, E_w12⟩ := own_sta g27 (hw _ (List.mem_of_getElem? (i := 3) rfl)) (hw _ (List.mem_of_getElem? (i := 29) rfl))
  obtain ⟨v0, ev_v0, S_v0, E_v0⟩ := own_sta g35 (hw _ (List.mem_of_getElem? (i := 46) rfl)) (hw _ (List.mem_of_getElem? (i := 47) rfl))
  obtain ⟨v1, ev_v1, S_v1, E_v1⟩ := own_sta g39 (hw _ (List.mem_of_getElem? (i := 46) rfl)) (hw _ (List.mem_of_getElem? (i := 49) rfl))
  obtain ⟨v2, ev_v2, S_v2, E_v2⟩ := own_sta g63 (hw _ (List.mem_of_getElem? (i := 46) rfl)) (hw _ (List.mem_of_getElem? (i := 50) rfl))
  have F_w0 := own_fld ev_w0 g29
  have F_w10 := own_fld ev_w10 g31
  have F_w11 := own_fld ev_w11 g33
  have F_v0 := own_fld ev_v0 g41
  have F_v1 := own_fld ev_v1 g43
  have F_w3 := own_fld ev_w3 g45
  have F_w6 := own_fld ev_w6 g49
  have F_w5 := own_fld ev_w5 g53
  have F_w7 := own_fld ev_w7 g57
  have F_w9 := own_fld ev_w9 g61
  have F_v2 := own_fld ev_v2 g67
  have F_w2 := own_fld ev_w2 g69
  have F_w1 := own_fld ev_w1 g75
  have F_w8 := own_fld ev_w8 g79
  have F_w12 := own_fld ev_w12 g85
  have F_w4 := own_fld ev_w4 g89
  have M_w0 := own_fldR ev_w0 ev_v0 g37
  have M_w3 := own_fldR ev_w3 ev_v0 g47
  have M_w6 := own_fldR ev_w6 ev_v0 g51
  have M_w5 := own_fldR ev_w5 ev_v0 g55
  have M_w7 := own_fldR ev_w7 ev_v0 g59
  have M_w9 := own_fldR ev_w9 ev_v2 g65
  have M_w2 := own_fldR ev_w2 ev_v0 g71
  have M_w11 := own_fldR ev_w11 ev_v1 g73
  have M_w1 := own_fldR ev_w1 ev_v0 g77
  have M_w8 := own_fldR ev_w8 ev_v2 g81
  have M_w10 := own_fldR ev_w10 ev_v1 g83
  have M_w12 := own_fldR ev_w12 ev_v2 g87
  have M_w4 := own_fldR ev_w4 ev_v0 g90
  have ne_w0_w10 : w0 ≠ w10 := F_w0.ne F_w10 (by decide)
  have ne_w0_w11 : w0 ≠ w11 := F_w0.ne F_w11 (by decide)
  have ne_w1_w10 : w1 ≠ w10 := F_w1.ne F_w10 (by decide)
  have ne_w1_w11 : w1 ≠ w11 := F_w1.ne F_w11 (by decide)
  have ne_w2_w10 : w2 ≠ w10 := F_w2.ne F_w10 (by decide)
  have ne_w2_w11 : w2 ≠ w11 := F_w2.ne F_w11 (by decide)
  have ne_w3_w10 : w3 ≠ w10 := F_w3.ne F_w10 (by decide)
  have ne_w3_w11 : w3 ≠ w11 := F_w3.ne F_w11 (by decide)
  have ne_w4_w10 : w4 ≠ w10 := F_w4.ne F_w10 (by decide)
  have ne_w4_w11 : w4 ≠ w11 := F_w4.ne F_w11 (by decide)
  have ne_w5_w10 : w5 ≠ w10 := F_w5.ne F_w10 (by decide)
  have ne_w5_w11 : w5 ≠ w11 := F_w5.ne F_w11 (by decide)
  have ne_w6_w10 : w6 ≠ w10 := F_w6.ne F_w10 (by decide)
  have ne_w6_w11 : w6 ≠ w11 := F_w6.ne F_w11 (by decide)
  have ne_w7_w10 : w7 ≠ w10 := F_w7.ne F_w10 (by decide)
  have ne_w7_w11 : w7 ≠ w11 := F_w7.ne F_w11 (by decide)
  have ne_w8_w10 : w8 ≠ w10 := F_w8.ne F_w10 (by decide)
  have ne_w8_w11 : w8 ≠ w11 := F_w8.ne F_w11 (by decide)
  have ne_w9_w10 : w9 ≠ w10 := F_w9.ne F_w10 (by decide)
  have ne_w9_w11 : w9 ≠ w11 := F_w9.ne F_w11 (by decide)
  have ne_w11_w10 : w11 ≠ w10 := F_w11.ne F_w10 (by decide)
  have ne_w12_w10 : w12 ≠ w10 := F_w12.ne F_w10 (by decide)
  have ne_w12_w11 : w12 ≠ w11 := F_w12.ne F_w11 (by decide)
  have ne_v0_v1 : v0 ≠ v1 := F_v0.ne F_v1 (by decide)
  have ne_v2_v1 : v2 ≠ v1 := F_v2.ne F_v1 (by decide)
  obtain ⟨n, o, h1, h2, h3, _, L, rfl, ⟨rfl, N⟩, hq⟩ := rm0 l s _ hw tables_1 w0 w1 w2 w3 w4 w5 w6 w7 w8 w9 w10 w11 w12 v0 v1 v2 i0 s.heap s.heap.size (Old.start s) S_w0 S_w1 S_w2 S_w3 S_w4 S_w5 S_w6 S_w7 S_w8 S_w9 S_w10 S_w11 S_w12 S_v1 E_w0 E_w1 E_w2 E_w3 E_w4 E_w5 E_w6 E_w7 E_w8 E_w9 E_w10 E_w11 E_w12 M_w0 M_w1 M_w2 M_w3 M_w4 M_w5 M_w6 M_w7 M_w8 M_w9 M_w10 M_w11 M_w12 ne_w0_w10 ne_w1_w10 ne_w2_w10 ne_w3_w10 ne_w4_w10 ne_w5_w10 ne_w6_w10 ne_w7_w10 ne_w8_w10 ne_w9_w10 ne_w11_w10 ne_w12_w10 ne_w0_w11 ne_w1_w11 ne_w2_w11 ne_w3_w11 ne_w4_w11 ne_w5_w11 ne_w6_w11 ne_w7_w11 ne_w8_w11 ne_w9_w11 ne_w12_w11 ne_v0_v1 ne_v2_v1 p e ha hc hk s m _ below hf ((Spec.applies_iff_loose hf).mp happ).1 ⟨rfl, State.Warmed39.refl s, rfl⟩ trivial
  refine ⟨n, _, h1, h2, h3, hpost _ _ _ _ _ _ ⟨Cond.after_iff.mpr rfl, Cond.after_iff.mpr (eq_i res_at (Term.int_eval (1)) rfl), trivial⟩ ⟨hq.1, hq.2.1, (hq.2.2.sift fun y hy => Or.inr (N y hy)).mono (by decide) (by decide)⟩⟩
theorem main_1_1 : Claimed_1_1 := comes_1 fun _ _ _ _ _ _ h hF => ⟨h.1, hF⟩
theorem main_1_2 : Claimed_1_2 := comes_1 fun _ _ _ _ _ _ h hF => ⟨h.2.1, hF⟩
end Jvm.Pilot.@@N@@
namespace Jvm.Pilot.@@N@@
open Jvm Jvm.ClassFile Sem Op Lib Jvm.Free Jvm.Stand Jvm.Pilot.@@N@@.Jvm.D
/-! MADE BY PROGRAM (witnessworld.py) out of the Statement's table words and the real class files: 16 classes; the members and pool entries that the words name. The judged class is class 1, her method 1. -/
namespace start1
open Jvm.ClassFile
def u (s : String) : CpInfo := .utf8 (stringToUtf16 s)
/-- a pool by its gaps: so many unusable entries, then the entry; so many at the end -/
def gap : Nat → List CpInfo → List CpInfo
  | 0, r => r
  | n + 1, r => .unusable :: gap n r
def poolList (es : List (Nat × CpInfo)) (last : Nat) : List CpInfo := es.foldr (fun e r => gap e.1 (e.2 :: r)) (gap last [])
def pool (es : List (Nat × CpInfo)) (last : Nat) : Array CpInfo := ⟨poolList es last⟩
def fileOf (pool : Array CpInfo) (this : Nat) (attrs : Array Attribute := #[]) (ms : Array MethodInfo := #[]) (fl : Nat := 33) (sup : Nat := 0) (ifs : Array Nat := #[]) (fds : Array FieldInfo := #[]) : ClassFile where
  minorVersion := 0
  majorVersion := 65
  constantPool := pool
  accessFlags := fl
  thisClass := this
  superClass := sup
  interfaces := ifs
  fields := fds
  methods := ms
  attributes := attrs
def plain (name : String) (sup : Option ClassId) : Class where
  name := name
  kind := .ordinary
  loader := none
  accessFlags := 33
  super := sup
  interfaces := #[]
  cf := none
  fields := #[]
  methods := #[]
  instanceTypes := #[]
  staticTypes := #[]
  resolved := #[]
  callSites := []
  init := .initialized
  statics := none
  mirror := none

def pool0 : Array CpInfo := pool [(5, u "<init>"), (0, u "()V"), (1, .class_ 10), (1, u "java/lang/Object")] 113

def k0m0 : Method := { name := "<init>", desc := "()V", sig := { parameters := [], returnType := none }, accessFlags := 1, code := none }
/-- java/lang/Object -/
def k0 : Class := { plain "java/lang/Object" none with
  accessFlags := 33
  interfaces := #[]
  cf := some (fileOf pool0 8 #[] #[{ accessFlags := 1, nameIndex := 5, descriptorIndex := 6, attributes := #[] }] 33 0 #[] #[])
  fields := #[]
  methods := #[k0m0]
  instanceTypes := #[]
  staticTypes := #[]
  resolved := Array.replicate 124 none
  statics := none }

def pool1 : Array CpInfo := pool [(2, .class_ 4), (1, u "java/lang/Object"), (0, u "<init>"), (0, u "()V"), (0, .class_ 8), (0, u "com/example/transcript_search/transcriptsearch/fusion/FusionMethod"), (0, .fieldref 7 10), (0, .nameAndType 11 12), (0, u "COMBSUM"), (0, u "Lcom/example/transcript_search/transcriptsearch/fusion/FusionMethod;"), (0, .fieldref 7 14), (0, .nameAndType 15 12), (0, u "COMBMNZ"), (0, .fieldref 7 17), (0, .nameAndType 18 12), (0, u "COMBANZ"), (0, .fieldref 7 20), (0, .nameAndType 21 12), (0, u "COMBMAX"), (0, .fieldref 7 23), (0, .nameAndType 24 12), (0, u "COMBMIN"), (0, .fieldref 7 26), (0, .nameAndType 27 12), (0, u "COMBMED"), (0, .fieldref 7 29), (0, .nameAndType 30 12), (0, u "COMBTOTPROB"), (0, .fieldref 7 32), (0, .nameAndType 33 12), (0, u "COMBMULTPROB"), (0, .fieldref 7 35), (0, .nameAndType 36 12), (0, u "WCOMBSUM"), (0, .fieldref 7 38), (0, .nameAndType 39 12), (0, u "WCOMBMNZ"), (0, .fieldref 7 41), (0, .nameAndType 42 12), (0, u "FUSION1"), (0, .fieldref 7 44), (0, .nameAndType 45 12), (0, u "FUSION2"), (0, .fieldref 7 47), (0, .nameAndType 48 12), (0, u "LINCOMB"), (0, .integer 2147483647), (0, .methodref 7 51), (0, .nameAndType 52 53), (0, u "countsUnscalableRunsAsZero"), (0, u "()Z"), (0, .methodref 7 55), (0, .nameAndType 56 57), (0, u "defaultNormalisation"), (0, u "()Lcom/example/transcript_search/transcriptsearch/fusion/Normalisation;"), (0, .fieldref 59 60), (0, .class_ 61), (0, .nameAndType 62 63), (0, u "com/example/transcript_search/transcriptsearch/fusion/Normalisation"), (0, u "MAX"), (0, u "Lcom/example/transcript_search/transcriptsearch/fusion/Normalisation;"), (0, .class_ 65), (0, u "com/example/transcript_search/transcriptsearch/fusion/FusionMethodCountsUnscalableRunsAsZeroPinLaw"), (2, u "law"), (0, u "(I)Z")] 7

def k1m0 : Method := { name := "<init>", desc := "()V", sig := { parameters := [], returnType := none }, accessFlags := 1, code := none }
def k1c1 : Code := { maxStack := 4, maxLocals := 6, code := code, exceptionTable := #[], attributes := #[] }
def k1m1 : Method := { name := "law", desc := "(I)Z", sig := { parameters := [.int], returnType := some .boolean }, accessFlags := 9, code := some k1c1 }
/-- com/example/transcript_search/transcriptsearch/fusion/FusionMethodCountsUnscalableRunsAsZeroPinLaw -/
def k1 : Class := { plain "com/example/transcript_search/transcriptsearch/fusion/FusionMethodCountsUnscalableRunsAsZeroPinLaw" (some 0) with
  accessFlags := 49
  interfaces := #[]
  cf := some (fileOf pool1 64 #[] #[{ accessFlags := 1, nameIndex := 5, descriptorIndex := 6, attributes := #[] }, { accessFlags := 9, nameIndex := 68, descriptorIndex := 69, attributes := #[] }] 49 2 #[] #[])
  fields := #[]
  methods := #[k1m0, k1m1]
  instanceTypes := #[]
  staticTypes := #[]
  resolved := Array.replicate 77 none
  statics := none }

def pool2 : Array CpInfo := pool [(1, .class_ 2), (0, u "java/lang/constant/Constable"), (0, .class_ 4), (0, u "java/lang/Object")] 6

/-- java/lang/constant/Constable -/
def k2 : Class := { plain "java/lang/constant/Constable" (some 0) with
  accessFlags := 1537
  interfaces := #[]
  cf := some (fileOf pool2 1 #[] #[] 1537 3 #[] #[])
  fields := #[]
  methods := #[]
  instanceTypes := #[]
  staticTypes := #[]
  resolved := Array.replicate 11 none
  statics := none }

def pool3 : Array CpInfo := pool [(1, .class_ 2), (0, u "java/lang/Comparable"), (0, .class_ 4), (0, u "java/lang/Object")] 7

/-- java/lang/Comparable -/
def k3 : Class := { plain "java/lang/Comparable" (some 0) with
  accessFlags := 1537
  interfaces := #[]
  cf := some (fileOf pool3 1 #[] #[] 1537 3 #[] #[])
  fields := #[]
  methods := #[]
  instanceTypes := #[]
  staticTypes := #[]
  resolved := Array.replicate 12 none
  statics := none }

def pool4 : Array CpInfo := pool [(1, .class_ 2), (0, u "java/io/Serializable"), (0, .class_ 4), (0, u "java/lang/Object")] 2

/-- java/io/Serializable -/
def k4 : Class := { plain "java/io/Serializable" (some 0) with
  accessFlags := 1537
  interfaces := #[]
  cf := some (fileOf pool4 1 #[] #[] 1537 3 #[] #[])
  fields := #[]
  methods := #[]
  instanceTypes := #[]
  staticTypes := #[]
  resolved := Array.replicate 7 none
  statics := none }

def pool5 : Array CpInfo := pool [(2, .class_ 4), (1, u "java/lang/Enum"), (0, u "name"), (0, u "Ljava/lang/String;"), (2, u "ordinal"), (0, u "I"), (1, .class_ 14), (1, u "java/lang/Object"), (4, u "hash"), (86, .class_ 108), (1, u "java/lang/Enum$EnumDesc"), (2, .class_ 112), (0, u "java/lang/constant/Constable"), (0, .class_ 114), (0, u "java/lang/Comparable"), (0, .class_ 116), (0, u "java/io/Serializable")] 87

/-- java/lang/Enum -/
def k5 : Class := { plain "java/lang/Enum" (some 0) with
  accessFlags := 1057
  interfaces := #[2, 3, 4]
  cf := some (fileOf pool5 2 #[.nestMembers #[106]] #[] 1057 12 #[111, 113, 115] #[{ accessFlags := 18, nameIndex := 5, descriptorIndex := 6, attributes := #[] }, { accessFlags := 18, nameIndex := 9, descriptorIndex := 10, attributes := #[] }, { accessFlags := 2, nameIndex := 19, descriptorIndex := 10, attributes := #[] }])
  fields := #[{ name := "name", type := (.object "java/lang/String"), accessFlags := 18, slot := 0, constantValue := 0 }, { name := "ordinal", type := .int, accessFlags := 18, slot := 1, constantValue := 0 }, { name := "hash", type := .int, accessFlags := 2, slot := 2, constantValue := 0 }]
  methods := #[]
  instanceTypes := #[(.object "java/lang/String"), .int, .int]
  staticTypes := #[]
  resolved := Array.replicate 204 none
  statics := none }

def pool6 : Array CpInfo := pool [(1, .class_ 2), (0, u "com/example/transcript_search/transcriptsearch/fusion/FusionMethod"), (2, u "COMBSUM"), (0, u "Lcom/example/transcript_search/transcriptsearch/fusion/FusionMethod;"), (2, u "COMBMNZ"), (2, u "COMBANZ"), (2, u "COMBMAX"), (2, u "COMBMIN"), (2, u "COMBMED"), (2, u "COMBTOTPROB"), (2, u "COMBMULTPROB"), (2, u "WCOMBSUM"), (2, u "WCOMBMNZ"), (0, .fieldref 1 35), (0, .nameAndType 36 6), (0, u "FUSION1"), (0, .fieldref 1 38), (0, .nameAndType 39 6), (0, u "FUSION2"), (2, u "LINCOMB"), (2, u "$VALUES"), (0, u "[Lcom/example/transcript_search/transcriptsearch/fusion/FusionMethod;"), (6, .class_ 55), (1, u "java/lang/Enum"), (8, u "evidence"), (0, u "Lcom/example/transcript_search/transcriptsearch/fusion/FusionMethod$Evidence;"), (0, .fieldref 1 67), (0, .nameAndType 68 69), (0, u "normalisation"), (0, u "Lcom/example/transcript_search/transcriptsearch/fusion/Normalisation;"), (2, u "weights"), (0, u "Lcom/example/transcript_search/transcriptsearch/fusion/FusionMethod$Weights;"), (25, .class_ 101), (1, u "com/example/transcript_search/transcriptsearch/fusion/FusionMethod$Weights"), (135, .class_ 239), (1, u "com/example/transcript_search/transcriptsearch/fusion/FusionMethod$Evidence"), (45, u "NOTHING_TO_LEARN"), (0, u "Ljava/lang/String;"), (1, u "LOG_OF_NO_CHANCE"), (0, u "D"), (11, u "defaultNormalisation"), (0, u "()Lcom/example/transcript_search/transcriptsearch/fusion/Normalisation;"), (1, u "countsUnscalableRunsAsZero"), (0, u "()Z")] 34

def k6c0 : Code := { maxStack := 1, maxLocals := 1, code := prog_9_method_6_code, exceptionTable := #[], attributes := #[] }
def k6m0 : Method := { name := "defaultNormalisation", desc := "()Lcom/example/transcript_search/transcriptsearch/fusion/Normalisation;", sig := { parameters := [], returnType := some (.object "com/example/transcript_search/transcriptsearch/fusion/Normalisation") }, accessFlags := 1, code := some k6c0 }
def k6c1 : Code := { maxStack := 2, maxLocals := 1, code := prog_9_method_8_code, exceptionTable := #[], attributes := #[] }
def k6m1 : Method := { name := "countsUnscalableRunsAsZero", desc := "()Z", sig := { parameters := [], returnType := some .boolean }, accessFlags := 1, code := some k6c1 }
/-- com/example/transcript_search/transcriptsearch/fusion/FusionMethod -/
def k6 : Class := { plain "com/example/transcript_search/transcriptsearch/fusion/FusionMethod" (some 5) with
  accessFlags := 16433
  interfaces := #[]
  cf := some (fileOf pool6 1 #[.nestMembers #[99, 237]] #[{ accessFlags := 1, nameIndex := 301, descriptorIndex := 302, attributes := #[] }, { accessFlags := 1, nameIndex := 304, descriptorIndex := 305, attributes := #[] }] 16433 53 #[] #[{ accessFlags := 16409, nameIndex := 5, descriptorIndex := 6, attributes := #[] }, { accessFlags := 16409, nameIndex := 9, descriptorIndex := 6, attributes := #[] }, { accessFlags := 16409, nameIndex := 12, descriptorIndex := 6, attributes := #[] }, { accessFlags := 16409, nameIndex := 15, descriptorIndex := 6, attributes := #[] }, { accessFlags := 16409, nameIndex := 18, descriptorIndex := 6, attributes := #[] }, { accessFlags := 16409, nameIndex := 21, descriptorIndex := 6, attributes := #[] }, { accessFlags := 16409, nameIndex := 24, descriptorIndex := 6, attributes := #[] }, { accessFlags := 16409, nameIndex := 27, descriptorIndex := 6, attributes := #[] }, { accessFlags := 16409, nameIndex := 30, descriptorIndex := 6, attributes := #[] }, { accessFlags := 16409, nameIndex := 33, descriptorIndex := 6, attributes := #[] }, { accessFlags := 16409, nameIndex := 36, descriptorIndex := 6, attributes := #[] }, { accessFlags := 16409, nameIndex := 39, descriptorIndex := 6, attributes := #[] }, { accessFlags := 16409, nameIndex := 42, descriptorIndex := 6, attributes := #[] }, { accessFlags := 24, nameIndex := 285, descriptorIndex := 286, attributes := #[] }, { accessFlags := 24, nameIndex := 288, descriptorIndex := 289, attributes := #[] }, { accessFlags := 18, nameIndex := 64, descriptorIndex := 65, attributes := #[] }, { accessFlags := 18, nameIndex := 68, descriptorIndex := 69, attributes := #[] }, { accessFlags := 18, nameIndex := 72, descriptorIndex := 73, attributes := #[] }, { accessFlags := 4122, nameIndex := 45, descriptorIndex := 46, attributes := #[] }])
  fields := #[{ name := "COMBSUM", type := (.object "com/example/transcript_search/transcriptsearch/fusion/FusionMethod"), accessFlags := 16409, slot := 0, constantValue := 0 }, { name := "COMBMNZ", type := (.object "com/example/transcript_search/transcriptsearch/fusion/FusionMethod"), accessFlags := 16409, slot := 1, constantValue := 0 }, { name := "COMBANZ", type := (.object "com/example/transcript_search/transcriptsearch/fusion/FusionMethod"), accessFlags := 16409, slot := 2, constantValue := 0 }, { name := "COMBMAX", type := (.object "com/example/transcript_search/transcriptsearch/fusion/FusionMethod"), accessFlags := 16409, slot := 3, constantValue := 0 }, { name := "COMBMIN", type := (.object "com/example/transcript_search/transcriptsearch/fusion/FusionMethod"), accessFlags := 16409, slot := 4, constantValue := 0 }, { name := "COMBMED", type := (.object "com/example/transcript_search/transcriptsearch/fusion/FusionMethod"), accessFlags := 16409, slot := 5, constantValue := 0 }, { name := "COMBTOTPROB", type := (.object "com/example/transcript_search/transcriptsearch/fusion/FusionMethod"), accessFlags := 16409, slot := 6, constantValue := 0 }, { name := "COMBMULTPROB", type := (.object "com/example/transcript_search/transcriptsearch/fusion/FusionMethod"), accessFlags := 16409, slot := 7, constantValue := 0 }, { name := "WCOMBSUM", type := (.object "com/example/transcript_search/transcriptsearch/fusion/FusionMethod"), accessFlags := 16409, slot := 8, constantValue := 0 }, { name := "WCOMBMNZ", type := (.object "com/example/transcript_search/transcriptsearch/fusion/FusionMethod"), accessFlags := 16409, slot := 9, constantValue := 0 }, { name := "FUSION1", type := (.object "com/example/transcript_search/transcriptsearch/fusion/FusionMethod"), accessFlags := 16409, slot := 10, constantValue := 0 }, { name := "FUSION2", type := (.object "com/example/transcript_search/transcriptsearch/fusion/FusionMethod"), accessFlags := 16409, slot := 11, constantValue := 0 }, { name := "LINCOMB", type := (.object "com/example/transcript_search/transcriptsearch/fusion/FusionMethod"), accessFlags := 16409, slot := 12, constantValue := 0 }, { name := "NOTHING_TO_LEARN", type := (.object "java/lang/String"), accessFlags := 24, slot := 13, constantValue := 0 }, { name := "LOG_OF_NO_CHANCE", type := .double, accessFlags := 24, slot := 14, constantValue := 0 }, { name := "evidence", type := (.object "com/example/transcript_search/transcriptsearch/fusion/FusionMethod$Evidence"), accessFlags := 18, slot := 3, constantValue := 0 }, { name := "normalisation", type := (.object "com/example/transcript_search/transcriptsearch/fusion/Normalisation"), accessFlags := 18, slot := 4, constantValue := 0 }, { name := "weights", type := (.object "com/example/transcript_search/transcriptsearch/fusion/FusionMethod$Weights"), accessFlags := 18, slot := 5, constantValue := 0 }, { name := "$VALUES", type := (.array (.object "com/example/transcript_search/transcriptsearch/fusion/FusionMethod")), accessFlags := 4122, slot := 15, constantValue := 0 }]
  methods := #[k6m0, k6m1]
  instanceTypes := #[(.object "java/lang/String"), .int, .int, (.object "com/example/transcript_search/transcriptsearch/fusion/FusionMethod$Evidence"), (.object "com/example/transcript_search/transcriptsearch/fusion/Normalisation"), (.object "com/example/transcript_search/transcriptsearch/fusion/FusionMethod$Weights")]
  staticTypes := #[(.object "com/example/transcript_search/transcriptsearch/fusion/FusionMethod"), (.object "com/example/transcript_search/transcriptsearch/fusion/FusionMethod"), (.object "com/example/transcript_search/transcriptsearch/fusion/FusionMethod"), (.object "com/example/transcript_search/transcriptsearch/fusion/FusionMethod"), (.object "com/example/transcript_search/transcriptsearch/fusion/FusionMethod"), (.object "com/example/transcript_search/transcriptsearch/fusion/FusionMethod"), (.object "com/example/transcript_search/transcriptsearch/fusion/FusionMethod"), (.object "com/example/transcript_search/transcriptsearch/fusion/FusionMethod"), (.object "com/example/transcript_search/transcriptsearch/fusion/FusionMethod"), (.object "com/example/transcript_search/transcriptsearch/fusion/FusionMethod"), (.object "com/example/transcript_search/transcriptsearch/fusion/FusionMethod"), (.object "com/example/transcript_search/transcriptsearch/fusion/FusionMethod"), (.object "com/example/transcript_search/transcriptsearch/fusion/FusionMethod"), (.object "java/lang/String"), .double, (.array (.object "com/example/transcript_search/transcriptsearch/fusion/FusionMethod"))]
  resolved := Array.replicate 340 none
  statics := some 0 }

def pool7 : Array CpInfo := pool [(1, .class_ 2), (0, u "com/example/transcript_search/transcriptsearch/fusion/Normalisation"), (2, u "NONE"), (0, u "Lcom/example/transcript_search/transcriptsearch/fusion/Normalisation;"), (2, u "MAX"), (2, u "MINMAX"), (2, u "$VALUES"), (0, u "[Lcom/example/transcript_search/transcriptsearch/fusion/Normalisation;"), (6, .class_ 25), (1, u "java/lang/Enum"), (8, u "name"), (0, u "Ljava/lang/String;")] 152

/-- com/example/transcript_search/transcriptsearch/fusion/Normalisation -/
def k7 : Class := { plain "com/example/transcript_search/transcriptsearch/fusion/Normalisation" (some 5) with
  accessFlags := 16433
  interfaces := #[]
  cf := some (fileOf pool7 1 #[] #[] 16433 23 #[] #[{ accessFlags := 16409, nameIndex := 5, descriptorIndex := 6, attributes := #[] }, { accessFlags := 16409, nameIndex := 9, descriptorIndex := 6, attributes := #[] }, { accessFlags := 16409, nameIndex := 12, descriptorIndex := 6, attributes := #[] }, { accessFlags := 18, nameIndex := 34, descriptorIndex := 35, attributes := #[] }, { accessFlags := 4122, nameIndex := 15, descriptorIndex := 16, attributes := #[] }])
  fields := #[{ name := "NONE", type := (.object "com/example/transcript_search/transcriptsearch/fusion/Normalisation"), accessFlags := 16409, slot := 0, constantValue := 0 }, { name := "MAX", type := (.object "com/example/transcript_search/transcriptsearch/fusion/Normalisation"), accessFlags := 16409, slot := 1, constantValue := 0 }, { name := "MINMAX", type := (.object "com/example/transcript_search/transcriptsearch/fusion/Normalisation"), accessFlags := 16409, slot := 2, constantValue := 0 }, { name := "name", type := (.object "java/lang/String"), accessFlags := 18, slot := 3, constantValue := 0 }, { name := "$VALUES", type := (.array (.object "com/example/transcript_search/transcriptsearch/fusion/Normalisation")), accessFlags := 4122, slot := 3, constantValue := 0 }]
  methods := #[]
  instanceTypes := #[(.object "java/lang/String"), .int, .int, (.object "java/lang/String")]
  staticTypes := #[(.object "com/example/transcript_search/transcriptsearch/fusion/Normalisation"), (.object "com/example/transcript_search/transcriptsearch/fusion/Normalisation"), (.object "com/example/transcript_search/transcriptsearch/fusion/Normalisation"), (.array (.object "com/example/transcript_search/transcriptsearch/fusion/Normalisation"))]
  resolved := Array.replicate 188 none
  statics := some 1 }

def pool8 : Array CpInfo := pool [(1, u "java/lang/Cloneable"), (0, .class_ 1), (0, u "java/lang/Object"), (0, .class_ 3)] 3

/-- java/lang/Cloneable -/
def k8 : Class := { plain "java/lang/Cloneable" (some 0) with
  accessFlags := 1537
  interfaces := #[]
  cf := some (fileOf pool8 2 #[] #[] 1537 4 #[] #[])
  fields := #[]
  methods := #[]
  instanceTypes := #[]
  staticTypes := #[]
  resolved := Array.replicate 8 none
  statics := none }

/-- the primitive boolean -/
def k9 : Class := { plain "boolean" none with kind := .primitive 'Z', accessFlags := 0x411 }
/-- [Z -/
def k10 : Class := { plain "[Z" (some 0) with kind := .array 9 .boolean, interfaces := #[8, 4], accessFlags := 1041 }

/-- the primitive byte -/
def k11 : Class := { plain "byte" none with kind := .primitive 'B', accessFlags := 0x411 }
/-- [B -/
def k12 : Class := { plain "[B" (some 0) with kind := .array 11 .byte, interfaces := #[8, 4], accessFlags := 1041 }

/-- the primitive int -/
def k13 : Class := { plain "int" none with kind := .primitive 'I', accessFlags := 0x411 }
/-- [I -/
def k14 : Class := { plain "[I" (some 0) with kind := .array 13 .int, interfaces := #[8, 4], accessFlags := 1041 }

/-- [Lcom/example/transcript_search/transcriptsearch/fusion/FusionMethod; -/
def k15 : Class := { plain "[Lcom/example/transcript_search/transcriptsearch/fusion/FusionMethod;" (some 0) with kind := .array 6 (.object "com/example/transcript_search/transcriptsearch/fusion/FusionMethod"), interfaces := #[8, 4], accessFlags := 1041 }

def heap : Heap := #[{ cls := 6, slots := #[.ref 5, .ref 6, .ref 7, .ref 8, .ref 9, .ref 10, .ref 11, .ref 12, .ref 13, .ref 14, .ref 15, .ref 16, .ref 17, .null, .double 0, .null], vm := .statics 6 },
  { cls := 7, slots := #[.ref 2, .ref 3, .ref 4, .null], vm := .statics 7 },
  { cls := 7, slots := #[.null, .int 0, .int 0, .null], vm := .none },
  { cls := 7, slots := #[.null, .int 1, .int 0, .null], vm := .none },
  { cls := 7, slots := #[.null, .int 2, .int 0, .null], vm := .none },
  { cls := 6, slots := #[.null, .int 0, .int 0, .null, .ref 2, .null], vm := .none },
  { cls := 6, slots := #[.null, .int 1, .int 0, .null, .ref 2, .null], vm := .none },
  { cls := 6, slots := #[.null, .int 2, .int 0, .null, .ref 2, .null], vm := .none },
  { cls := 6, slots := #[.null, .int 3, .int 0, .null, .ref 2, .null], vm := .none },
  { cls := 6, slots := #[.null, .int 4, .int 0, .null, .ref 2, .null], vm := .none },
  { cls := 6, slots := #[.null, .int 5, .int 0, .null, .ref 2, .null], vm := .none },
  { cls := 6, slots := #[.null, .int 6, .int 0, .null, .ref 2, .null], vm := .none },
  { cls := 6, slots := #[.null, .int 7, .int 0, .null, .ref 2, .null], vm := .none },
  { cls := 6, slots := #[.null, .int 8, .int 0, .null, .ref 4, .null], vm := .none },
  { cls := 6, slots := #[.null, .int 9, .int 0, .null, .ref 4, .null], vm := .none },
  { cls := 6, slots := #[.null, .int 10, .int 0, .null, .ref 3, .null], vm := .none },
  { cls := 6, slots := #[.null, .int 11, .int 0, .null, .ref 3, .null], vm := .none },
  { cls := 6, slots := #[.null, .int 12, .int 0, .null, .ref 4, .null], vm := .none }]
def classes : Array Class := #[k0, k1, k2, k3, k4, k5, k6, k7, k8, k9, k10, k11, k12, k13, k14, k15]
def interned : List (Array UInt16 × Addr) := []
def slotsUsed : Nat := 110
def theMethod : MethodId := ⟨1, 1⟩
def args0 : Array Value := #[.int 5]
def aboutOver (below : List Frame) : State where
  vm := { classes := classes, interned := interned.toArray }
  heap := heap
  slotsUsed := slotsUsed
  threads := #[{ frames := .invoking theMethod args0 :: below }]
def below0 : List Frame := [.native { method := ⟨0, 0⟩, args := #[] }]
def about1 : State := aboutOver below0
def p0 : Program := .bare "" "" ""
def e0 : Env := launch0.env 0 0 0
theorem w_frames : about1.frames = Frame.invoking theMethod args0 :: below0 := rfl
set_option maxRecDepth 65536 in
theorem w_args : argsFit about1.vm theMethod args0 = true := by decide +kernel
set_option maxRecDepth 65536 in
theorem w_heap : heapFits about1 = true := by decide +kernel
set_option maxRecDepth 65536 in
theorem w_runnable : about1.curStatus? = some .runnable := by decide +kernel
set_option maxRecDepth 65536 in
theorem w_alone : about1.alone = true := by decide +kernel
set_option maxRecDepth 65536 in
theorem w_named : about1.methodNamed? x = some theMethod := by decide +kernel
set_option maxRecDepth 65536 in
theorem w_hears : about1.hears theMethod below0 = true := by decide +kernel
set_option maxRecDepth 65536 in
theorem w_ripe : about1.ripe theMethod args0 below0 = true := by decide +kernel
theorem w_running : about1.status = .running := rfl
set_option maxRecDepth 65536 in
theorem w_room : about1.hasRoom e0.platform room_1 = true :=
  launch0.hasRoom_least _ room_1 (by decide +kernel) (by decide +kernel) (by decide +kernel) (by decide +kernel) (by decide +kernel) (by decide +kernel)
theorem allAtoms_all (ts : List Jvm.Cond) (a : Array Jvm.Value) (st : Jvm.State) : (allAtoms ts).before a st = ts.all (fun c => c.before a st) := by
  induction ts with
  | nil => rfl
  | cons c t ih =>
    show (Jvm.Cond.and c (allAtoms t)).before a st = _
    rw [Jvm.Cond.before_and, ih, List.all_cons]
def words1 : List Jvm.Cond := Jvm.Cond.code x code maxLocals ret :: tables_1
/-- a 'code' word, met by the world's own term for the bytes: nothing is compared byte by byte -/
theorem code_word {y : MethodName} {bytes : ByteArray} {mx : Nat} {rt : Option FieldType} {a : Array Value} {s : State} {m : MethodId} {meth : Method} {c : Code} (h1 : s.methodNamed? y = some m) (h2 : s.vm.method? m = some meth) (h3 : meth.code = some c) (h4 : c.code = bytes)
    (h5 : (c.maxLocals == mx && c.exceptionTable.isEmpty && decide (c.maxStack ≤ mostOperands) && decide (meth.sig.returnType = rt) && !meth.locks && decide (parseMethodDescriptor y.desc = some meth.sig)) = true) : (Jvm.Cond.code y bytes mx rt).before a s = true := by
  simp only [Bool.and_eq_true, beq_iff_eq, Bool.not_eq_true', decide_eq_true_eq] at h5
  obtain ⟨⟨⟨⟨⟨g1, g2⟩, g3⟩, g4⟩, g5⟩, g6⟩ := h5
  simp [Cond.before, Cond.holds, Cond.value, h1, h2, h3, h4, g1, g2, g3, g4, g5, g6]
def isCode : Jvm.Cond → Bool
  | .code _ _ _ _ => true
  | _ => false
theorem all_split {L : List Jvm.Cond} {P : Jvm.Cond → Bool} (h1 : L.all (fun c => isCode c || P c) = true) (h2 : ∀ c ∈ L.filter isCode, P c = true) : L.all P = true := by
  refine List.all_eq_true.mpr fun c hc => ?_
  have h := List.all_eq_true.mp h1 c hc
  rcases Bool.eq_false_or_eq_true (isCode c) with hi | hi
  · exact h2 c (List.mem_filter.mpr ⟨hc, hi⟩)
  · simpa [hi] using h
set_option maxRecDepth 65536 in
theorem w_c0 : (Jvm.Cond.code x code maxLocals ret).before args0 about1 = true := code_word (m := ⟨1, 1⟩) (meth := k1m1) (c := k1c1) (by decide +kernel) rfl rfl rfl (by decide +kernel)
set_option maxRecDepth 65536 in
theorem w_c1 : (Jvm.Cond.code ({ cls := "com/example/transcript_search/transcriptsearch/fusion/FusionMethod", name := "countsUnscalableRunsAsZero", desc := "()Z" } : Jvm.MethodName) prog_9_method_8_code (1 : Nat) (Option.some Jvm.ClassFile.FieldType.boolean)).before args0 about1 = true := code_word (m := ⟨6, 1⟩) (meth := k6m1) (c := k6c1) (by decide +kernel) rfl rfl rfl (by decide +kernel)
set_option maxRecDepth 65536 in
theorem w_c2 : (Jvm.Cond.code ({ cls := "com/example/transcript_search/transcriptsearch/fusion/FusionMethod", name := "defaultNormalisation", desc := "()Lcom/example/transcript_search/transcriptsearch/fusion/Normalisation;" } : Jvm.MethodName) prog_9_method_6_code (1 : Nat) (Option.some (Jvm.ClassFile.FieldType.object "com/example/transcript_search/transcriptsearch/fusion/Normalisation"))).before args0 about1 = true := code_word (m := ⟨6, 0⟩) (meth := k6m0) (c := k6c0) (by decide +kernel) rfl rfl rfl (by decide +kernel)
def codes1 : List Jvm.Cond := [Jvm.Cond.code x code maxLocals ret, Jvm.Cond.code ({ cls := "com/example/transcript_search/transcriptsearch/fusion/FusionMethod", name := "countsUnscalableRunsAsZero", desc := "()Z" } : Jvm.MethodName) prog_9_method_8_code (1 : Nat) (Option.some Jvm.ClassFile.FieldType.boolean), Jvm.Cond.code ({ cls := "com/example/transcript_search/transcriptsearch/fusion/FusionMethod", name := "defaultNormalisation", desc := "()Lcom/example/transcript_search/transcriptsearch/fusion/Normalisation;" } : Jvm.MethodName) prog_9_method_6_code (1 : Nat) (Option.some (Jvm.ClassFile.FieldType.object "com/example/transcript_search/transcriptsearch/fusion/Normalisation"))]
set_option maxRecDepth 65536 in
theorem codes_eq : words1.filter isCode = codes1 := rfl
theorem w_codes : ∀ c ∈ words1.filter isCode, c.before args0 about1 = true := by
  rw [codes_eq]
  intro c hc
  simp only [codes1, List.mem_cons, List.not_mem_nil, or_false] at hc
  rcases hc with rfl | rfl | rfl
  · exact w_c0
  · exact w_c1
  · exact w_c2
set_option maxRecDepth 65536 in
theorem w_t1 : (words1.take 24).all (fun c => isCode c || c.before args0 about1) = true := by decide +kernel
set_option maxRecDepth 65536 in
theorem w_t2 : ((words1.drop 24).take 24).all (fun c => isCode c || c.before args0 about1) = true := by decide +kernel
set_option maxRecDepth 65536 in
theorem w_t3 : ((words1.drop 24).drop 24).all (fun c => isCode c || c.before args0 about1) = true := by decide +kernel
theorem w_tables : (allAtoms (Jvm.Cond.code x code maxLocals ret :: tables_1)).before args0 about1 = true := by
  rw [allAtoms_all]
  show words1.all (fun c => c.before args0 about1) = true
  refine all_split ?_ w_codes
  rw [← List.take_append_drop 24 words1, List.all_append, w_t1, ← List.take_append_drop 24 (words1.drop 24), List.all_append, w_t2, w_t3]
  rfl
set_option maxRecDepth 65536 in
theorem w_case : (Jvm.Cond.and given_1 narrow_1).before args0 about1 = true := by decide +kernel
theorem w_applies : (headSpec (Jvm.Cond.code x code maxLocals ret :: tables_1) room_1).applies x e0.platform about1 = true :=
  (Spec.applies_iff w_frames).mpr ⟨w_running, w_runnable, w_alone, w_named, w_hears, w_ripe, w_room, w_tables⟩
theorem atStart : AtStart classFile x code maxLocals ret World_1 tables_1 room_1 Calls_1 rest_1 Pre_1 launch0 p0 e0 about1 theMethod args0 below0 :=
  ⟨lists_1, trivial, launch0.admits_env _ _ _, launch0.least_env, fairChoices_fair.cas, fairChoices_fair.clock, w_frames, w_args, w_heap, w_applies, trivial, trivial, w_case⟩
end start1
theorem witness_1 : WitnessClaimed_1 := ⟨start1.p0, start1.e0, start1.about1, start1.theMethod, start1.args0, start1.below0, start1.atStart⟩
end Jvm.Pilot.@@N@@
