import JvmDerived
import JvmDerived.Pilot.@@N@@Statement
import JvmDerived.Pilot.@@N@@Code
set_option linter.unusedVariables false
set_option linter.unusedSimpArgs false
namespace Jvm.Pilot.@@N@@
open Jvm Jvm.ClassFile Sem Op Lib Jvm.Free Jvm.Stand Jvm.LawKit Jvm.RoadKit Bundle Jvm.Pilot.@@N@@.Jvm.D
theorem own_sta {s : State} {args : Array Value} {C n d K : String} (hx : (Jvm.Cond.exactly (Term.static C n d) K).value args s none s [] = some true) (wi : (Jvm.Cond.initialized C).before args s = true) (wl : (Jvm.Cond.laysStatic C n d).before args s = true) :
    ∃ w : Addr, (Term.static C n d).eval args s none [] s = some (.ref w) ∧ Sta s s.heap C n d (.ref w) ∧ Exa s s.heap w K := by
  obtain ⟨w, ew⟩ := exa_v hx
  exact ⟨w, ew, Sta.start ew (Or.inr ⟨wi, wl⟩), Exa.start ew hx⟩
theorem own_fld {s : State} {args : Array Value} {t : Term} {w : Addr} {C n d : String} {k : Int32} (ev : t.eval args s none [] s = some (.ref w)) (hx : (Jvm.Cond.eq (Term.field t C n d) (Term.int k)).value args s none s [] = some true) : Fld s s.heap w C n d (.int k) := by
  have e1 := fld_at (C := C) (n := n) (dd := d) ev
  refine Fld.start ?_
  cases hv : s.fieldOf? w C n d with
  | none => rw [hv] at e1; simp [Cond.value, e1] at hx
  | some v =>
    rw [hv] at e1
    have e2 : (Term.int k).eval args s none [] s = some (.int k) := Term.int_eval k
    cases v <;> simp [Cond.value, e1, e2] at hx ⊢
    exact hx
theorem own_fldR {s : State} {args : Array Value} {t u : Term} {w z : Addr} {C n d : String} (ev : t.eval args s none [] s = some (.ref w)) (eu : u.eval args s none [] s = some (.ref z)) (hx : (Jvm.Cond.eq (Term.field t C n d) u).value args s none s [] = some true) : Fld s s.heap w C n d (.ref z) := by
  have e1 := fld_at (C := C) (n := n) (dd := d) ev
  refine Fld.start ?_
  cases hv : s.fieldOf? w C n d with
  | none => rw [hv] at e1; simp [Cond.value, e1] at hx
  | some v =>
    rw [hv] at e1
    cases v <;> simp [Cond.value, e1, eu] at hx ⊢
    exact hx
theorem own_nsR {Z : State} {a0 : Array Value} {O K : String} {n : Nat} (w : (Jvm.Cond.noSuperclass O).before a0 Z = true) (wi : (Jvm.Cond.instantiable K n).before a0 Z = true) (hn : O ≠ K) : NS Z O K := by
  obtain ⟨c, k, h1, h2, h3, -⟩ := Cond.noSuperclass_spec w
  obtain ⟨t, kt, g1, -⟩ := Cond.instantiable_spec wi
  exact ⟨c, t, h1, g1, fun fuel => by cases fuel <;> simp [Vm.isSubclassAux, ids_ne h1 g1 hn, h2, h3]⟩
theorem own_nsN {Z : State} {a0 : Array Value} {C S K : String} {n : Nat} (w : (Jvm.Cond.superclass C S).before a0 Z = true) (wi : (Jvm.Cond.instantiable K n).before a0 Z = true) (nn : NS Z C K) (hn : C ≠ K) : ∃ c t, Z.vm.findClass C = some c ∧ Z.vm.findClass K = some t ∧ Z.vm.assignable c t = false := by
  obtain ⟨c, t, h0, g0, n3⟩ := nn
  obtain ⟨_, k, _, -, h2, -, -, h5, -⟩ := Cond.superclass_spec h0 w
  obtain ⟨t', kt, g1, g2, g3, g4, -⟩ := Cond.instantiable_spec wi
  cases g0.symm.trans g1
  have g5 : kt.isInterface = false := (Bool.or_eq_false_iff.mp g4).1
  exact ⟨c, t, h0, g0, by show Z.vm.assignableAux (255 + 1) c t = false; simp [Vm.assignableAux, ids_ne h0 g0 hn, h2, g2, h5, g3, g5, Vm.isSubclass, n3]⟩
theorem own_elem {s : State} {args : Array Value} {t u : Term} {a z : Addr} {cl : Cell} {j : Int32} (ev : t.eval args s none [] s = some (.ref a)) (eu : u.eval args s none [] s = some (.ref z)) (ha : s.arrayAt? a = some cl) (hn : ¬ j < 0) (hx : (Jvm.Cond.eq (Term.elem t (Term.int j)) u).value args s none s [] = some true) : cl.slots[j.toNatClampNeg]? = some (.ref z) := by
  have e1 := elem_f ev (Term.int_eval j) ha hn
  cases hv : cl.slots[j.toNatClampNeg]? with
  | none => rw [hv] at e1; simp [Cond.value, e1] at hx
  | some v =>
    rw [hv] at e1
    cases v <;> simp [Cond.value, e1, eu] at hx ⊢
    exact hx
theorem own_fldN {s : State} {args : Array Value} {t : Term} {w : Addr} {C n d : String} (ev : t.eval args s none [] s = some (.ref w)) (hx : (Jvm.Cond.eq (Term.field t C n d) Term.null).value args s none s [] = some true) : Fld s s.heap w C n d .null := by
  have e1 := fld_at (C := C) (n := n) (dd := d) ev
  have e2 := null_v hx
  rw [e1] at e2
  exact Fld.start e2
theorem refCat {v : Value} (h : v.isRef = true) : v.category = 1 := by rcases ref_cases h with rfl | ⟨a, rfl⟩ <;> rfl
theorem refNar {v : Value} {C : String} (h : v.isRef = true) : narrow (.object C) v = v := by rcases ref_cases h with rfl | ⟨a, rfl⟩ <;> rfl
theorem refFit {v : Value} {C : String} (h : v.isRef = true) : fits (.object C) v = true := by rcases ref_cases h with rfl | ⟨a, rfl⟩ <;> rfl
theorem own_c255 (x : Int32) : ¬ nar .char ((x &&& (255 : Int32)).toUInt32.toUInt16.toUInt32.toInt32) < 0 ∧ ¬ (255 : Int32) < nar .char ((x &&& (255 : Int32)).toUInt32.toUInt16.toUInt32.toInt32) := by
  have h1 := c_and x 255 (by decide)
  have h2 := c_i2c (x &&& 255)
  have h3 := c_i2c ((x &&& (255 : Int32)).toUInt32.toUInt16.toUInt32.toInt32)
  show ¬ ((x &&& (255 : Int32)).toUInt32.toUInt16.toUInt32.toInt32).toUInt32.toUInt16.toUInt32.toInt32 < 0 ∧ ¬ (255 : Int32) < ((x &&& (255 : Int32)).toUInt32.toUInt16.toUInt32.toInt32).toUInt32.toUInt16.toUInt32.toInt32
  simp only [Int32.lt_iff_toInt_lt, show (255 : Int32).toInt = 255 from by decide, show (0 : Int32).toInt = 0 from by decide] at *
  omega
theorem own_up (cs : List Int32) (h : ∀ c ∈ cs, ¬ c < 0 ∧ ¬ (255 : Int32) < c) : ∀ c ∈ cs, ¬ c < 0 ∧ ¬ (65535 : Int32) < c := fun c hc => ⟨(h c hc).1, fun q => (h c hc).2 (by
  simp only [Int32.lt_iff_toInt_lt, show (255 : Int32).toInt = 255 from by decide, show (65535 : Int32).toInt = 65535 from by decide] at *; omega)⟩
theorem own_p1 {a : Int32} (ha : ¬ a < 0 ∧ ¬ (255 : Int32) < a) : ∀ c ∈ ([a] : List Int32), ¬ c < 0 ∧ ¬ (255 : Int32) < c := fun c hc => by
  cases List.mem_singleton.mp hc; exact ha
theorem own_p2 {a b : Int32} {L : List Int32} (ha : ¬ a < 0 ∧ ¬ (255 : Int32) < a) (hL : ∀ c ∈ b :: L, ¬ c < 0 ∧ ¬ (255 : Int32) < c) : ∀ c ∈ a :: b :: L, ¬ c < 0 ∧ ¬ (255 : Int32) < c := fun c hc => by
  rcases List.mem_cons.mp hc with q | q
  · cases q; exact ha
  · exact hL c q
section OwnLit
variable {p : Program} {l : Launch} {e : Env} {R : Room} {s : State} {m : MethodId} {args : Array Value} {below : List Frame} {meth : Method} {c : Code} {T : State} {locs : List Loc} {cells slots : Nat} {Z : State} {a0 : Array Value} {h h' : Heap} {vm0 vm1 : Vm} {own : String} {i N N' : Nat} {A : List String} {o : Addr} {sl : Nat} {v : Value} {ws : List Addr}
/-- no place of the start was written: the list of places is empty -/
theorem own_noL (X : Stand p l e R s m args below meth c T locs cells slots) (hold : ∀ (b : Addr) (cl : Cell), s.heap[b]? = some cl → T.heap[b]? = some cl) : Stand p l e R s m args below meth c T [] cells slots :=
  ⟨X.admits, X.cas, X.clock, X.frames, X.room, X.hears, X.method, X.code, X.here, X.tail, X.warmed, X.limits, X.bytes,
    ⟨X.same.1, X.same.2.1, X.same.2.2.1, X.same.2.2.2.1, X.same.2.2.2.2.1, fun a cc hc => ⟨cc, hold a cc hc, rfl, rfl, fun _ _ => rfl⟩⟩⟩
/-- the literal "" at the entry i of own: not loaded yet (only texts of A and "" may have come), or loaded: a String of no bytes, below N -/
def LS (Z : State) (own : String) (i : Nat) (A : List String) (vm : Vm) (h : Heap) (N : Nat) : Prop :=
  N ≤ h.size ∧ ∃ Ts, IB Z vm Ts ∧ (∀ t ∈ Ts, t = "" ∨ t ∈ A) ∧ ("" ∉ Ts ∨ ∃ (a b : Addr) (k : ClassId), Lit (Z.setVm vm) own i a ∧ a < N ∧ b < N ∧ Exa Z h a "java/lang/String" ∧ Fld Z h a "java/lang/String" "coder" "B" (.int 0) ∧ Fld Z h a "java/lang/String" "value" "[B" (.ref b) ∧ Arv Z h b k .byte 0 [] (.int 0))
theorem LS.start (hZ : IB Z vm0 []) : LS Z own i A vm0 h 0 := ⟨Nat.zero_le _, [], hZ, fun _ q => (nomatch q), Or.inl (fun q => nomatch q)⟩
theorem LS.ext (L : LS Z own i A vm0 h N) (E : Ext h h') : LS Z own i A vm0 h' N := by
  obtain ⟨q, Ts, I, ha, r⟩ := L
  refine ⟨Nat.le_trans q E.1, Ts, I, ha, r.imp id ?_⟩
  rintro ⟨a, b, k, r1, r2, r3, r4, r5, r6, r7⟩
  exact ⟨a, b, k, r1, r2, r3, r4.ext E, r5.ext E, r6.ext E, r7.ext E⟩
theorem LS.keep (L : LS Z own i A vm0 h N) (K : Keep h h' ws) (w : ∀ x ∈ ws, N ≤ x) : LS Z own i A vm0 h' N := by
  obtain ⟨q, Ts, I, ha, r⟩ := L
  refine ⟨Nat.le_trans q K.1, Ts, I, ha, r.imp id ?_⟩
  rintro ⟨a, b, k, r1, r2, r3, r4, r5, r6, r7⟩
  have na : a ∉ ws := fun z => absurd r2 (Nat.not_lt.mpr (w a z))
  have nb : b ∉ ws := fun z => absurd r3 (Nat.not_lt.mpr (w b z))
  exact ⟨a, b, k, r1, r2, r3, r4.keep K, r5.keep K na, r6.keep K na, r7.keep K nb⟩
theorem LS.wr (L : LS Z own i A vm0 h N) (W : Wr h h' o sl v) (q : N ≤ o) : LS Z own i A vm0 h' N := L.keep (Keep.of_wr W) (allS q all0)
theorem LS.keepC {C : String} {n : Nat} (L : LS Z own i A vm0 h N) (K : Keep h h' [o]) (E : Exa Z h o C) (hC : C ≠ "java/lang/String") (wi : (Jvm.Cond.instantiable C n).before a0 Z = true) : LS Z own i A vm0 h' N := by
  obtain ⟨q, Ts, I, ha, r⟩ := L
  refine ⟨Nat.le_trans q K.1, Ts, I, ha, r.imp id ?_⟩
  rintro ⟨a, b, k, r1, r2, r3, r4, r5, r6, r7⟩
  have na : a ∉ [o] := ninS (Ne.symm (E.ne r4 hC)) nin0
  have nb : b ∉ [o] := ninS (Ne.symm (E.neArv r7 wi)) nin0
  exact ⟨a, b, k, r1, r2, r3, r4.keep K, r5.keep K na, r6.keep K na, r7.keep K nb⟩
theorem own_fldU {a : Addr} {C n d : String} {u w : Value} (F : Fld Z h a C n d u) (G : Fld Z h a C n d w) : u = w := by
  obtain ⟨c1, f1, k1, i1, g1, a1, a2, -, -, -, -, a7⟩ := F
  obtain ⟨c2, f2, k2, i2, g2, b1, b2, -, -, -, -, b7⟩ := G
  cases a1.symm.trans b1
  cases a2.symm.trans b2
  exact Option.some.inj (a7.symm.trans b7)
theorem LS.keepX {a b : Addr} (L : LS Z own i A vm0 h N) (La : Lit (s.setVm vm0) own i a) (Va : Fld Z h a "java/lang/String" "value" "[B" (.ref b)) (K : Keep h h' ws) (na : a ∉ ws) (nb : b ∉ ws) : LS Z own i A vm0 h' N := by
  obtain ⟨q, Ts, I, ha, r⟩ := L
  refine ⟨Nat.le_trans q K.1, Ts, I, ha, r.imp id ?_⟩
  rintro ⟨a', b', k, r1, r2, r3, r4, r5, r6, r7⟩
  have e1 : (Z.setVm vm0).resolvedAt? own i = some (.string a') := r1
  have e2 : (Z.setVm vm0).resolvedAt? own i = some (.string a) := La
  obtain rfl : a' = a := by rw [e1] at e2; cases e2; rfl
  obtain rfl : b' = b := Value.ref.inj (own_fldU r6 Va)
  exact ⟨a', b', k, r1, r2, r3, r4.keep K, r5.keep K na, r6.keep K na, r7.keep K nb⟩
theorem LS.up (L : LS Z own i A vm0 h N) (q : N ≤ N') (q' : N' ≤ h.size) : LS Z own i A vm0 h N' := by
  obtain ⟨_, Ts, I, ha, r⟩ := L
  refine ⟨q', Ts, I, ha, r.imp id ?_⟩
  rintro ⟨a, b, k, r1, r2, r3, r4⟩
  exact ⟨a, b, k, r1, Nat.lt_of_lt_of_le r2 q, Nat.lt_of_lt_of_le r3 q, r4⟩
theorem IB.same {Ts : List String} (I : IB Z vm0 Ts) (q : vm1.interned = vm0.interned) : IB Z vm1 Ts := by
  obtain ⟨more, h1, h2⟩ := I
  exact ⟨more, q.trans h1, h2⟩
theorem LS.warm (L : LS Z own i A vm0 h N) (hW : (s.setVm vm0).WarmedH vm1) : LS Z own i A vm1 h N := by
  obtain ⟨q, Ts, I, ha, r⟩ := L
  refine ⟨q, Ts, IB.same I hW.interned_eq, ha, r.imp id ?_⟩
  rintro ⟨a, b, k, r1, r4⟩
  exact ⟨a, b, k, Lit.stays (s := s) (vm0 := vm0) r1 hW.wide, r4⟩
/-- 'ldc' of the literal "", its fields known, whether it is the first load or not -/
theorem own_ldcE (X : Stand p l e R (s.setVm vm0) m args below meth c T locs cells slots) (hx : p.tables.exec = Jvm.exec) (hZ : Z.Warmed39 (s.setVm vm0).vm) (hown : (s.setVm vm0).vm.findClass own = some m.cls) (w : (Jvm.Cond.stringLink own i "").before a0 Z = true) (wS : ∀ a ∈ Bundle.stringAtoms, a.before a0 Z = true)
    (eT : T.heap = h) {k0 : Nat} (hS : s.Since vm0 k0) (hk : k0 ≤ h.size) (hold : ∀ (b : Addr) (cl : Cell), s.heap[b]? = some cl → T.heap[b]? = some cl) (hkeep : ∀ (b : Addr) (cl : Cell), Z.heap[b]? = some cl → s.heap[b]? = some cl) (LL : LS Z own i A vm0 h N) (hh : Jvm.Lit.constHeld Z own i) (hcw : Jvm.Lit.compactW.before a0 Z = true)
    {g : JFrame} (hg : g.method = m) (hd : decode c.code g.pc = .ok (.ldc i, 2)) (hc : cells + 2 ≤ R.cells) (hl' : slots + 4 ≤ R.slots) :
    ∃ (a : Addr) (T' : State) (h' : Heap) (k1 : Nat) (b : Addr) (k : ClassId), Stand p l e R (s.setVm T'.vm) m args below meth c T' [] (cells + 2) (slots + 4) ∧ T'.heap = h' ∧ Ext h h' ∧ s.Since T'.vm k1 ∧ k1 ≤ h'.size ∧ Z.Warmed39 (s.setVm T'.vm).vm ∧ (s.setVm T'.vm).vm.findClass own = some m.cls ∧
      Exa Z h' a "java/lang/String" ∧ Fld Z h' a "java/lang/String" "coder" "B" (.int 0) ∧ Fld Z h' a "java/lang/String" "value" "[B" (.ref b) ∧ Arv Z h' b k .byte 0 [] (.int 0) ∧ a < h'.size ∧ b < h'.size ∧ LS Z own i A T'.vm h' h'.size ∧ Lit (s.setVm T'.vm) own i a ∧
      ∀ target, Steps p.tables e below (T'.setTop { g with pc := g.pc + 2, stack := .ref a :: g.stack }) target → Steps p.tables e below (T.setTop g) target := by
  have X0 : Stand p l e R (s.setVm vm0) m args below meth c T [] cells slots := own_noL X hold
  obtain ⟨q0, Ts, I, ha, r⟩ := LL
  by_cases hnot : "" ∈ Ts
  · rcases r with r | ⟨a, b, k, r1, r2, r3, r4, r5, r6, r7⟩
    · exact absurd hnot r
    · have hW := X0.warmed
      refine ⟨a, T, h, k0, b, k, ?_, eT, ⟨Nat.le_refl _, fun _ _ q => q⟩, ?_, hk, State.Warmed39.trans (t := s.setVm vm0) hZ hW.wide, ?_, r4, r5, r6, r7, Nat.lt_of_lt_of_le r2 q0, Nat.lt_of_lt_of_le r3 q0, ⟨Nat.le_refl _, Ts, IB.same I hW.interned_eq, ha, Or.inr ⟨a, b, k, Lit.stays (s := s) (vm0 := vm0) r1 hW.wide, Nat.lt_of_lt_of_le r2 q0, Nat.lt_of_lt_of_le r3 q0, r4, r5, r6, r7⟩⟩, Lit.stays (s := s) (vm0 := vm0) r1 hW.wide, ldcAgain X hx hZ hown w r1 hg hd⟩
      · have := (X0.retabled hW.wide).more (cells' := cells + 2) (slots' := slots + 4) (Nat.le_add_right _ _) (Nat.le_add_right _ _)
        exact this
      · exact hS.trans (hW.since k0) (Nat.le_refl _)
      · show T.vm.findClass own = _
        rw [hW.alike.findClass]; exact hown
  · obtain ⟨a, T', h', k1, b, k, r1, r2, r3, r4, r5, r6, r7, r8, r9, r10, r11, r12, r13, r14, r15, r16⟩ := ldcSVL X0 hx hZ hown w wS eT hS hk (Fr.nil _) hkeep I hnot hh hcw (vs := []) (z := 0) ⟨fun _ q => by simp at q, rfl⟩ (by decide) (by decide) hg hd (n := 0) (by decide) (by decide) hc hl'
    exact ⟨a, T', h', k1, b, k, r1, r2, r3, r4, r5, r6, r7, r8, r9, r10, r11, r12, r13, ⟨Nat.le_refl _, _, r14, fun t q => (List.mem_cons.mp q).elim Or.inl (ha t), Or.inr ⟨a, b, k, r15, r12, r13, r8, r9, r10, r11⟩⟩, r15, r16⟩
end OwnLit
section OwnBack
variable {p : Program} {l : Launch} {e : Env} {R : Room} {s : State} {args : Array Value} {below : List Frame} {Z : State} {a0 : Array Value} {h : Heap}
/-- a callee that may intern, whose contract speaks of the tables too (Pv at its start, Q at its end) -/
theorem own_backV {y : MethodName} {bytes : ByteArray} {maxL : Nat} {ret : Option FieldType} {rm : Room} {len W : Nat} {as' : Array Value} {Pv : Vm → Prop} {Q : Option Value → Heap → Vm → List Loc → Prop}
    (hM : MetFree l y (head1 [Jvm.Cond.code y bytes maxL ret] rm) (fun a U => a = as' ∧ (Z.Warmed39 U.vm ∧ Pv U.vm) ∧ U.heap = h) (fun _ _ _ _ _ => True) (fun _ U o U' => ∃ v L, o = .returned v ∧ Q v U'.heap U'.vm L ∧ ReturnedEndW U o U' L rm.cells rm.slots))
    (hZ : Z.Warmed39 s.vm) (hv : ∀ vm', s.WarmedH vm' → Pv vm') (wc : (Jvm.Cond.code y bytes maxL ret).before a0 Z = true) (wz : (Jvm.Cond.initialized y.cls).before a0 Z = true) (hf : rm.frames + 1 ≤ R.frames) (hl : W + (maxL + 11) + rm.locals ≤ R.locals) :
    BackS l R p e below s args y len W (fun A a => a = as' ∧ A.U.heap = h ∧ A.cells + rm.cells ≤ R.cells ∧ A.slots + rm.slots ≤ R.slots)
      (fun A _ v B => ∃ L, Q v B.U.heap B.U.vm L ∧ B.locs = A.locs ++ L ∧ B.cells = A.cells + rm.cells ∧ B.slots = A.slots + rm.slots) := by
  refine BackS.of_freeW (bytes := bytes) (maxL := maxL) (ret := ret) (E := fun _ _ o t L k n => k = rm.cells ∧ n = rm.slots ∧ ∃ v, o = .returned v ∧ Q v t.heap t.vm L) hM hf hl ?_ ?_ (fun _ _ _ _ _ _ _ _ _ => trivial) ?_ ?_
  · intro m meth c A a Y hp
    have hU : Z.Warmed39 A.U.vm := wtrans hZ Y.warmed
    refine ⟨?_, mv hU wc, mv hU wz, hp.2.2.1, hp.2.2.2⟩
    show (Jvm.Cond.and _ .tt).before a A.U = true
    rw [Cond.before_and, mv hU wc]; rfl
  · exact fun m meth c A a g mk Y hp => ⟨hp.1, ⟨wtrans hZ Y.warmed, hv _ Y.warmed⟩, hp.2.1⟩
  · exact fun _ _ _ _ ⟨v, L, h1, h2, h3⟩ => ⟨L, _, _, h3, rfl, rfl, v, h1, h2⟩
  · intro m meth c A a g mk v t L k n Y hp _ _ hE
    obtain ⟨e1, e2, v', e3, e4⟩ := hE
    cases e3; subst e1 e2
    exact ⟨L, e4, rfl, rfl, rfl⟩
end OwnBack
section OwnRoot
variable {p : Program} {l : Launch} {e : Env} {R : Room} {s : State} {m : MethodId} {args : Array Value} {below : List Frame} {meth : Method} {c : Code} {T : State} {locs : List Loc} {cells slots : Nat} {Z : State} {a0 : Array Value} {h h' : Heap} {vm0 vm1 : Vm} {own : String} {index : Nat} {text : String} {Ts : List String}
/-- the start, with the heap and the slots of the state at hand -/
def Ro (s T : State) : State := { s with heap := T.heap, slotsUsed := T.slotsUsed }
theorem own_root0 (X : Stand p l e R s m args below meth c T locs cells slots) (hc : cells ≤ R.cells) (hl : slots ≤ R.slots) : Stand p l e { R with cells := R.cells - cells, slots := R.slots - slots } (Ro s T) m args below meth c T [] 0 0 := by
  have hb : T.slotsTrue = true := X.book
  have h1 := X.heapSize
  have h2 := X.used
  refine ⟨X.admits, X.cas, X.clock, X.frames, ?_, ?_, X.method, X.code, X.here, X.tail, X.warmed, X.limits, X.bytes, ?_⟩
  · have h := X.room
    simp only [State.hasRoom, Bool.and_eq_true, decide_eq_true_eq] at h ⊢
    obtain ⟨⟨⟨⟨g1, g2⟩, g3⟩, g4⟩, g5⟩ := h
    refine ⟨⟨⟨⟨g1, g2⟩, ?_⟩, ?_⟩, hb⟩
    · show T.heap.size + (R.cells - cells) ≤ _
      omega
    · show T.slotsUsed + (R.slots - slots) ≤ _
      omega
  · have h := X.hears
    cases hb : below with
    | nil => rw [hb] at h; exact h
    | cons f r => rw [hb] at h; cases f <;> exact h
  · have q := X.same.1
    refine ⟨?_, Nat.le_refl _, Nat.le_refl _, ?_, ?_, fun a cc hc => ⟨cc, hc, rfl, rfl, fun _ _ => rfl⟩⟩
    · exact q
    · show T.slotsUsed = T.slotsUsed + ((T.heap.toList.drop T.heap.size).map (·.slots.size)).sum
      rw [List.drop_of_length_le (by simp)]; rfl
    · show ((T.heap.toList.drop T.heap.size).map (·.slots.size)).sum ≤ 0
      rw [List.drop_of_length_le (by simp)]; exact Nat.le_refl _
theorem own_root (X : Stand p l e R s m args below meth c T locs cells slots) (hc : cells ≤ R.cells) (hl : slots ≤ R.slots) : Stand p l e { R with cells := R.cells - cells, slots := R.slots - slots } ((Ro (s.setVm T.vm) T).setVm T.vm) m args below meth c T [] 0 0 :=
  own_root0 (T := T) (X.retabled X.warmed.wide) hc hl
/-- 'ldc' of a text that was not loaded before: what it holds is known, whatever was written -/
theorem own_ldcR (X : Stand p l e R (s.setVm vm0) m args below meth c T locs cells slots) (hx : p.tables.exec = Jvm.exec) (hZ : Z.Warmed39 (s.setVm vm0).vm) (hown : (s.setVm vm0).vm.findClass own = some m.cls) (w : (Jvm.Cond.stringLink own index text).before a0 Z = true) (wS : ∀ a ∈ Bundle.stringAtoms, a.before a0 Z = true)
    (eT : T.heap = h) {k0 : Nat} (hS : s.Since vm0 k0) (hk : k0 ≤ h.size) (hkeep : ∀ (b : Addr) (cl : Cell), Z.heap[b]? = some cl → h[b]? = some cl) (I : IB Z vm0 Ts) (hnot : text ∉ Ts) (hh : Jvm.Lit.constHeld Z own index) (hcw : Jvm.Lit.compactW.before a0 Z = true)
    {vs : List Value} {z : Int32} (ht : (∀ c ∈ text.toList, c.toNat < 256) ∧ text.toList.map (fun c => Value.int (Jvm.Lit.byteI c.toNat.toUInt16)) = vs) (hz : ¬ z < 0) (hl : z.toNatClampNeg = vs.length)
    {g : JFrame} (hg : g.method = m) (hd : decode c.code g.pc = .ok (.ldc index, 2)) {n : Nat} (hn : 4 * text.toList.length ≤ n) (hbig : n ≤ 536870912) (hc : cells + 2 ≤ R.cells) (hl' : slots + (n + 4) ≤ R.slots) :
    ∃ (a : Addr) (T' : State) (h' : Heap) (k1 : Nat) (b : Addr) (k : ClassId), Stand p l e R (s.setVm T'.vm) m args below meth c T' locs (cells + 2) (slots + (n + 4)) ∧ T'.heap = h' ∧ Ext h h' ∧ s.Since T'.vm k1 ∧ k1 ≤ h'.size ∧ Z.Warmed39 (s.setVm T'.vm).vm ∧ (s.setVm T'.vm).vm.findClass own = some m.cls ∧
      Exa Z h' a "java/lang/String" ∧ Fld Z h' a "java/lang/String" "coder" "B" (.int 0) ∧ Fld Z h' a "java/lang/String" "value" "[B" (.ref b) ∧ Arv Z h' b k .byte z vs (.int 0) ∧ a < h'.size ∧ b < h'.size ∧ IB Z T'.vm (text :: Ts) ∧ Lit (s.setVm T'.vm) own index a ∧ (s.setVm vm0).Warmed39 T'.vm ∧
      ∀ target, Steps p.tables e below (T'.setTop { g with pc := g.pc + 2, stack := .ref a :: g.stack }) target → Steps p.tables e below (T.setTop g) target := by
  have hW := X.warmed
  have X0 := own_root X (Nat.le_trans (Nat.le_add_right _ _) hc) (Nat.le_trans (Nat.le_add_right _ _) hl')
  have hS0 : (Ro ((s.setVm vm0).setVm T.vm) T).Since T.vm 0 := ⟨State.Warmed39.refl _, fun j p q1 q2 => absurd (Array.getElem?_eq_some_iff.mp q2).1 (Nat.not_lt.mpr q1)⟩
  have hI : IB Z T.vm Ts := by
    obtain ⟨more, i1, i2⟩ := I
    exact ⟨more, hW.interned_eq.trans i1, i2⟩
  obtain ⟨a, T', h', k1, b, k, r1, r2, r3, r4, r5, r6, r7, r8, r9, r10, r11, r12, r13, r14, r15, r16⟩ := ldcSVL X0 hx (State.Warmed39.trans (t := s.setVm vm0) hZ hW.wide) (by rw [hW.alike.findClass]; exact hown) w wS eT hS0 (Nat.zero_le _) (Fr.nil _) (fun b cl q => by show T.heap[b]? = some cl; rw [eT]; exact hkeep b cl q) hI hnot hh hcw ht hz hl hg hd hn hbig (by show 0 + 2 ≤ R.cells - cells; omega) (by show 0 + (n + 4) ≤ R.slots - slots; omega)
  have q := r1.same
  have hT := X.same.1
  obtain ⟨X', hS'⟩ := X.movedW (T₂ := T') (l₂ := []) (c₂ := 2) (n₂ := n + 4) r1.here r1.tail (r1.limits.trans X.limits.symm) (r1.bytes.trans X.bytes.symm) r4.1 (r4.2.mono (by rw [r2]; exact r5)) (by
    obtain ⟨q1, q2, q3, q4, q5, q6⟩ := q
    refine ⟨?_, q2, ?_, q4, ?_, q6⟩
    · have e1 := congrArg (fun u : State => u.setVm T.vm) q1
      have e2 : T = ({ (s.setFrames T.frames) with heap := T.heap, slotsUsed := T.slotsUsed } : State).setVm T.vm := by
        have e0 := congrArg (fun u : State => u.setVm T.vm) hT
        exact e0
      have e3 : ∀ f, T.setFrames f = ({ (s.setFrames f) with heap := T.heap, slotsUsed := T.slotsUsed } : State).setVm T.vm := fun f => by
        have e4 := congrArg (fun u : State => u.setFrames f) e2
        have e5 : (({ (s.setFrames T.frames) with heap := T.heap, slotsUsed := T.slotsUsed } : State).setVm T.vm).setFrames f = ({ ((s.setFrames T.frames).setFrames f) with heap := T.heap, slotsUsed := T.slotsUsed } : State).setVm T.vm := rfl
        rw [State.setFrames_setFrames] at e5
        exact e4.trans e5
      show T'.setVm T.vm = { T.setFrames T'.frames with heap := T'.heap, slotsUsed := T'.slotsUsed }
      rw [e3]
      exact e1
    · rw [Nat.zero_add] at q3; exact q3
    · rw [Nat.zero_add] at q5; exact q5)
  rw [List.append_nil] at X'
  exact ⟨a, T', h', T'.heap.size, b, k, X', r2, r3, hS.trans hS' (Nat.le_trans hk (by rw [r2]; exact r3.1)), Nat.le_of_eq (by rw [r2]), r6, r7, r8, r9, r10, r11, r12, r13, r14, r15, hS'.1, r16⟩
end OwnRoot
section OwnText
variable {p : Program} {l : Launch} {e : Env} {R : Room} {s : State} {m : MethodId} {args : Array Value} {below : List Frame} {meth : Method} {c : Code} {T : State} {locs : List Loc} {cells slots : Nat} {Z : State} {a0 : Array Value} {h h' : Heap} {vm0 vm1 : Vm} {own own' : String} {i index N : Nat} {text : String} {A : List String}
/-- 'ldc' of a text that is not "" and not among A: what it holds is known -/
theorem own_ldcT (X : Stand p l e R (s.setVm vm0) m args below meth c T locs cells slots) (hx : p.tables.exec = Jvm.exec) (hZ : Z.Warmed39 (s.setVm vm0).vm) (hown : (s.setVm vm0).vm.findClass own' = some m.cls) (w : (Jvm.Cond.stringLink own' index text).before a0 Z = true) (wS : ∀ a ∈ Bundle.stringAtoms, a.before a0 Z = true)
    (eT : T.heap = h) {k0 : Nat} (hS : s.Since vm0 k0) (hk : k0 ≤ h.size) (hkeep : ∀ (b : Addr) (cl : Cell), Z.heap[b]? = some cl → h[b]? = some cl) (LL : LS Z own i A vm0 h N) (hn1 : text ≠ "") (hn2 : text ∉ A) (hh : Jvm.Lit.constHeld Z own' index) (hcw : Jvm.Lit.compactW.before a0 Z = true)
    {vs : List Value} {z : Int32} (ht : (∀ c ∈ text.toList, c.toNat < 256) ∧ text.toList.map (fun c => Value.int (Jvm.Lit.byteI c.toNat.toUInt16)) = vs) (hz : ¬ z < 0) (hl : z.toNatClampNeg = vs.length)
    {g : JFrame} (hg : g.method = m) (hd : decode c.code g.pc = .ok (.ldc index, 2)) {n : Nat} (hn : 4 * text.toList.length ≤ n) (hbig : n ≤ 536870912) (hc : cells + 2 ≤ R.cells) (hl' : slots + (n + 4) ≤ R.slots) :
    ∃ (a : Addr) (T' : State) (h' : Heap) (k1 : Nat) (b : Addr) (k : ClassId), Stand p l e R (s.setVm T'.vm) m args below meth c T' locs (cells + 2) (slots + (n + 4)) ∧ T'.heap = h' ∧ Ext h h' ∧ s.Since T'.vm k1 ∧ k1 ≤ h'.size ∧ Z.Warmed39 (s.setVm T'.vm).vm ∧ (s.setVm T'.vm).vm.findClass own' = some m.cls ∧
      Exa Z h' a "java/lang/String" ∧ Fld Z h' a "java/lang/String" "coder" "B" (.int 0) ∧ Fld Z h' a "java/lang/String" "value" "[B" (.ref b) ∧ Arv Z h' b k .byte z vs (.int 0) ∧ LS Z own i (text :: A) T'.vm h' N ∧
      ∀ target, Steps p.tables e below (T'.setTop { g with pc := g.pc + 2, stack := .ref a :: g.stack }) target → Steps p.tables e below (T.setTop g) target := by
  obtain ⟨q0, Ts, I, ha, r⟩ := LL
  have hnot : text ∉ Ts := fun q => (ha text q).elim hn1 hn2
  obtain ⟨a, T', h', k1, b, k, r1, r2, r3, r4, r5, r6, r7, r8, r9, r10, r11, r12, r13, r14, r15, rW, r16⟩ := own_ldcR X hx hZ hown w wS eT hS hk hkeep I hnot hh hcw ht hz hl hg hd hn hbig hc hl'
  refine ⟨a, T', h', k1, b, k, r1, r2, r3, r4, r5, r6, r7, r8, r9, r10, r11, ⟨Nat.le_trans q0 r3.1, _, r14, fun t q => ?_, ?_⟩, r16⟩
  · rcases List.mem_cons.mp q with rfl | q
    · exact Or.inr (List.mem_cons_self ..)
    · exact (ha t q).imp id (List.mem_cons_of_mem _)
  · rcases r with r | ⟨a', b', k', g1, g2, g3, g4, g5, g6, g7⟩
    · exact Or.inl fun q => (List.mem_cons.mp q).elim (fun z => hn1 z.symm) r
    · exact Or.inr ⟨a', b', k', Lit.stays (s := s) (vm0 := vm0) g1 rW, g2, g3, g4.ext r3, g5.ext r3, g6.ext r3, g7.ext r3⟩
end OwnText
theorem own_sat {Z : State} {a0 : Array Value} (hw : ∀ d ∈ tables_1, d.before a0 Z = true) : ∀ d ∈ Bundle.stringAtoms, d.before a0 Z = true := fun d hd => hw d ((by decide +kernel : ∀ d ∈ Bundle.stringAtoms, d ∈ tables_1) d hd)
theorem own_len {s : State} {args : Array Value} {t : Term} {a : Addr} {cl : Cell} {z : Int32} (ht : t.eval args s none [] s = some (.ref a)) (ha : s.arrayAt? a = some cl) (h : (Term.length t).eval args s none [] s = some (.int z)) : cl.slots.size < 2 ^ 31 ∧ cl.slots.size.toInt32 = z := by
  simp only [Term.eval, ht, ha, Option.bind_eq_bind, Option.bind_some] at h
  split at h
  · rename_i q; exact ⟨q, by simpa using h⟩
  · cases h
theorem own_idx {x : Int32} (h1 : ¬ (x < (-128 : Int32))) (h2 : ¬ ((127 : Int32) < x)) : ¬ (x + (128 : Int32)) < 0 ∧ (x + (128 : Int32)) < (256 : Int32) := by
  have a1 := c_iadd x 128
  have a2 := rng32 (x + 128)
  simp only [Int32.lt_iff_toInt_lt, show (-128 : Int32).toInt = -128 from by decide, show (127 : Int32).toInt = 127 from by decide, show (128 : Int32).toInt = 128 from by decide, show (256 : Int32).toInt = 256 from by decide, show (0 : Int32).toInt = 0 from by decide] at *
  omega
theorem d15_0 : decode jdk_18_method_1_code 0 = .ok (.aload_n 0, 1) := by decide +kernel
theorem d15_1 : decode jdk_18_method_1_code 1 = .ok (.invokespecial 1, 3) := by decide +kernel
theorem d15_4 : decode jdk_18_method_1_code 4 = .ok (.return_, 1) := by decide +kernel
theorem pn_java_lang_Number : plainName "java/lang/Number" = true := by first | (simp [plainName, overriddenIn]; done) | decide +kernel
theorem ef_numinit (m : MethodId) (a : Addr) : entryFrame m #[(.ref a)] 1 = mkF m 0 #[.val (.ref a)] [] := by first | (simp [entryFrame, mkF, argsToLocals, Value.category]; done) | rfl
def Q_numinit (Z : State) (zCS : Int32) (wcI : Addr) (ccI : Cell) (a : Addr) (h0 : Heap) (n0 : Nat) (vv_ : Option Value) (hh_ : Heap) (LL_ : List Loc) : Prop := vv_ = none ∧ (Fr n0 LL_) ∧ (hh_ = h0)
set_option maxRecDepth 65536 in
set_option maxHeartbeats 40000000 in
theorem numinit (l : Launch) (Z : State) (a0 : Array Value) (hw : ∀ d ∈ tables_1, d.before a0 Z = true) (ws : List Jvm.Cond) (zCS : Int32) (wcI : Addr) (ccI : Cell) (a : Addr) (h0 : Heap) (n0 : Nat) (O0 : Old Z n0 h0) (S_CS : Sta Z Z.heap "java/lang/String" "COMPACT_STRINGS" "Z" (.int zCS)) (hCS : ¬ (zCS = (0 : Int32))) (hcT0 : Jvm.Lit.constHeld Z "com/example/relayout/relayout/plan/Transfer" 7) (hcT1 : Jvm.Lit.constHeld Z "com/example/relayout/relayout/plan/Transfer" 22) (hcT2 : Jvm.Lit.constHeld Z "com/example/relayout/relayout/plan/Transfer" 26) (hcH : Jvm.Lit.constHeld Z "com/example/relayout/relayout/plan/TransferEqualsPinLaw" 7) (hcW : Jvm.Lit.compactW.before a0 Z = true) (S_cI : Sta Z Z.heap "java/lang/Integer$IntegerCache" "cache" "[Ljava/lang/Integer;" (.ref wcI)) (B_cI : Bxs Z wcI ccI "java/lang/Integer" "I" 256 (fun j => .int (j - 128))) (S_hi : Sta Z Z.heap "java/lang/Integer$IntegerCache" "high" "I" (.int (127 : Int32))) :
    MetFree l (⟨"java/lang/Number", "<init>", "()V"⟩ : MethodName) (head1 (Jvm.Cond.code (⟨"java/lang/Number", "<init>", "()V"⟩ : MethodName) jdk_18_method_1_code 1 none :: ws) ({ frames := 1, cells := 0, slots := 0, locals := 12 } : Room)) (fun aa_ U_ => aa_ = #[(.ref a)] ∧ Z.Warmed39 U_.vm ∧ U_.heap = h0) (fun _ _ _ _ _ => True) (fun _ U_ oo_ V_ => ∃ vv_ LL_, oo_ = .returned vv_ ∧ Q_numinit Z zCS wcI ccI a h0 n0 vv_ V_.heap LL_ ∧ FrameEnd U_ oo_ V_ LL_ ({ frames := 1, cells := 0, slots := 0, locals := 12 } : Room).cells ({ frames := 1, cells := 0, slots := 0, locals := 12 } : Room).slots) := by
  refine MetFree.of_bodySF (plainFor_of_name pn_java_lang_Number) hisR ?_
  intro p e s m args below meth c s₁ Bd hml0 hP hK
  obtain ⟨rfl, hZ, hh⟩ := hP
  have hx := Bd.exec
  have hby := Bd.bytes
  have hml : c.maxLocals = 1 := hml0
  have hown : s.vm.findClass "java/lang/Number" = some m.cls := findClass_of_methodNamed Bd.named
  have hnm := (name_of_methodNamed Bd.named Bd.method).1
  have X0 : Stand p l e ({ frames := 1, cells := 0, slots := 0, locals := 12 } : Room) s m #[(.ref a)] below meth c s₁ [] 0 0 := Stand.of_body Bd
  have e0 : s₁.heap = h0 := by rw [← hh, Bd.state]; rfl
  have N0 := Fr.nil n0
  have Z0 : n0 ≤ h0.size := O0.1 ▸ O0.2.1
  have hk0 := Nat.zero_le h0.size
  have K0 : Keep h0 h0 [] := Keep.refl _ _
  have R0 : ∀ t, Steps p.tables e below (s₁.setTop (mkF m 0 #[.val (.ref a)] [])) t → Steps p.tables e below (s₁.setTop (entryFrame m #[(.ref a)] 1)) t := fun t k => castTop (ef_numinit m a) k
  obtain ⟨T1, X1, e1, st1⟩ := initO X0 hx hZ hown (hw _ (List.mem_of_getElem? (i := 96) rfl)) (hw _ (List.mem_of_getElem? (i := 27) rfl)) (hw _ (List.mem_of_getElem? (i := 28) rfl)) e0 (g := (mkF m 1 #[.val (.ref a)] [(.ref a)])) rfl (by rw [hml]; rfl) rfl (hb hby d15_1) (by decide) (W := 0) (by show 2 * 0 + _ ≤ _; exact Nat.le_of_eq rfl) (by decide)
  have R2 : ∀ t, Steps p.tables e below (T1.setTop (mkF m 4 #[.val (.ref a)] [])) t → Steps p.tables e below (s₁.setTop (entryFrame m #[(.ref a)] 1)) t := by
    intro t k
    refine R0 t ?_
    show Steps p.tables e below (s₁.setTop (mkF m 0 #[.val (.ref a)] [])) t
    refine XS.aloadN X0.here hx rfl (hb hby d15_0) rfl rfl ?_
    show Steps p.tables e below (s₁.setTop (mkF m 1 #[.val (.ref a)] [(.ref a)])) t
    refine st1 _ ?_
    exact k
  obtain ⟨fs, hr, hrun, hended, hW, hsame⟩ := X1.leave (v := none) (fun _ => rfl)
  refine ⟨_, _, R2 _ ?_, hrun, hended, _, _, rfl, ?_, ⟨_, rfl⟩, hW, hsame.mono (by decide) (by decide)⟩
  · show Steps p.tables e below (T1.setTop (mkF m 4 #[.val (.ref a)] [])) _
    exact X1.returnOut hx Bd.returns (hb hby d15_4) hr
  · show Q_numinit Z zCS wcI ccI a h0 n0 _ T1.heap _
    rw [e1]
    exact ⟨rfl, N0, rfl⟩
theorem d14_0 : decode jdk_33_method_23_code 0 = .ok (.aload_n 0, 1) := by decide +kernel
theorem pd_0 : parseMethodDescriptor "()V" = some ⟨[], none⟩ := by decide +kernel
theorem d14_1 : decode jdk_33_method_23_code 1 = .ok (.invokespecial 202, 3) := by decide +kernel
theorem d14_4 : decode jdk_33_method_23_code 4 = .ok (.aload_n 0, 1) := by decide +kernel
theorem d14_5 : decode jdk_33_method_23_code 5 = .ok (.iload_n 1, 1) := by decide +kernel
theorem d14_6 : decode jdk_33_method_23_code 6 = .ok (.putfield 205, 3) := by decide +kernel
theorem d14_9 : decode jdk_33_method_23_code 9 = .ok (.return_, 1) := by decide +kernel
theorem pn_java_lang_Integer : plainName "java/lang/Integer" = true := by first | (simp [plainName, overriddenIn]; done) | decide +kernel
theorem ef_boxinitI (m : MethodId) (a : Addr) (x : Int32) (u1 : Value) : entryFrame m #[(.ref a), (.int x)] 2 = mkF m 0 #[.val (.ref a), .val (.int x)] [] := by first | (simp [entryFrame, mkF, argsToLocals, Value.category]; done) | rfl
def Q_boxinitI (Z : State) (zCS : Int32) (wcI : Addr) (ccI : Cell) (a : Addr) (x : Int32) (u1 : Value) (h0 : Heap) (n0 : Nat) (vv_ : Option Value) (hh_ : Heap) (LL_ : List Loc) : Prop := vv_ = none ∧ (Fr n0 LL_) ∧ (Keep h0 hh_ [a]) ∧ (Exa Z hh_ a "java/lang/Integer") ∧ (Fld Z hh_ a "java/lang/Integer" "value" "I" (.int x))
set_option maxRecDepth 65536 in
set_option maxHeartbeats 40000000 in
theorem boxinitI (l : Launch) (Z : State) (a0 : Array Value) (hw : ∀ d ∈ tables_1, d.before a0 Z = true) (ws : List Jvm.Cond) (zCS : Int32) (wcI : Addr) (ccI : Cell) (a : Addr) (x : Int32) (u1 : Value) (h0 : Heap) (n0 : Nat) (O0 : Old Z n0 h0) (S_CS : Sta Z Z.heap "java/lang/String" "COMPACT_STRINGS" "Z" (.int zCS)) (hCS : ¬ (zCS = (0 : Int32))) (hcT0 : Jvm.Lit.constHeld Z "com/example/relayout/relayout/plan/Transfer" 7) (hcT1 : Jvm.Lit.constHeld Z "com/example/relayout/relayout/plan/Transfer" 22) (hcT2 : Jvm.Lit.constHeld Z "com/example/relayout/relayout/plan/Transfer" 26) (hcH : Jvm.Lit.constHeld Z "com/example/relayout/relayout/plan/TransferEqualsPinLaw" 7) (hcW : Jvm.Lit.compactW.before a0 Z = true) (S_cI : Sta Z Z.heap "java/lang/Integer$IntegerCache" "cache" "[Ljava/lang/Integer;" (.ref wcI)) (B_cI : Bxs Z wcI ccI "java/lang/Integer" "I" 256 (fun j => .int (j - 128))) (S_hi : Sta Z Z.heap "java/lang/Integer$IntegerCache" "high" "I" (.int (127 : Int32))) (g_a : n0 ≤ a) (Ea : Exa Z h0 a "java/lang/Integer") (Fa : Fld Z h0 a "java/lang/Integer" "value" "I" u1) :
    MetFree l (⟨"java/lang/Integer", "<init>", "(I)V"⟩ : MethodName) (head1 (Jvm.Cond.code (⟨"java/lang/Integer", "<init>", "(I)V"⟩ : MethodName) jdk_33_method_23_code 2 none :: ws) ({ frames := 2, cells := 0, slots := 0, locals := 24 } : Room)) (fun aa_ U_ => aa_ = #[(.ref a), (.int x)] ∧ Z.Warmed39 U_.vm ∧ U_.heap = h0) (fun _ _ _ _ _ => True) (fun _ U_ oo_ V_ => ∃ vv_ LL_, oo_ = .returned vv_ ∧ Q_boxinitI Z zCS wcI ccI a x u1 h0 n0 vv_ V_.heap LL_ ∧ FrameEnd U_ oo_ V_ LL_ ({ frames := 2, cells := 0, slots := 0, locals := 24 } : Room).cells ({ frames := 2, cells := 0, slots := 0, locals := 24 } : Room).slots) := by
  refine MetFree.of_bodySF (plainFor_of_name pn_java_lang_Integer) hisR ?_
  intro p e s m args below meth c s₁ Bd hml0 hP hK
  obtain ⟨rfl, hZ, hh⟩ := hP
  have hx := Bd.exec
  have hby := Bd.bytes
  have hml : c.maxLocals = 2 := hml0
  have hown : s.vm.findClass "java/lang/Integer" = some m.cls := findClass_of_methodNamed Bd.named
  have hnm := (name_of_methodNamed Bd.named Bd.method).1
  have X0 : Stand p l e ({ frames := 2, cells := 0, slots := 0, locals := 24 } : Room) s m #[(.ref a), (.int x)] below meth c s₁ [] 0 0 := Stand.of_body Bd
  have e0 : s₁.heap = h0 := by rw [← hh, Bd.state]; rfl
  have N0 := Fr.nil n0
  have Z0 : n0 ≤ h0.size := O0.1 ▸ O0.2.1
  have hk0 := Nat.zero_le h0.size
  have K0 : Keep h0 h0 [a] := Keep.refl _ _
  have R0 : ∀ t, Steps p.tables e below (s₁.setTop (mkF m 0 #[.val (.ref a), .val (.int x)] [])) t → Steps p.tables e below (s₁.setTop (entryFrame m #[(.ref a), (.int x)] 2)) t := fun t k => castTop (ef_boxinitI m a x u1) k
  obtain ⟨_, _, ⟨T1, L1, k1, n1⟩, -, X1, ⟨Lc1, hQ1, cl_1, cy_1, cz_1⟩, st1⟩ := X0.specialBack hx (y := (⟨"java/lang/Number", "<init>", "()V"⟩ : MethodName)) rfl hown (mvT hZ (hw _ (List.mem_of_getElem? (i := 90) rfl))) (mvT hZ (hw _ (List.mem_of_getElem? (i := 91) rfl))) (mvT hZ (hw _ (List.mem_of_getElem? (i := 95) rfl))) (by decide) (backOf (W := 0) (numinit l Z a0 hw [] zCS wcI ccI a h0 n0 O0 S_CS hCS hcT0 hcT1 hcT2 hcH hcW S_cI B_cI S_hi   ) hZ (hw _ (List.mem_of_getElem? (i := 95) rfl)) (hw _ (List.mem_of_getElem? (i := 94) rfl)) (by decide) (by decide)) (g := (mkF m 1 #[.val (.ref a), .val (.int x)] [(.ref a)])) rfl (by rw [hml]; rfl) (Steps.refl _) (a := a) (argsL := []) (rest := []) (lenOf pd_0 rfl) rfl (by show 2 * 0 + _ ≤ _; exact Nat.le_of_eq rfl) (hb hby d14_1) (fun _ _ => ⟨rfl, e0, (by decide : 0 + 0 ≤ _), (by decide : 0 + 0 ≤ _)⟩)
  dsimp only [Pt.U, Pt.locs, Pt.cells, Pt.slots] at X1 cl_1 cy_1 cz_1 st1 hQ1
  rw [cl_1, cy_1, cz_1] at X1
  obtain ⟨rfl, N1q, e1⟩ := hQ1
  have N1 := Fr.app N0 N1q
  obtain ⟨T2, h2, X2, e2, W2, st2⟩ := putF X1 hx hZ hown (host := "") (Or.inl (hw _ (List.mem_of_getElem? (i := 97) rfl))) Via.refl e1 Fa Ea (Or.inr ⟨(hw _ (List.mem_of_getElem? (i := 98) rfl)), rfl, hnm⟩) (hw _ (List.mem_of_getElem? (i := 85) rfl)) (ty := .int) (by decide) rfl rfl (g := (mkF m 6 #[.val (.ref a), .val (.int x)] [(.int x), (.ref a)])) rfl rfl (hb hby d14_6)
  have Z2 : n0 ≤ h2.size := Nat.le_trans Z0 (Keep.of_wr W2).1
  have K2 : Keep h0 h2 [a] := K0.wr W2 (Or.inl (List.mem_of_getElem? (i := 0) rfl))
  have O2 : Old Z n0 h2 := O0.wr W2 g_a
  have N2 := Fr.snoc X2 N1 g_a
  have fw2 : Fld Z h2 a "java/lang/Integer" "value" "I" (.int x) := Fa.same W2
  have R3 : ∀ t, Steps p.tables e below (T2.setTop (mkF m 9 #[.val (.ref a), .val (.int x)] [])) t → Steps p.tables e below (s₁.setTop (entryFrame m #[(.ref a), (.int x)] 2)) t := by
    intro t k
    refine R0 t ?_
    show Steps p.tables e below (s₁.setTop (mkF m 0 #[.val (.ref a), .val (.int x)] [])) t
    refine XS.aloadN X0.here hx rfl (hb hby d14_0) rfl rfl ?_
    show Steps p.tables e below (s₁.setTop (mkF m 1 #[.val (.ref a), .val (.int x)] [(.ref a)])) t
    refine st1.trans ?_
    show Steps p.tables e below (T1.setTop (mkF m 4 #[.val (.ref a), .val (.int x)] [])) t
    refine XS.aloadN X1.here hx rfl (hb hby d14_4) rfl rfl ?_
    show Steps p.tables e below (T1.setTop (mkF m 5 #[.val (.ref a), .val (.int x)] [(.ref a)])) t
    refine XS.iloadN X1.here hx rfl (hb hby d14_5) rfl ?_
    show Steps p.tables e below (T1.setTop (mkF m 6 #[.val (.ref a), .val (.int x)] [(.int x), (.ref a)])) t
    refine st2 _ ?_
    exact k
  have f4 : Exa Z h2 a "java/lang/Integer" := (Ea.wr W2)
  obtain ⟨fs, hr, hrun, hended, hW, hsame⟩ := X2.leave (v := none) (fun _ => rfl)
  refine ⟨_, _, R3 _ ?_, hrun, hended, _, _, rfl, ?_, ⟨_, rfl⟩, hW, hsame.mono (by decide) (by decide)⟩
  · show Steps p.tables e below (T2.setTop (mkF m 9 #[.val (.ref a), .val (.int x)] [])) _
    exact X2.returnOut hx Bd.returns (hb hby d14_9) hr
  · show Q_boxinitI Z zCS wcI ccI a x u1 h0 n0 _ T2.heap _
    rw [e2]
    exact ⟨rfl, N2, K2, f4, fw2⟩
theorem d9_0 : decode jdk_33_method_22_code 0 = .ok (.iload_n 0, 1) := by decide +kernel
theorem d9_1 : decode jdk_33_method_22_code 1 = .ok (.bipush (-128), 2) := by decide +kernel
theorem d9_3 : decode jdk_33_method_22_code 3 = .ok (.if_icmp .lt 20, 3) := by decide +kernel
theorem d9_23 : decode jdk_33_method_22_code 23 = .ok (.new 1, 3) := by decide +kernel
theorem d9_26 : decode jdk_33_method_22_code 26 = .ok (.dup, 1) := by decide +kernel
theorem d9_27 : decode jdk_33_method_22_code 27 = .ok (.iload_n 0, 1) := by decide +kernel
theorem pd_1 : parseMethodDescriptor "(I)V" = some ⟨[.int], none⟩ := by decide +kernel
theorem d9_28 : decode jdk_33_method_22_code 28 = .ok (.invokespecial 199, 3) := by decide +kernel
theorem d9_31 : decode jdk_33_method_22_code 31 = .ok (.areturn, 1) := by decide +kernel
theorem d9_6 : decode jdk_33_method_22_code 6 = .ok (.iload_n 0, 1) := by decide +kernel
theorem d9_7 : decode jdk_33_method_22_code 7 = .ok (.getstatic 191, 3) := by decide +kernel
theorem d9_10 : decode jdk_33_method_22_code 10 = .ok (.if_icmp .gt 13, 3) := by decide +kernel
theorem d9_13 : decode jdk_33_method_22_code 13 = .ok (.getstatic 195, 3) := by decide +kernel
theorem d9_16 : decode jdk_33_method_22_code 16 = .ok (.iload_n 0, 1) := by decide +kernel
theorem d9_17 : decode jdk_33_method_22_code 17 = .ok (.sipush 128, 3) := by decide +kernel
theorem d9_20 : decode jdk_33_method_22_code 20 = .ok (.iadd, 1) := by decide +kernel
theorem d9_21 : decode jdk_33_method_22_code 21 = .ok (.aaload, 1) := by decide +kernel
theorem d9_22 : decode jdk_33_method_22_code 22 = .ok (.areturn, 1) := by decide +kernel
theorem ef_valueOfI (m : MethodId) (x : Int32) : entryFrame m #[(.int x)] 1 = mkF m 0 #[.val (.int x)] [] := by first | (simp [entryFrame, mkF, argsToLocals, Value.category]; done) | rfl
def Q_valueOfI (Z : State) (zCS : Int32) (wcI : Addr) (ccI : Cell) (x : Int32) (h0 : Heap) (n0 : Nat) (vv_ : Option Value) (hh_ : Heap) (LL_ : List Loc) : Prop := ∃ (b : Addr), vv_ = some (.ref b) ∧ (Fr n0 LL_) ∧ (Keep h0 hh_ []) ∧ (Exa Z hh_ b "java/lang/Integer")
set_option maxRecDepth 65536 in
set_option maxHeartbeats 40000000 in
theorem valueOfI (l : Launch) (Z : State) (a0 : Array Value) (hw : ∀ d ∈ tables_1, d.before a0 Z = true) (ws : List Jvm.Cond) (zCS : Int32) (wcI : Addr) (ccI : Cell) (x : Int32) (h0 : Heap) (n0 : Nat) (O0 : Old Z n0 h0) (S_CS : Sta Z Z.heap "java/lang/String" "COMPACT_STRINGS" "Z" (.int zCS)) (hCS : ¬ (zCS = (0 : Int32))) (hcT0 : Jvm.Lit.constHeld Z "com/example/relayout/relayout/plan/Transfer" 7) (hcT1 : Jvm.Lit.constHeld Z "com/example/relayout/relayout/plan/Transfer" 22) (hcT2 : Jvm.Lit.constHeld Z "com/example/relayout/relayout/plan/Transfer" 26) (hcH : Jvm.Lit.constHeld Z "com/example/relayout/relayout/plan/TransferEqualsPinLaw" 7) (hcW : Jvm.Lit.compactW.before a0 Z = true) (S_cI : Sta Z Z.heap "java/lang/Integer$IntegerCache" "cache" "[Ljava/lang/Integer;" (.ref wcI)) (B_cI : Bxs Z wcI ccI "java/lang/Integer" "I" 256 (fun j => .int (j - 128))) (S_hi : Sta Z Z.heap "java/lang/Integer$IntegerCache" "high" "I" (.int (127 : Int32))) :
    MetFree l (⟨"java/lang/Integer", "valueOf", "(I)Ljava/lang/Integer;"⟩ : MethodName) (head1 (Jvm.Cond.code (⟨"java/lang/Integer", "valueOf", "(I)Ljava/lang/Integer;"⟩ : MethodName) jdk_33_method_22_code 1 (some (.object "java/lang/Integer")) :: ws) ({ frames := 3, cells := 1, slots := 1, locals := 38 } : Room)) (fun aa_ U_ => aa_ = #[(.int x)] ∧ Z.Warmed39 U_.vm ∧ U_.heap = h0) (fun _ _ _ _ _ => True) (fun _ U_ oo_ V_ => ∃ vv_ LL_, oo_ = .returned vv_ ∧ Q_valueOfI Z zCS wcI ccI x h0 n0 vv_ V_.heap LL_ ∧ FrameEnd U_ oo_ V_ LL_ ({ frames := 3, cells := 1, slots := 1, locals := 38 } : Room).cells ({ frames := 3, cells := 1, slots := 1, locals := 38 } : Room).slots) := by
  refine MetFree.of_bodySF (plainFor_of_name pn_java_lang_Integer) hisR ?_
  intro p e s m args below meth c s₁ Bd hml0 hP hK
  obtain ⟨rfl, hZ, hh⟩ := hP
  have hx := Bd.exec
  have hby := Bd.bytes
  have hml : c.maxLocals = 1 := hml0
  have hown : s.vm.findClass "java/lang/Integer" = some m.cls := findClass_of_methodNamed Bd.named
  have hnm := (name_of_methodNamed Bd.named Bd.method).1
  have X0 : Stand p l e ({ frames := 3, cells := 1, slots := 1, locals := 38 } : Room) s m #[(.int x)] below meth c s₁ [] 0 0 := Stand.of_body Bd
  have e0 : s₁.heap = h0 := by rw [← hh, Bd.state]; rfl
  have N0 := Fr.nil n0
  have Z0 : n0 ≤ h0.size := O0.1 ▸ O0.2.1
  have hk0 := Nat.zero_le h0.size
  have K0 : Keep h0 h0 [] := Keep.refl _ _
  have R0 : ∀ t, Steps p.tables e below (s₁.setTop (mkF m 0 #[.val (.int x)] [])) t → Steps p.tables e below (s₁.setTop (entryFrame m #[(.int x)] 1)) t := fun t k => castTop (ef_valueOfI m x) k
  have R1 : ∀ t, Steps p.tables e below (s₁.setTop (mkF m 3 #[.val (.int x)] [(.int (-128 : Int32)), (.int x)])) t → Steps p.tables e below (s₁.setTop (entryFrame m #[(.int x)] 1)) t := by
    intro t k
    refine R0 t ?_
    show Steps p.tables e below (s₁.setTop (mkF m 0 #[.val (.int x)] [])) t
    refine XS.iloadN X0.here hx rfl (hb hby d9_0) rfl ?_
    show Steps p.tables e below (s₁.setTop (mkF m 1 #[.val (.int x)] [(.int x)])) t
    refine XS.bipush X0.here hx rfl (hb hby d9_1) ?_
    exact k
  by_cases hlo : x < (-128 : Int32)
  · obtain ⟨T2, h2, X2, e2, E2, A2, D2, -, st2⟩ := newO X0 hx hZ hown (hw _ (List.mem_of_getElem? (i := 84) rfl)) (hw _ (List.mem_of_getElem? (i := 85) rfl)) (hw _ (List.mem_of_getElem? (i := 55) rfl)) e0 (g := (mkF m 23 #[.val (.int x)] [])) rfl (hb hby d9_23) (by decide) (by decide)
    obtain ⟨b2, gg2⟩ : ∃ z, z = h0.size := ⟨_, rfl⟩
    rw [← gg2] at A2 D2 st2
    have g_b2 : n0 ≤ b2 := Nat.le_trans Z0 (Nat.le_of_eq gg2.symm)
    have sz_b2 : h0.size ≤ b2 := Nat.le_trans K0.1 (Nat.le_of_eq gg2.symm)
    have Z2 : n0 ≤ h2.size := Nat.le_trans Z0 E2.1
    have K2 : Keep h0 h2 [] := K0.ext E2
    have O2 : Old Z n0 h2 := O0.ext E2
    have F2_value : Fld Z h2 b2 "java/lang/Integer" "value" "I" (.int (0 : Int32)) := D2 (Or.inr (hw _ (List.mem_of_getElem? (i := 98) rfl))) (ty := .int) (by decide)
    obtain ⟨_, _, ⟨T3, L3, k3, n3⟩, -, X3, ⟨Lc3, hQ3, cl_3, cy_3, cz_3⟩, st3⟩ := X2.specialBack hx (y := (⟨"java/lang/Integer", "<init>", "(I)V"⟩ : MethodName)) rfl hown (mvT hZ (hw _ (List.mem_of_getElem? (i := 86) rfl))) (mvT hZ (hw _ (List.mem_of_getElem? (i := 87) rfl))) (mvT hZ (hw _ (List.mem_of_getElem? (i := 89) rfl))) (by decide) (backOf (W := 1) (boxinitI l Z a0 hw [] zCS wcI ccI b2 x (.int (0 : Int32)) h2 n0 O2 S_CS hCS hcT0 hcT1 hcT2 hcH hcW S_cI B_cI S_hi g_b2  A2 F2_value) hZ (hw _ (List.mem_of_getElem? (i := 89) rfl)) (hw _ (List.mem_of_getElem? (i := 55) rfl)) (by decide) (by decide)) (g := (mkF m 28 #[.val (.int x)] [(.int x), (.ref b2), (.ref b2)])) rfl (by rw [hml]; rfl) (Steps.refl _) (a := b2) (argsL := [(.int x)]) (rest := [(.ref b2)]) (lenOf pd_1 rfl) rfl (by show 2 * 0 + _ ≤ _; exact Nat.le_of_eq rfl) (hb hby d9_28) (fun _ _ => ⟨rfl, e2, (by decide : 1 + 0 ≤ _), (by decide : 1 + 0 ≤ _)⟩)
    dsimp only [Pt.U, Pt.locs, Pt.cells, Pt.slots] at X3 cl_3 cy_3 cz_3 st3 hQ3
    rw [cl_3, cy_3, cz_3] at X3
    obtain ⟨rfl, N3q, K3q, y3_0, y3_1⟩ := hQ3
    have N3 := Fr.app N0 N3q
    have Z3 : n0 ≤ T3.heap.size := Nat.le_trans Z2 K3q.1
    have K3 : Keep h0 T3.heap [] := K2.trans K3q (allS (Or.inr sz_b2) all0)
    have O3 : Old Z n0 T3.heap := O2.keep K3q (allS g_b2 all0)
    have R4 : ∀ t, Steps p.tables e below (T3.setTop (mkF m 31 #[.val (.int x)] [(.ref b2)])) t → Steps p.tables e below (s₁.setTop (entryFrame m #[(.int x)] 1)) t := by
      intro t k
      refine R1 t ?_
      show Steps p.tables e below (s₁.setTop (mkF m 3 #[.val (.int x)] [(.int (-128 : Int32)), (.int x)])) t
      refine XS.icmpYes X0.here hx rfl (pc0 := 3) (pc' := 23) rfl (hb hby d9_3) rfl (tlt (hlo : x < (-128 : Int32))).1 (by decide) (by decide) ?_
      show Steps p.tables e below (s₁.setTop (mkF m 23 #[.val (.int x)] [])) t
      refine st2 _ ?_
      show Steps p.tables e below (T2.setTop (mkF m 26 #[.val (.int x)] [(.ref b2)])) t
      refine XS.dup X2.here hx rfl (hb hby d9_26) rfl rfl ?_
      show Steps p.tables e below (T2.setTop (mkF m 27 #[.val (.int x)] [(.ref b2), (.ref b2)])) t
      refine XS.iloadN X2.here hx rfl (hb hby d9_27) rfl ?_
      show Steps p.tables e below (T2.setTop (mkF m 28 #[.val (.int x)] [(.int x), (.ref b2), (.ref b2)])) t
      refine st3.trans ?_
      exact k
    obtain ⟨fs, hr, hrun, hended, hW, hsame⟩ := X3.leave (v := some (.ref b2)) (fun h => by rw [Bd.returns] at h; cases h)
    refine ⟨_, _, R4 _ ?_, hrun, hended, _, _, rfl, ?_, ⟨_, rfl⟩, hW, hsame.mono (by decide) (by decide)⟩
    · show Steps p.tables e below (T3.setTop (mkF m 31 #[.val (.int x)] [(.ref b2)])) _
      exact retOut X3 hx Bd.returns rfl (Or.inr (Or.inr (Or.inr (Or.inr ⟨rfl, rfl, rfl⟩)))) (hb hby d9_31) hr
    · show Q_valueOfI Z zCS wcI ccI x h0 n0 _ T3.heap _
      exact ⟨b2, rfl, N3, K3, y3_0⟩
  · obtain ⟨T5, X5, e5, st5⟩ := getS2 X0 hx hZ hown (host := "") (Or.inl (hw _ (List.mem_of_getElem? (i := 57) rfl))) Via.refl e0 (S_hi.ext O0.2) (g := (mkF m 7 #[.val (.int x)] [(.int x)])) rfl (hb hby d9_7)
    have R6 : ∀ t, Steps p.tables e below (T5.setTop (mkF m 10 #[.val (.int x)] [(.int (127 : Int32)), (.int x)])) t → Steps p.tables e below (s₁.setTop (entryFrame m #[(.int x)] 1)) t := by
      intro t k
      refine R1 t ?_
      show Steps p.tables e below (s₁.setTop (mkF m 3 #[.val (.int x)] [(.int (-128 : Int32)), (.int x)])) t
      refine XS.icmpNo X0.here hx rfl (hb hby d9_3) rfl (flt (hlo : ¬ (x < (-128 : Int32)))).1 ?_
      show Steps p.tables e below (s₁.setTop (mkF m 6 #[.val (.int x)] [])) t
      refine XS.iloadN X0.here hx rfl (hb hby d9_6) rfl ?_
      show Steps p.tables e below (s₁.setTop (mkF m 7 #[.val (.int x)] [(.int x)])) t
      refine st5 _ ?_
      exact k
    by_cases hhi : (127 : Int32) < x
    · obtain ⟨T7, h7, X7, e7, E7, A7, D7, -, st7⟩ := newO X5 hx hZ hown (hw _ (List.mem_of_getElem? (i := 84) rfl)) (hw _ (List.mem_of_getElem? (i := 85) rfl)) (hw _ (List.mem_of_getElem? (i := 55) rfl)) e5 (g := (mkF m 23 #[.val (.int x)] [])) rfl (hb hby d9_23) (by decide) (by decide)
      obtain ⟨b7, gg7⟩ : ∃ z, z = h0.size := ⟨_, rfl⟩
      rw [← gg7] at A7 D7 st7
      have g_b7 : n0 ≤ b7 := Nat.le_trans Z0 (Nat.le_of_eq gg7.symm)
      have sz_b7 : h0.size ≤ b7 := Nat.le_trans K0.1 (Nat.le_of_eq gg7.symm)
      have Z7 : n0 ≤ h7.size := Nat.le_trans Z0 E7.1
      have K7 : Keep h0 h7 [] := K0.ext E7
      have O7 : Old Z n0 h7 := O0.ext E7
      have F7_value : Fld Z h7 b7 "java/lang/Integer" "value" "I" (.int (0 : Int32)) := D7 (Or.inr (hw _ (List.mem_of_getElem? (i := 98) rfl))) (ty := .int) (by decide)
      obtain ⟨_, _, ⟨T8, L8, k8, n8⟩, -, X8, ⟨Lc8, hQ8, cl_8, cy_8, cz_8⟩, st8⟩ := X7.specialBack hx (y := (⟨"java/lang/Integer", "<init>", "(I)V"⟩ : MethodName)) rfl hown (mvT hZ (hw _ (List.mem_of_getElem? (i := 86) rfl))) (mvT hZ (hw _ (List.mem_of_getElem? (i := 87) rfl))) (mvT hZ (hw _ (List.mem_of_getElem? (i := 89) rfl))) (by decide) (backOf (W := 1) (boxinitI l Z a0 hw [] zCS wcI ccI b7 x (.int (0 : Int32)) h7 n0 O7 S_CS hCS hcT0 hcT1 hcT2 hcH hcW S_cI B_cI S_hi g_b7  A7 F7_value) hZ (hw _ (List.mem_of_getElem? (i := 89) rfl)) (hw _ (List.mem_of_getElem? (i := 55) rfl)) (by decide) (by decide)) (g := (mkF m 28 #[.val (.int x)] [(.int x), (.ref b7), (.ref b7)])) rfl (by rw [hml]; rfl) (Steps.refl _) (a := b7) (argsL := [(.int x)]) (rest := [(.ref b7)]) (lenOf pd_1 rfl) rfl (by show 2 * 0 + _ ≤ _; exact Nat.le_of_eq rfl) (hb hby d9_28) (fun _ _ => ⟨rfl, e7, (by decide : 1 + 0 ≤ _), (by decide : 1 + 0 ≤ _)⟩)
      dsimp only [Pt.U, Pt.locs, Pt.cells, Pt.slots] at X8 cl_8 cy_8 cz_8 st8 hQ8
      rw [cl_8, cy_8, cz_8] at X8
      obtain ⟨rfl, N8q, K8q, y8_0, y8_1⟩ := hQ8
      have N8 := Fr.app N0 N8q
      have Z8 : n0 ≤ T8.heap.size := Nat.le_trans Z7 K8q.1
      have K8 : Keep h0 T8.heap [] := K7.trans K8q (allS (Or.inr sz_b7) all0)
      have O8 : Old Z n0 T8.heap := O7.keep K8q (allS g_b7 all0)
      have R9 : ∀ t, Steps p.tables e below (T8.setTop (mkF m 31 #[.val (.int x)] [(.ref b7)])) t → Steps p.tables e below (s₁.setTop (entryFrame m #[(.int x)] 1)) t := by
        intro t k
        refine R6 t ?_
        show Steps p.tables e below (T5.setTop (mkF m 10 #[.val (.int x)] [(.int (127 : Int32)), (.int x)])) t
        refine XS.icmpYes X5.here hx rfl (pc0 := 10) (pc' := 23) rfl (hb hby d9_10) rfl (tlt (hhi : (127 : Int32) < x)).2.2.1 (by decide) (by decide) ?_
        show Steps p.tables e below (T5.setTop (mkF m 23 #[.val (.int x)] [])) t
        refine st7 _ ?_
        show Steps p.tables e below (T7.setTop (mkF m 26 #[.val (.int x)] [(.ref b7)])) t
        refine XS.dup X7.here hx rfl (hb hby d9_26) rfl rfl ?_
        show Steps p.tables e below (T7.setTop (mkF m 27 #[.val (.int x)] [(.ref b7), (.ref b7)])) t
        refine XS.iloadN X7.here hx rfl (hb hby d9_27) rfl ?_
        show Steps p.tables e below (T7.setTop (mkF m 28 #[.val (.int x)] [(.int x), (.ref b7), (.ref b7)])) t
        refine st8.trans ?_
        exact k
      obtain ⟨fs, hr, hrun, hended, hW, hsame⟩ := X8.leave (v := some (.ref b7)) (fun h => by rw [Bd.returns] at h; cases h)
      refine ⟨_, _, R9 _ ?_, hrun, hended, _, _, rfl, ?_, ⟨_, rfl⟩, hW, hsame.mono (by decide) (by decide)⟩
      · show Steps p.tables e below (T8.setTop (mkF m 31 #[.val (.int x)] [(.ref b7)])) _
        exact retOut X8 hx Bd.returns rfl (Or.inr (Or.inr (Or.inr (Or.inr ⟨rfl, rfl, rfl⟩)))) (hb hby d9_31) hr
      · show Q_valueOfI Z zCS wcI ccI x h0 n0 _ T8.heap _
        exact ⟨b7, rfl, N8, K8, y8_0⟩
    · have hix := own_idx hlo hhi
      obtain ⟨T10, X10, e10, st10⟩ := getS2 X5 hx hZ hown (host := "") (Or.inl (hw _ (List.mem_of_getElem? (i := 59) rfl))) Via.refl e5 (S_cI.ext O0.2) (g := (mkF m 13 #[.val (.int x)] [])) rfl (hb hby d9_13)
      obtain ⟨Ar11, S11, M11⟩ := B_cI.ext O0.2
      have in11 : ¬ ((x + (128 : Int32)) < 0 ∨ ccI.slots.size ≤ ((x + (128 : Int32))).toNatClampNeg) := inb_of S11 hix
      obtain ⟨b11, at11, Eb11, -⟩ := B_cI.2.2.2 _ in11
      have R12 : ∀ t, Steps p.tables e below (T10.setTop (mkF m 22 #[.val (.int x)] [(.ref b11)])) t → Steps p.tables e below (s₁.setTop (entryFrame m #[(.int x)] 1)) t := by
        intro t k
        refine R6 t ?_
        show Steps p.tables e below (T5.setTop (mkF m 10 #[.val (.int x)] [(.int (127 : Int32)), (.int x)])) t
        refine XS.icmpNo X5.here hx rfl (hb hby d9_10) rfl (flt (hhi : ¬ ((127 : Int32) < x))).2.2.1 ?_
        show Steps p.tables e below (T5.setTop (mkF m 13 #[.val (.int x)] [])) t
        refine st10 _ ?_
        show Steps p.tables e below (T10.setTop (mkF m 16 #[.val (.int x)] [(.ref wcI)])) t
        refine XS.iloadN X10.here hx rfl (hb hby d9_16) rfl ?_
        show Steps p.tables e below (T10.setTop (mkF m 17 #[.val (.int x)] [(.int x), (.ref wcI)])) t
        refine XS.sipush X10.here hx rfl (hb hby d9_17) ?_
        show Steps p.tables e below (T10.setTop (mkF m 20 #[.val (.int x)] [(.int (128 : Int32)), (.int x), (.ref wcI)])) t
        refine XS.iadd X10.here hx rfl (hb hby d9_20) rfl ?_
        show Steps p.tables e below (T10.setTop (mkF m 21 #[.val (.int x)] [(.int (x + (128 : Int32))), (.ref wcI)])) t
        refine X10.aaload hx (j := (x + (128 : Int32))) (v := (.ref b11)) (by rw [e10]; exact Ar11.1) (State.isArrayOf_alike hZ.alike Ar11.2.1) rfl Ar11.2.2 in11 at11 (g := (mkF m 21 #[.val (.int x)] [(.int (x + (128 : Int32))), (.ref wcI)])) rfl rfl (hb hby d9_21) _ ?_
        exact k
      obtain ⟨fs, hr, hrun, hended, hW, hsame⟩ := X10.leave (v := some (.ref b11)) (fun h => by rw [Bd.returns] at h; cases h)
      refine ⟨_, _, R12 _ ?_, hrun, hended, _, _, rfl, ?_, ⟨_, rfl⟩, hW, hsame.mono (by decide) (by decide)⟩
      · show Steps p.tables e below (T10.setTop (mkF m 22 #[.val (.int x)] [(.ref b11)])) _
        exact retOut X10 hx Bd.returns rfl (Or.inr (Or.inr (Or.inr (Or.inr ⟨rfl, rfl, rfl⟩)))) (hb hby d9_22) hr
      · show Q_valueOfI Z zCS wcI ccI x h0 n0 _ T10.heap _
        rw [e10]
        exact ⟨b11, rfl, N0, K0, (Eb11.ext O0.2)⟩
section OwnKey
def own_key (px : Int32) : Int32 := if (((px.toUInt32 >>> ((8 : Int32) &&& 31).toUInt32).toInt32) &&& (1 : Int32)) = (0 : Int32) then (px &&& (255 : Int32)) else (-1 : Int32)
def own_C (z n : Int32) (v : List Value) : Prop := (z = (-1 : Int32) ∧ n = (0 : Int32) ∧ v = []) ∨ ((¬ z < (0 : Int32) ∧ ¬ (255 : Int32) < z) ∧ n = (1 : Int32) ∧ v = [.int (z.toInt8.toInt32)])
theorem own_m255 (px : Int32) : ¬ (px &&& (255 : Int32)) < (0 : Int32) ∧ ¬ (255 : Int32) < (px &&& (255 : Int32)) := by
  have h1 := c_and px 255 (by decide)
  simp only [Int32.lt_iff_toInt_lt, show (255 : Int32).toInt = 255 from by decide, show (0 : Int32).toInt = 0 from by decide] at *
  omega
theorem own_z255 (px : Int32) : ¬ ((px &&& (255 : Int32)).toUInt32.toUInt16.toUInt32.toInt32) < (0 : Int32) ∧ ¬ (255 : Int32) < ((px &&& (255 : Int32)).toUInt32.toUInt16.toUInt32.toInt32) := by
  have h1 := c_and px 255 (by decide)
  have h2 := c_i2c (px &&& 255)
  simp only [Int32.lt_iff_toInt_lt, show (255 : Int32).toInt = 255 from by decide, show (0 : Int32).toInt = 0 from by decide] at *
  omega
theorem own_c8 (px : Int32) : ((px &&& (255 : Int32)).toUInt32.toUInt16.toUInt32.toInt32) = (px &&& (255 : Int32)) := by
  have h1 := c_and px 255 (by decide)
  have h2 := c_i2c (px &&& 255)
  simp only [← Int32.toInt_inj, show (255 : Int32).toInt = 255 from by decide] at *
  omega
theorem own_narB (z : Int32) : nar .byte (z.toInt8.toInt32) = z.toInt8.toInt32 := by
  have h1 := c_i2b z
  have h2 := c_i2b (z.toInt8.toInt32)
  show (z.toInt8.toInt32).toInt8.toInt32 = z.toInt8.toInt32
  rw [← Int32.toInt_inj]
  omega
theorem own_b8i {a b : Int32} (ha : ¬ a < (0 : Int32) ∧ ¬ (255 : Int32) < a) (hb : ¬ b < (0 : Int32) ∧ ¬ (255 : Int32) < b) (h : (a.toInt8.toInt32) = (b.toInt8.toInt32)) : a = b := by
  have h1 := c_i2b a
  have h2 := c_i2b b
  simp only [Int32.lt_iff_toInt_lt, ← Int32.toInt_inj, show (255 : Int32).toInt = 255 from by decide, show (0 : Int32).toInt = 0 from by decide] at *
  omega
theorem own_c01 {a b : Int32} (ha : a = (-1 : Int32)) (hb : ¬ b < (0 : Int32) ∧ ¬ (255 : Int32) < b) : ¬ (a = b) := fun h => hb.1 (by rw [← h, ha]; decide)
theorem own_idY {px : Int32} (h : (((px.toUInt32 >>> ((8 : Int32) &&& 31).toUInt32).toInt32) &&& (1 : Int32)) = (0 : Int32)) : own_C (own_key px) (1 : Int32) [.int (((px &&& (255 : Int32)).toUInt32.toUInt16.toUInt32.toInt32).toInt8.toInt32)] := by
  rw [own_key, if_pos h, own_c8 px]
  exact Or.inr ⟨own_m255 px, rfl, rfl⟩
theorem own_idN {px : Int32} (h : ¬ ((((px.toUInt32 >>> ((8 : Int32) &&& 31).toUInt32).toInt32) &&& (1 : Int32)) = (0 : Int32))) : own_C (own_key px) (0 : Int32) [] := by
  rw [own_key, if_neg h]
  exact Or.inl ⟨rfl, rfl, rfl⟩
def own_teq (a a' b b' c c' : Int32) : Int32 := if a = a' then (if b = b' then (if c = c' then (1 : Int32) else (0 : Int32)) else (0 : Int32)) else (0 : Int32)
theorem own_teqY {a a' b b' c c' : Int32} (h1 : a = a') (h2 : b = b') (h3 : c = c') : own_teq a a' b b' c c' = (1 : Int32) := by rw [own_teq, if_pos h1, if_pos h2, if_pos h3]
theorem own_teq1 {a a' b b' c c' : Int32} (h1 : ¬ (a = a')) : own_teq a a' b b' c c' = (0 : Int32) := by rw [own_teq, if_neg h1]
theorem own_teq2 {a a' b b' c c' : Int32} (h1 : a = a') (h2 : ¬ (b = b')) : own_teq a a' b b' c c' = (0 : Int32) := by rw [own_teq, if_pos h1, if_neg h2]
theorem own_teq3 {a a' b b' c c' : Int32} (h1 : a = a') (h2 : b = b') (h3 : ¬ (c = c')) : own_teq a a' b b' c c' = (0 : Int32) := by rw [own_teq, if_pos h1, if_pos h2, if_neg h3]
theorem own_sameS {Z : State} {h : Heap} {sA sB tA tB : Addr} {kA kB : ClassId} {nA nB zA zB : Int32} {vA vB : List Value} (e : sA = sB) (F1 : Fld Z h sA "java/lang/String" "value" "[B" (.ref tA)) (F2 : Fld Z h sB "java/lang/String" "value" "[B" (.ref tB)) (A1 : Arv Z h tA kA .byte nA vA (.int 0)) (A2 : Arv Z h tB kB .byte nB vB (.int 0)) (c1 : own_C zA nA vA) (c2 : own_C zB nB vB) : zA = zB := by
  subst e
  cases own_fldU F1 F2
  obtain ⟨cl, Ar, -, S, M, H, -⟩ := A1
  obtain ⟨cl', Ar', -, S', M', H', -⟩ := A2
  cases Option.some.inj (Ar.1.symm.trans Ar'.1)
  rcases c1 with ⟨ha, rfl, rfl⟩ | ⟨ha, rfl, rfl⟩ <;> rcases c2 with ⟨hb, rfl, rfl⟩ | ⟨hb, rfl, rfl⟩
  · exact ha.trans hb.symm
  · exact absurd (S.symm.trans S') (by decide)
  · exact absurd (S.symm.trans S') (by decide)
  · have i0 : (0 : Nat) < cl.slots.size := by rw [S]; decide
    have e := (H 0 i0).symm.trans (H' 0 i0)
    exact own_b8i ha hb (Value.int.inj (Option.some.inj e))
end OwnKey
theorem d3_0 : decode jdk_43_method_3_code 0 = .ok (.iload_n 0, 1) := by decide +kernel
theorem d3_1 : decode jdk_43_method_3_code 1 = .ok (.sipush 255, 3) := by decide +kernel
theorem d3_4 : decode jdk_43_method_3_code 4 = .ok (.if_icmp .gt 7, 3) := by decide +kernel
theorem d3_7 : decode jdk_43_method_3_code 7 = .ok (.iconst 1, 1) := by decide +kernel
theorem d3_8 : decode jdk_43_method_3_code 8 = .ok (.goto 4, 3) := by decide +kernel
theorem d3_12 : decode jdk_43_method_3_code 12 = .ok (.ireturn, 1) := by decide +kernel
theorem pn_java_lang_StringLatin1 : plainName "java/lang/StringLatin1" = true := by first | (simp [plainName, overriddenIn]; done) | decide +kernel
theorem ef_canEnc (m : MethodId) (zc : Int32) : entryFrame m #[(.int zc)] 1 = mkF m 0 #[.val (.int zc)] [] := by first | (simp [entryFrame, mkF, argsToLocals, Value.category]; done) | rfl
def Q_canEnc (Z : State) (zCS : Int32) (wcI : Addr) (ccI : Cell) (zc : Int32) (h0 : Heap) (n0 : Nat) (vv_ : Option Value) (hh_ : Heap) (LL_ : List Loc) : Prop := vv_ = some (.int (1 : Int32)) ∧ (Fr n0 LL_) ∧ (hh_ = h0)
set_option maxRecDepth 65536 in
set_option maxHeartbeats 40000000 in
theorem canEnc (l : Launch) (Z : State) (a0 : Array Value) (hw : ∀ d ∈ tables_1, d.before a0 Z = true) (ws : List Jvm.Cond) (zCS : Int32) (wcI : Addr) (ccI : Cell) (zc : Int32) (h0 : Heap) (n0 : Nat) (O0 : Old Z n0 h0) (S_CS : Sta Z Z.heap "java/lang/String" "COMPACT_STRINGS" "Z" (.int zCS)) (hCS : ¬ (zCS = (0 : Int32))) (hcT0 : Jvm.Lit.constHeld Z "com/example/relayout/relayout/plan/Transfer" 7) (hcT1 : Jvm.Lit.constHeld Z "com/example/relayout/relayout/plan/Transfer" 22) (hcT2 : Jvm.Lit.constHeld Z "com/example/relayout/relayout/plan/Transfer" 26) (hcH : Jvm.Lit.constHeld Z "com/example/relayout/relayout/plan/TransferEqualsPinLaw" 7) (hcW : Jvm.Lit.compactW.before a0 Z = true) (S_cI : Sta Z Z.heap "java/lang/Integer$IntegerCache" "cache" "[Ljava/lang/Integer;" (.ref wcI)) (B_cI : Bxs Z wcI ccI "java/lang/Integer" "I" 256 (fun j => .int (j - 128))) (S_hi : Sta Z Z.heap "java/lang/Integer$IntegerCache" "high" "I" (.int (127 : Int32))) (hzc : ¬ ((255 : Int32) < zc)) :
    MetFree l (⟨"java/lang/StringLatin1", "canEncode", "(C)Z"⟩ : MethodName) (head1 (Jvm.Cond.code (⟨"java/lang/StringLatin1", "canEncode", "(C)Z"⟩ : MethodName) jdk_43_method_3_code 1 (some .boolean) :: ws) ({ frames := 0, cells := 0, slots := 0, locals := 0 } : Room)) (fun aa_ U_ => aa_ = #[(.int zc)] ∧ Z.Warmed39 U_.vm ∧ U_.heap = h0) (fun _ _ _ _ _ => True) (fun _ U_ oo_ V_ => ∃ vv_ LL_, oo_ = .returned vv_ ∧ Q_canEnc Z zCS wcI ccI zc h0 n0 vv_ V_.heap LL_ ∧ FrameEnd U_ oo_ V_ LL_ ({ frames := 0, cells := 0, slots := 0, locals := 0 } : Room).cells ({ frames := 0, cells := 0, slots := 0, locals := 0 } : Room).slots) := by
  refine MetFree.of_bodySF (plainFor_of_name pn_java_lang_StringLatin1) hisR ?_
  intro p e s m args below meth c s₁ Bd hml0 hP hK
  obtain ⟨rfl, hZ, hh⟩ := hP
  have hx := Bd.exec
  have hby := Bd.bytes
  have hml : c.maxLocals = 1 := hml0
  have hown : s.vm.findClass "java/lang/StringLatin1" = some m.cls := findClass_of_methodNamed Bd.named
  have hnm := (name_of_methodNamed Bd.named Bd.method).1
  have X0 : Stand p l e ({ frames := 0, cells := 0, slots := 0, locals := 0 } : Room) s m #[(.int zc)] below meth c s₁ [] 0 0 := Stand.of_body Bd
  have e0 : s₁.heap = h0 := by rw [← hh, Bd.state]; rfl
  have N0 := Fr.nil n0
  have Z0 : n0 ≤ h0.size := O0.1 ▸ O0.2.1
  have hk0 := Nat.zero_le h0.size
  have K0 : Keep h0 h0 [] := Keep.refl _ _
  have R0 : ∀ t, Steps p.tables e below (s₁.setTop (mkF m 0 #[.val (.int zc)] [])) t → Steps p.tables e below (s₁.setTop (entryFrame m #[(.int zc)] 1)) t := fun t k => castTop (ef_canEnc m zc) k
  have R1 : ∀ t, Steps p.tables e below (s₁.setTop (mkF m 12 #[.val (.int zc)] [(.int (1 : Int32))])) t → Steps p.tables e below (s₁.setTop (entryFrame m #[(.int zc)] 1)) t := by
    intro t k
    refine R0 t ?_
    show Steps p.tables e below (s₁.setTop (mkF m 0 #[.val (.int zc)] [])) t
    refine XS.iloadN X0.here hx rfl (hb hby d3_0) rfl ?_
    show Steps p.tables e below (s₁.setTop (mkF m 1 #[.val (.int zc)] [(.int zc)])) t
    refine XS.sipush X0.here hx rfl (hb hby d3_1) ?_
    show Steps p.tables e below (s₁.setTop (mkF m 4 #[.val (.int zc)] [(.int (255 : Int32)), (.int zc)])) t
    refine XS.icmpNo X0.here hx rfl (hb hby d3_4) rfl (flt (hzc : ¬ ((255 : Int32) < zc))).2.2.1 ?_
    show Steps p.tables e below (s₁.setTop (mkF m 7 #[.val (.int zc)] [])) t
    refine XS.iconst X0.here hx rfl (hb hby d3_7) ?_
    show Steps p.tables e below (s₁.setTop (mkF m 8 #[.val (.int zc)] [(.int (1 : Int32))])) t
    refine XS.goto X0.here hx rfl (pc0 := 8) (pc' := 12) rfl (hb hby d3_8) (by decide) (by decide) ?_
    exact k
  obtain ⟨fs, hr, hrun, hended, hW, hsame⟩ := X0.leave (v := some (.int (1 : Int32))) (fun h => by rw [Bd.returns] at h; cases h)
  refine ⟨_, _, R1 _ ?_, hrun, hended, _, _, rfl, ?_, ⟨_, rfl⟩, hW, hsame.mono (by decide) (by decide)⟩
  · show Steps p.tables e below (s₁.setTop (mkF m 12 #[.val (.int zc)] [(.int (1 : Int32))])) _
    exact retN X0 hx (t := .boolean) Bd.returns (by simp) (hb hby d3_12) hr
  · show Q_canEnc Z zCS wcI ccI zc h0 n0 _ s₁.heap _
    rw [e0]
    exact ⟨rfl, N0, rfl⟩
theorem d4_0 : decode jdk_43_method_46_code 0 = .ok (.iconst 1, 1) := by decide +kernel
theorem d4_1 : decode jdk_43_method_46_code 1 = .ok (.newarray .byte, 2) := by decide +kernel
theorem d4_3 : decode jdk_43_method_46_code 3 = .ok (.dup, 1) := by decide +kernel
theorem d4_4 : decode jdk_43_method_46_code 4 = .ok (.iconst 0, 1) := by decide +kernel
theorem d4_5 : decode jdk_43_method_46_code 5 = .ok (.iload_n 0, 1) := by decide +kernel
theorem d4_6 : decode jdk_43_method_46_code 6 = .ok (.i2b, 1) := by decide +kernel
theorem d4_7 : decode jdk_43_method_46_code 7 = .ok (.bastore, 1) := by decide +kernel
theorem d4_8 : decode jdk_43_method_46_code 8 = .ok (.areturn, 1) := by decide +kernel
theorem ef_toBy (m : MethodId) (zc : Int32) : entryFrame m #[(.int zc)] 1 = mkF m 0 #[.val (.int zc)] [] := by first | (simp [entryFrame, mkF, argsToLocals, Value.category]; done) | rfl
def Q_toBy (Z : State) (zCS : Int32) (wcI : Addr) (ccI : Cell) (zc : Int32) (h0 : Heap) (n0 : Nat) (vv_ : Option Value) (hh_ : Heap) (LL_ : List Loc) : Prop := ∃ (b : Addr) (kb : ClassId), vv_ = some (.ref b) ∧ (Fr n0 LL_) ∧ (Keep h0 hh_ []) ∧ (h0.size ≤ b) ∧ (Arv Z hh_ b kb .byte (1 : Int32) [(.int (zc.toInt8.toInt32))] (.int 0))
set_option maxRecDepth 65536 in
set_option maxHeartbeats 40000000 in
theorem toBy (l : Launch) (Z : State) (a0 : Array Value) (hw : ∀ d ∈ tables_1, d.before a0 Z = true) (ws : List Jvm.Cond) (zCS : Int32) (wcI : Addr) (ccI : Cell) (zc : Int32) (h0 : Heap) (n0 : Nat) (O0 : Old Z n0 h0) (S_CS : Sta Z Z.heap "java/lang/String" "COMPACT_STRINGS" "Z" (.int zCS)) (hCS : ¬ (zCS = (0 : Int32))) (hcT0 : Jvm.Lit.constHeld Z "com/example/relayout/relayout/plan/Transfer" 7) (hcT1 : Jvm.Lit.constHeld Z "com/example/relayout/relayout/plan/Transfer" 22) (hcT2 : Jvm.Lit.constHeld Z "com/example/relayout/relayout/plan/Transfer" 26) (hcH : Jvm.Lit.constHeld Z "com/example/relayout/relayout/plan/TransferEqualsPinLaw" 7) (hcW : Jvm.Lit.compactW.before a0 Z = true) (S_cI : Sta Z Z.heap "java/lang/Integer$IntegerCache" "cache" "[Ljava/lang/Integer;" (.ref wcI)) (B_cI : Bxs Z wcI ccI "java/lang/Integer" "I" 256 (fun j => .int (j - 128))) (S_hi : Sta Z Z.heap "java/lang/Integer$IntegerCache" "high" "I" (.int (127 : Int32))) :
    MetFree l (⟨"java/lang/StringLatin1", "toBytes", "(C)[B"⟩ : MethodName) (head1 (Jvm.Cond.code (⟨"java/lang/StringLatin1", "toBytes", "(C)[B"⟩ : MethodName) jdk_43_method_46_code 1 (some (.array .byte)) :: ws) ({ frames := 0, cells := 1, slots := 1, locals := 0 } : Room)) (fun aa_ U_ => aa_ = #[(.int zc)] ∧ Z.Warmed39 U_.vm ∧ U_.heap = h0) (fun _ _ _ _ _ => True) (fun _ U_ oo_ V_ => ∃ vv_ LL_, oo_ = .returned vv_ ∧ Q_toBy Z zCS wcI ccI zc h0 n0 vv_ V_.heap LL_ ∧ FrameEnd U_ oo_ V_ LL_ ({ frames := 0, cells := 1, slots := 1, locals := 0 } : Room).cells ({ frames := 0, cells := 1, slots := 1, locals := 0 } : Room).slots) := by
  refine MetFree.of_bodySF (plainFor_of_name pn_java_lang_StringLatin1) hisR ?_
  intro p e s m args below meth c s₁ Bd hml0 hP hK
  obtain ⟨rfl, hZ, hh⟩ := hP
  have hx := Bd.exec
  have hby := Bd.bytes
  have hml : c.maxLocals = 1 := hml0
  have hown : s.vm.findClass "java/lang/StringLatin1" = some m.cls := findClass_of_methodNamed Bd.named
  have hnm := (name_of_methodNamed Bd.named Bd.method).1
  have X0 : Stand p l e ({ frames := 0, cells := 1, slots := 1, locals := 0 } : Room) s m #[(.int zc)] below meth c s₁ [] 0 0 := Stand.of_body Bd
  have e0 : s₁.heap = h0 := by rw [← hh, Bd.state]; rfl
  have N0 := Fr.nil n0
  have Z0 : n0 ≤ h0.size := O0.1 ▸ O0.2.1
  have hk0 := Nat.zero_le h0.size
  have K0 : Keep h0 h0 [] := Keep.refl _ _
  have R0 : ∀ t, Steps p.tables e below (s₁.setTop (mkF m 0 #[.val (.int zc)] [])) t → Steps p.tables e below (s₁.setTop (entryFrame m #[(.int zc)] 1)) t := fun t k => castTop (ef_toBy m zc) k
  obtain ⟨T1, h1, k1, X1, e1, E1, A1, st1⟩ := newP X0 hx hZ (hw _ (List.mem_of_getElem? (i := 21) rfl)) e0 (g := (mkF m 1 #[.val (.int zc)] [(.int (1 : Int32))])) rfl (hb hby d4_1) rfl (by decide) (cap := 1) (by decide) (by decide) (by decide) (by decide)
  obtain ⟨b1, gg1⟩ : ∃ z, z = h0.size := ⟨_, rfl⟩
  rw [← gg1] at A1 st1
  have g_b1 : n0 ≤ b1 := Nat.le_trans Z0 (Nat.le_of_eq gg1.symm)
  have sz_b1 : h0.size ≤ b1 := Nat.le_trans K0.1 (Nat.le_of_eq gg1.symm)
  have Z1 : n0 ≤ h1.size := Nat.le_trans Z0 E1.1
  have K1 : Keep h0 h1 [] := K0.ext E1
  have O1 : Old Z n0 h1 := O0.ext E1
  have V1 : Arv Z h1 b1 k1 .byte (1 : Int32) [(.int (0 : Int32))] (.int (0 : Int32)) := (Arv.new A1 (by decide)).pad (pad_rep [] (.int (0 : Int32)) 1)
  obtain ⟨cl2, Ar2, q2, S2, M2, H2, G2⟩ := id V1
  have in2 : ¬ ((0 : Int32) < 0 ∨ cl2.slots.size ≤ ((0 : Int32)).toNatClampNeg) := inb_of S2 ⟨by decide, by decide⟩
  obtain ⟨T2, h2, X2, e2, W2, st2⟩ := stB X1 hx hZ e1 Ar2 (j := (0 : Int32)) in2 (g := (mkF m 7 #[.val (.int zc)] [(.int (zc.toInt8.toInt32)), (.int (0 : Int32)), (.ref b1), (.ref b1)])) rfl rfl (hb hby d4_7)
  have Z2 : n0 ≤ h2.size := Nat.le_trans Z1 (Keep.of_wr W2).1
  have K2 : Keep h0 h2 [] := K1.wr W2 (Or.inr sz_b1)
  have O2 : Old Z n0 h2 := O1.wr W2 g_b1
  have N2 := Fr.snoc X2 N0 g_b1
  have V2 : Arv Z h2 b1 k1 .byte (1 : Int32) [(.int (nar .byte (zc.toInt8.toInt32)))] (.int (0 : Int32)) := Arv.set Ar2 q2 S2 M2 H2 G2 (fits_nar_byte _) W2 0 rfl (Nat.le_of_ble_eq_true rfl)
  have Vl : Arv Z h2 b1 k1 .byte (1 : Int32) [(.int (zc.toInt8.toInt32))] (.int 0) := own_narB zc ▸ V2
  have R3 : ∀ t, Steps p.tables e below (T2.setTop (mkF m 8 #[.val (.int zc)] [(.ref b1)])) t → Steps p.tables e below (s₁.setTop (entryFrame m #[(.int zc)] 1)) t := by
    intro t k
    refine R0 t ?_
    show Steps p.tables e below (s₁.setTop (mkF m 0 #[.val (.int zc)] [])) t
    refine XS.iconst X0.here hx rfl (hb hby d4_0) ?_
    show Steps p.tables e below (s₁.setTop (mkF m 1 #[.val (.int zc)] [(.int (1 : Int32))])) t
    refine st1 _ ?_
    show Steps p.tables e below (T1.setTop (mkF m 3 #[.val (.int zc)] [(.ref b1)])) t
    refine XS.dup X1.here hx rfl (hb hby d4_3) rfl rfl ?_
    show Steps p.tables e below (T1.setTop (mkF m 4 #[.val (.int zc)] [(.ref b1), (.ref b1)])) t
    refine XS.iconst X1.here hx rfl (hb hby d4_4) ?_
    show Steps p.tables e below (T1.setTop (mkF m 5 #[.val (.int zc)] [(.int (0 : Int32)), (.ref b1), (.ref b1)])) t
    refine XS.iloadN X1.here hx rfl (hb hby d4_5) rfl ?_
    show Steps p.tables e below (T1.setTop (mkF m 6 #[.val (.int zc)] [(.int zc), (.int (0 : Int32)), (.ref b1), (.ref b1)])) t
    refine XS.i2b X1.here hx rfl (hb hby d4_6) rfl ?_
    show Steps p.tables e below (T1.setTop (mkF m 7 #[.val (.int zc)] [(.int (zc.toInt8.toInt32)), (.int (0 : Int32)), (.ref b1), (.ref b1)])) t
    refine st2 _ ?_
    exact k
  obtain ⟨fs, hr, hrun, hended, hW, hsame⟩ := X2.leave (v := some (.ref b1)) (fun h => by rw [Bd.returns] at h; cases h)
  refine ⟨_, _, R3 _ ?_, hrun, hended, _, _, rfl, ?_, ⟨_, rfl⟩, hW, hsame.mono (by decide) (by decide)⟩
  · show Steps p.tables e below (T2.setTop (mkF m 8 #[.val (.int zc)] [(.ref b1)])) _
    exact retOut X2 hx Bd.returns rfl (Or.inr (Or.inr (Or.inr (Or.inr ⟨rfl, rfl, rfl⟩)))) (hb hby d4_8) hr
  · show Q_toBy Z zCS wcI ccI zc h0 n0 _ T2.heap _
    rw [e2]
    exact ⟨b1, k1, rfl, N2, K2, sz_b1, Vl⟩
theorem d5_0 : decode jdk_42_method_151_code 0 = .ok (.aload_n 0, 1) := by decide +kernel
theorem d5_1 : decode jdk_42_method_151_code 1 = .ok (.invokespecial 1, 3) := by decide +kernel
theorem d5_4 : decode jdk_42_method_151_code 4 = .ok (.aload_n 0, 1) := by decide +kernel
theorem d5_5 : decode jdk_42_method_151_code 5 = .ok (.aload_n 1, 1) := by decide +kernel
theorem d5_6 : decode jdk_42_method_151_code 6 = .ok (.putfield 9, 3) := by decide +kernel
theorem d5_9 : decode jdk_42_method_151_code 9 = .ok (.aload_n 0, 1) := by decide +kernel
theorem d5_10 : decode jdk_42_method_151_code 10 = .ok (.iload_n 2, 1) := by decide +kernel
theorem d5_11 : decode jdk_42_method_151_code 11 = .ok (.putfield 15, 3) := by decide +kernel
theorem d5_14 : decode jdk_42_method_151_code 14 = .ok (.return_, 1) := by decide +kernel
theorem pn_java_lang_String : plainName "java/lang/String" = true := by first | (simp [plainName, overriddenIn]; done) | decide +kernel
theorem ef_sinB (m : MethodId) (a : Addr) (tb : Addr) (u1 : Value) (u2 : Value) : entryFrame m #[(.ref a), (.ref tb), (.int (0 : Int32))] 3 = mkF m 0 #[.val (.ref a), .val (.ref tb), .val (.int (0 : Int32))] [] := by first | (simp [entryFrame, mkF, argsToLocals, Value.category]; done) | rfl
def Q_sinB (Z : State) (zCS : Int32) (wcI : Addr) (ccI : Cell) (a : Addr) (tb : Addr) (u1 : Value) (u2 : Value) (h0 : Heap) (n0 : Nat) (vv_ : Option Value) (hh_ : Heap) (LL_ : List Loc) : Prop := vv_ = none ∧ (Fr n0 LL_) ∧ (Keep h0 hh_ [a]) ∧ (Exa Z hh_ a "java/lang/String") ∧ (Fld Z hh_ a "java/lang/String" "coder" "B" (.int (0 : Int32))) ∧ (Fld Z hh_ a "java/lang/String" "value" "[B" (.ref tb))
set_option maxRecDepth 65536 in
set_option maxHeartbeats 40000000 in
theorem sinB (l : Launch) (Z : State) (a0 : Array Value) (hw : ∀ d ∈ tables_1, d.before a0 Z = true) (ws : List Jvm.Cond) (zCS : Int32) (wcI : Addr) (ccI : Cell) (a : Addr) (tb : Addr) (u1 : Value) (u2 : Value) (h0 : Heap) (n0 : Nat) (O0 : Old Z n0 h0) (S_CS : Sta Z Z.heap "java/lang/String" "COMPACT_STRINGS" "Z" (.int zCS)) (hCS : ¬ (zCS = (0 : Int32))) (hcT0 : Jvm.Lit.constHeld Z "com/example/relayout/relayout/plan/Transfer" 7) (hcT1 : Jvm.Lit.constHeld Z "com/example/relayout/relayout/plan/Transfer" 22) (hcT2 : Jvm.Lit.constHeld Z "com/example/relayout/relayout/plan/Transfer" 26) (hcH : Jvm.Lit.constHeld Z "com/example/relayout/relayout/plan/TransferEqualsPinLaw" 7) (hcW : Jvm.Lit.compactW.before a0 Z = true) (S_cI : Sta Z Z.heap "java/lang/Integer$IntegerCache" "cache" "[Ljava/lang/Integer;" (.ref wcI)) (B_cI : Bxs Z wcI ccI "java/lang/Integer" "I" 256 (fun j => .int (j - 128))) (S_hi : Sta Z Z.heap "java/lang/Integer$IntegerCache" "high" "I" (.int (127 : Int32))) (g_a : n0 ≤ a) (Ea : Exa Z h0 a "java/lang/String") (Fv : Fld Z h0 a "java/lang/String" "value" "[B" u1) (Fc : Fld Z h0 a "java/lang/String" "coder" "B" u2) :
    MetFree l (⟨"java/lang/String", "<init>", "([BB)V"⟩ : MethodName) (head1 (Jvm.Cond.code (⟨"java/lang/String", "<init>", "([BB)V"⟩ : MethodName) jdk_42_method_151_code 3 none :: ws) ({ frames := 1, cells := 0, slots := 0, locals := 12 } : Room)) (fun aa_ U_ => aa_ = #[(.ref a), (.ref tb), (.int (0 : Int32))] ∧ Z.Warmed39 U_.vm ∧ U_.heap = h0) (fun _ _ _ _ _ => True) (fun _ U_ oo_ V_ => ∃ vv_ LL_, oo_ = .returned vv_ ∧ Q_sinB Z zCS wcI ccI a tb u1 u2 h0 n0 vv_ V_.heap LL_ ∧ FrameEnd U_ oo_ V_ LL_ ({ frames := 1, cells := 0, slots := 0, locals := 12 } : Room).cells ({ frames := 1, cells := 0, slots := 0, locals := 12 } : Room).slots) := by
  refine MetFree.of_bodySF (plainFor_of_name pn_java_lang_String) hisR ?_
  intro p e s m args below meth c s₁ Bd hml0 hP hK
  obtain ⟨rfl, hZ, hh⟩ := hP
  have hx := Bd.exec
  have hby := Bd.bytes
  have hml : c.maxLocals = 3 := hml0
  have hown : s.vm.findClass "java/lang/String" = some m.cls := findClass_of_methodNamed Bd.named
  have hnm := (name_of_methodNamed Bd.named Bd.method).1
  have X0 : Stand p l e ({ frames := 1, cells := 0, slots := 0, locals := 12 } : Room) s m #[(.ref a), (.ref tb), (.int (0 : Int32))] below meth c s₁ [] 0 0 := Stand.of_body Bd
  have e0 : s₁.heap = h0 := by rw [← hh, Bd.state]; rfl
  have N0 := Fr.nil n0
  have Z0 : n0 ≤ h0.size := O0.1 ▸ O0.2.1
  have hk0 := Nat.zero_le h0.size
  have K0 : Keep h0 h0 [a] := Keep.refl _ _
  have R0 : ∀ t, Steps p.tables e below (s₁.setTop (mkF m 0 #[.val (.ref a), .val (.ref tb), .val (.int (0 : Int32))] [])) t → Steps p.tables e below (s₁.setTop (entryFrame m #[(.ref a), (.ref tb), (.int (0 : Int32))] 3)) t := fun t k => castTop (ef_sinB m a tb u1 u2) k
  obtain ⟨T1, X1, e1, st1⟩ := initO X0 hx hZ hown (hw _ (List.mem_of_getElem? (i := 26) rfl)) (hw _ (List.mem_of_getElem? (i := 27) rfl)) (hw _ (List.mem_of_getElem? (i := 28) rfl)) e0 (g := (mkF m 1 #[.val (.ref a), .val (.ref tb), .val (.int (0 : Int32))] [(.ref a)])) rfl (by rw [hml]; rfl) rfl (hb hby d5_1) (by decide) (W := 0) (by show 2 * 0 + _ ≤ _; exact Nat.le_of_eq rfl) (by decide)
  obtain ⟨T2, h2, X2, e2, W2, st2⟩ := putF X1 hx hZ hown (host := "") (Or.inl (hw _ (List.mem_of_getElem? (i := 29) rfl))) Via.refl e1 Fv Ea (Or.inr ⟨(hw _ (List.mem_of_getElem? (i := 30) rfl)), rfl, hnm⟩) (hw _ (List.mem_of_getElem? (i := 17) rfl)) (ty := (.array .byte)) (by decide) rfl rfl (g := (mkF m 6 #[.val (.ref a), .val (.ref tb), .val (.int (0 : Int32))] [(.ref tb), (.ref a)])) rfl rfl (hb hby d5_6)
  have Z2 : n0 ≤ h2.size := Nat.le_trans Z0 (Keep.of_wr W2).1
  have K2 : Keep h0 h2 [a] := K0.wr W2 (Or.inl (List.mem_of_getElem? (i := 0) rfl))
  have O2 : Old Z n0 h2 := O0.wr W2 g_a
  have N2 := Fr.snoc X2 N0 g_a
  have fw2 : Fld Z h2 a "java/lang/String" "value" "[B" (.ref tb) := Fv.same W2
  have f4 : Exa Z h2 a "java/lang/String" := (Ea.wr W2)
  have f5 : Fld Z h2 a "java/lang/String" "coder" "B" u2 := (Fc.other W2 (Or.inr (slot_ne (Or.inr (hw _ (List.mem_of_getElem? (i := 32) rfl))) (Or.inr (hw _ (List.mem_of_getElem? (i := 30) rfl))) (by decide) (t := .byte) (t' := (.array .byte)) (by decide) (by decide))))
  obtain ⟨T3, h3, X3, e3, W3, st3⟩ := putFN X2 hx hZ hown (hw _ (List.mem_of_getElem? (i := 31) rfl)) Via.refl e2 f5 f4 (Or.inr ⟨(hw _ (List.mem_of_getElem? (i := 32) rfl)), rfl, hnm⟩) (hw _ (List.mem_of_getElem? (i := 17) rfl)) (ty := .byte) (v' := (.int (0 : Int32))) (by decide) (by decide) (by decide) (g := (mkF m 11 #[.val (.ref a), .val (.ref tb), .val (.int (0 : Int32))] [(.int (0 : Int32)), (.ref a)])) rfl rfl (hb hby d5_11)
  have Z3 : n0 ≤ h3.size := Nat.le_trans Z2 (Keep.of_wr W3).1
  have K3 : Keep h0 h3 [a] := K2.wr W3 (Or.inl (List.mem_of_getElem? (i := 0) rfl))
  have O3 : Old Z n0 h3 := O2.wr W3 g_a
  have N3 := Fr.snoc X3 N2 g_a
  have fw3 : Fld Z h3 a "java/lang/String" "coder" "B" (.int (0 : Int32)) := f5.same W3
  have R6 : ∀ t, Steps p.tables e below (T3.setTop (mkF m 14 #[.val (.ref a), .val (.ref tb), .val (.int (0 : Int32))] [])) t → Steps p.tables e below (s₁.setTop (entryFrame m #[(.ref a), (.ref tb), (.int (0 : Int32))] 3)) t := by
    intro t k
    refine R0 t ?_
    show Steps p.tables e below (s₁.setTop (mkF m 0 #[.val (.ref a), .val (.ref tb), .val (.int (0 : Int32))] [])) t
    refine XS.aloadN X0.here hx rfl (hb hby d5_0) rfl rfl ?_
    show Steps p.tables e below (s₁.setTop (mkF m 1 #[.val (.ref a), .val (.ref tb), .val (.int (0 : Int32))] [(.ref a)])) t
    refine st1 _ ?_
    show Steps p.tables e below (T1.setTop (mkF m 4 #[.val (.ref a), .val (.ref tb), .val (.int (0 : Int32))] [])) t
    refine XS.aloadN X1.here hx rfl (hb hby d5_4) rfl rfl ?_
    show Steps p.tables e below (T1.setTop (mkF m 5 #[.val (.ref a), .val (.ref tb), .val (.int (0 : Int32))] [(.ref a)])) t
    refine XS.aloadN X1.here hx rfl (hb hby d5_5) rfl rfl ?_
    show Steps p.tables e below (T1.setTop (mkF m 6 #[.val (.ref a), .val (.ref tb), .val (.int (0 : Int32))] [(.ref tb), (.ref a)])) t
    refine st2 _ ?_
    show Steps p.tables e below (T2.setTop (mkF m 9 #[.val (.ref a), .val (.ref tb), .val (.int (0 : Int32))] [])) t
    refine XS.aloadN X2.here hx rfl (hb hby d5_9) rfl rfl ?_
    show Steps p.tables e below (T2.setTop (mkF m 10 #[.val (.ref a), .val (.ref tb), .val (.int (0 : Int32))] [(.ref a)])) t
    refine XS.iloadN X2.here hx rfl (hb hby d5_10) rfl ?_
    show Steps p.tables e below (T2.setTop (mkF m 11 #[.val (.ref a), .val (.ref tb), .val (.int (0 : Int32))] [(.int (0 : Int32)), (.ref a)])) t
    refine st3 _ ?_
    exact k
  have f7 : Exa Z h3 a "java/lang/String" := (f4.wr W3)
  have f8 : Fld Z h3 a "java/lang/String" "value" "[B" (.ref tb) := (fw2.other W3 (Or.inr (slot_ne (Or.inr (hw _ (List.mem_of_getElem? (i := 30) rfl))) (Or.inr (hw _ (List.mem_of_getElem? (i := 32) rfl))) (by decide) (t := (.array .byte)) (t' := .byte) (by decide) (by decide))))
  obtain ⟨fs, hr, hrun, hended, hW, hsame⟩ := X3.leave (v := none) (fun _ => rfl)
  refine ⟨_, _, R6 _ ?_, hrun, hended, _, _, rfl, ?_, ⟨_, rfl⟩, hW, hsame.mono (by decide) (by decide)⟩
  · show Steps p.tables e below (T3.setTop (mkF m 14 #[.val (.ref a), .val (.ref tb), .val (.int (0 : Int32))] [])) _
    exact X3.returnOut hx Bd.returns (hb hby d5_14) hr
  · show Q_sinB Z zCS wcI ccI a tb u1 u2 h0 n0 _ T3.heap _
    rw [e3]
    exact ⟨rfl, N3, K3, f7, fw3, f8⟩
theorem d2_0 : decode jdk_42_method_139_code 0 = .ok (.getstatic 38, 3) := by decide +kernel
theorem d2_3 : decode jdk_42_method_139_code 3 = .ok (.ifCond .eq 23, 3) := by decide +kernel
theorem d2_6 : decode jdk_42_method_139_code 6 = .ok (.iload_n 0, 1) := by decide +kernel
theorem pd_2 : parseMethodDescriptor "(C)Z" = some ⟨[.char], some .boolean⟩ := by decide +kernel
theorem d2_7 : decode jdk_42_method_139_code 7 = .ok (.invokestatic 1015, 3) := by decide +kernel
theorem d2_10 : decode jdk_42_method_139_code 10 = .ok (.ifCond .eq 16, 3) := by decide +kernel
theorem d2_13 : decode jdk_42_method_139_code 13 = .ok (.new 10, 3) := by decide +kernel
theorem d2_16 : decode jdk_42_method_139_code 16 = .ok (.dup, 1) := by decide +kernel
theorem d2_17 : decode jdk_42_method_139_code 17 = .ok (.iload_n 0, 1) := by decide +kernel
theorem pd_3 : parseMethodDescriptor "(C)[B" = some ⟨[.char], some (.array .byte)⟩ := by decide +kernel
theorem d2_18 : decode jdk_42_method_139_code 18 = .ok (.invokestatic 1018, 3) := by decide +kernel
theorem d2_21 : decode jdk_42_method_139_code 21 = .ok (.iconst 0, 1) := by decide +kernel
theorem pd_4 : parseMethodDescriptor "([BB)V" = some ⟨[(.array .byte), .byte], none⟩ := by decide +kernel
theorem d2_22 : decode jdk_42_method_139_code 22 = .ok (.invokespecial 209, 3) := by decide +kernel
theorem d2_25 : decode jdk_42_method_139_code 25 = .ok (.areturn, 1) := by decide +kernel
theorem ef_vof (m : MethodId) (zc : Int32) : entryFrame m #[(.int zc)] 1 = mkF m 0 #[.val (.int zc)] [] := by first | (simp [entryFrame, mkF, argsToLocals, Value.category]; done) | rfl
def Q_vof (Z : State) (zCS : Int32) (wcI : Addr) (ccI : Cell) (zc : Int32) (h0 : Heap) (n0 : Nat) (vv_ : Option Value) (hh_ : Heap) (LL_ : List Loc) : Prop := ∃ (b : Addr) (tt : Addr) (kb : ClassId), vv_ = some (.ref b) ∧ (Fr n0 LL_) ∧ (Keep h0 hh_ []) ∧ (h0.size ≤ b) ∧ (h0.size ≤ tt) ∧ (Exa Z hh_ b "java/lang/String") ∧ (Fld Z hh_ b "java/lang/String" "coder" "B" (.int (0 : Int32))) ∧ (Fld Z hh_ b "java/lang/String" "value" "[B" (.ref tt)) ∧ (Arv Z hh_ tt kb .byte (1 : Int32) [(.int (zc.toInt8.toInt32))] (.int 0))
set_option maxRecDepth 65536 in
set_option maxHeartbeats 40000000 in
theorem vof (l : Launch) (Z : State) (a0 : Array Value) (hw : ∀ d ∈ tables_1, d.before a0 Z = true) (ws : List Jvm.Cond) (zCS : Int32) (wcI : Addr) (ccI : Cell) (zc : Int32) (h0 : Heap) (n0 : Nat) (O0 : Old Z n0 h0) (S_CS : Sta Z Z.heap "java/lang/String" "COMPACT_STRINGS" "Z" (.int zCS)) (hCS : ¬ (zCS = (0 : Int32))) (hcT0 : Jvm.Lit.constHeld Z "com/example/relayout/relayout/plan/Transfer" 7) (hcT1 : Jvm.Lit.constHeld Z "com/example/relayout/relayout/plan/Transfer" 22) (hcT2 : Jvm.Lit.constHeld Z "com/example/relayout/relayout/plan/Transfer" 26) (hcH : Jvm.Lit.constHeld Z "com/example/relayout/relayout/plan/TransferEqualsPinLaw" 7) (hcW : Jvm.Lit.compactW.before a0 Z = true) (S_cI : Sta Z Z.heap "java/lang/Integer$IntegerCache" "cache" "[Ljava/lang/Integer;" (.ref wcI)) (B_cI : Bxs Z wcI ccI "java/lang/Integer" "I" 256 (fun j => .int (j - 128))) (S_hi : Sta Z Z.heap "java/lang/Integer$IntegerCache" "high" "I" (.int (127 : Int32))) (hzc : ¬ ((255 : Int32) < zc)) :
    MetFree l (⟨"java/lang/String", "valueOf", "(C)Ljava/lang/String;"⟩ : MethodName) (head1 (Jvm.Cond.code (⟨"java/lang/String", "valueOf", "(C)Ljava/lang/String;"⟩ : MethodName) jdk_42_method_139_code 1 (some (.object "java/lang/String")) :: ws) ({ frames := 2, cells := 2, slots := 5, locals := 27 } : Room)) (fun aa_ U_ => aa_ = #[(.int zc)] ∧ Z.Warmed39 U_.vm ∧ U_.heap = h0) (fun _ _ _ _ _ => True) (fun _ U_ oo_ V_ => ∃ vv_ LL_, oo_ = .returned vv_ ∧ Q_vof Z zCS wcI ccI zc h0 n0 vv_ V_.heap LL_ ∧ FrameEnd U_ oo_ V_ LL_ ({ frames := 2, cells := 2, slots := 5, locals := 27 } : Room).cells ({ frames := 2, cells := 2, slots := 5, locals := 27 } : Room).slots) := by
  refine MetFree.of_bodySF (plainFor_of_name pn_java_lang_String) hisR ?_
  intro p e s m args below meth c s₁ Bd hml0 hP hK
  obtain ⟨rfl, hZ, hh⟩ := hP
  have hx := Bd.exec
  have hby := Bd.bytes
  have hml : c.maxLocals = 1 := hml0
  have hown : s.vm.findClass "java/lang/String" = some m.cls := findClass_of_methodNamed Bd.named
  have hnm := (name_of_methodNamed Bd.named Bd.method).1
  have X0 : Stand p l e ({ frames := 2, cells := 2, slots := 5, locals := 27 } : Room) s m #[(.int zc)] below meth c s₁ [] 0 0 := Stand.of_body Bd
  have e0 : s₁.heap = h0 := by rw [← hh, Bd.state]; rfl
  have N0 := Fr.nil n0
  have Z0 : n0 ≤ h0.size := O0.1 ▸ O0.2.1
  have hk0 := Nat.zero_le h0.size
  have K0 : Keep h0 h0 [] := Keep.refl _ _
  have R0 : ∀ t, Steps p.tables e below (s₁.setTop (mkF m 0 #[.val (.int zc)] [])) t → Steps p.tables e below (s₁.setTop (entryFrame m #[(.int zc)] 1)) t := fun t k => castTop (ef_vof m zc) k
  obtain ⟨T1, X1, e1, st1⟩ := getS2 X0 hx hZ hown (host := "") (Or.inl (hw _ (List.mem_of_getElem? (i := 11) rfl))) Via.refl e0 (S_CS.ext O0.2) (g := (mkF m 0 #[.val (.int zc)] [])) rfl (hb hby d2_0)
  obtain ⟨_, _, ⟨T2, L2, k2, n2⟩, -, X2, ⟨Lc2, hQ2, cl_2, cy_2, cz_2⟩, st2⟩ := Jvm.LawKit.callS X1 hx (y := (⟨"java/lang/StringLatin1", "canEncode", "(C)Z"⟩ : MethodName)) hown (mvT hZ (hw _ (List.mem_of_getElem? (i := 12) rfl))) (mvT hZ (hw _ (List.mem_of_getElem? (i := 13) rfl))) (mvT hZ (hw _ (List.mem_of_getElem? (i := 14) rfl))) (mvT hZ (hw _ (List.mem_of_getElem? (i := 15) rfl))) (by decide) (backOf (W := 0) (canEnc l Z a0 hw [] zCS wcI ccI zc h0 n0 O0 S_CS hCS hcT0 hcT1 hcT2 hcH hcW S_cI B_cI S_hi   hzc) hZ (hw _ (List.mem_of_getElem? (i := 15) rfl)) (hw _ (List.mem_of_getElem? (i := 14) rfl)) (by decide) (by decide)) (g := (mkF m 7 #[.val (.int zc)] [(.int zc)])) rfl (by rw [hml]; rfl) (argsL := [(.int zc)]) (rest := []) (lenOf pd_2 rfl) rfl (by show 2 * 0 + _ ≤ _; exact Nat.le_of_eq rfl) (hb hby d2_7) (fun _ _ => ⟨rfl, e1, (by decide : 0 + 0 ≤ _), (by decide : 0 + 0 ≤ _)⟩)
  dsimp only [Pt.U, Pt.locs, Pt.cells, Pt.slots] at X2 cl_2 cy_2 cz_2 st2 hQ2
  rw [cl_2, cy_2, cz_2] at X2
  obtain ⟨rfl, N2q, e2⟩ := hQ2
  have N2 := Fr.app N0 N2q
  obtain ⟨T3, h3, X3, e3, E3, A3, D3, -, st3⟩ := newO X2 hx hZ hown (hw _ (List.mem_of_getElem? (i := 16) rfl)) (hw _ (List.mem_of_getElem? (i := 17) rfl)) (hw _ (List.mem_of_getElem? (i := 9) rfl)) e2 (g := (mkF m 13 #[.val (.int zc)] [])) rfl (hb hby d2_13) (by decide) (by decide)
  obtain ⟨b3, gg3⟩ : ∃ z, z = h0.size := ⟨_, rfl⟩
  rw [← gg3] at A3 D3 st3
  have g_b3 : n0 ≤ b3 := Nat.le_trans Z0 (Nat.le_of_eq gg3.symm)
  have sz_b3 : h0.size ≤ b3 := Nat.le_trans K0.1 (Nat.le_of_eq gg3.symm)
  have Z3 : n0 ≤ h3.size := Nat.le_trans Z0 E3.1
  have K3 : Keep h0 h3 [] := K0.ext E3
  have O3 : Old Z n0 h3 := O0.ext E3
  have F3_value : Fld Z h3 b3 "java/lang/String" "value" "[B" .null := D3 (Or.inr (hw _ (List.mem_of_getElem? (i := 30) rfl))) (ty := (.array .byte)) (by decide)
  have F3_coder : Fld Z h3 b3 "java/lang/String" "coder" "B" (.int (0 : Int32)) := D3 (Or.inr (hw _ (List.mem_of_getElem? (i := 32) rfl))) (ty := .byte) (by decide)
  obtain ⟨_, _, ⟨T4, L4, k4, n4⟩, -, X4, ⟨Lc4, hQ4, cl_4, cy_4, cz_4⟩, st4⟩ := Jvm.LawKit.callS X3 hx (y := (⟨"java/lang/StringLatin1", "toBytes", "(C)[B"⟩ : MethodName)) hown (mvT hZ (hw _ (List.mem_of_getElem? (i := 18) rfl))) (mvT hZ (hw _ (List.mem_of_getElem? (i := 19) rfl))) (mvT hZ (hw _ (List.mem_of_getElem? (i := 14) rfl))) (mvT hZ (hw _ (List.mem_of_getElem? (i := 20) rfl))) (by decide) (backOf (W := 2) (toBy l Z a0 hw [] zCS wcI ccI zc h3 n0 O3 S_CS hCS hcT0 hcT1 hcT2 hcH hcW S_cI B_cI S_hi   ) hZ (hw _ (List.mem_of_getElem? (i := 20) rfl)) (hw _ (List.mem_of_getElem? (i := 14) rfl)) (by decide) (by decide)) (g := (mkF m 18 #[.val (.int zc)] [(.int zc), (.ref b3), (.ref b3)])) rfl (by rw [hml]; rfl) (argsL := [(.int zc)]) (rest := [(.ref b3), (.ref b3)]) (lenOf pd_3 rfl) rfl (by show 2 * 0 + _ ≤ _; exact Nat.le_of_eq rfl) (hb hby d2_18) (fun _ _ => ⟨rfl, e3, (by decide : 1 + 1 ≤ _), (by decide : 4 + 1 ≤ _)⟩)
  dsimp only [Pt.U, Pt.locs, Pt.cells, Pt.slots] at X4 cl_4 cy_4 cz_4 st4 hQ4
  rw [cl_4, cy_4, cz_4] at X4
  obtain ⟨b4, kb4, rfl, N4q, K4q, fr4_b, y4_0⟩ := hQ4
  have N4 := Fr.app N2 N4q
  have ne_b3_b4 : b3 ≠ b4 := Nat.ne_of_lt (Nat.lt_of_lt_of_le A3.lt fr4_b)
  have g_b4 : n0 ≤ b4 := Nat.le_trans Z3 fr4_b
  have sz_b4 : h0.size ≤ b4 := Nat.le_trans K3.1 fr4_b
  have Z4 : n0 ≤ T4.heap.size := Nat.le_trans Z3 K4q.1
  have K4 : Keep h0 T4.heap [] := K3.trans K4q all0
  have O4 : Old Z n0 T4.heap := O3.keep K4q all0
  have f6 : Exa Z T4.heap b3 "java/lang/String" := (A3.keep K4q)
  have f7 : Fld Z T4.heap b3 "java/lang/String" "value" "[B" .null := (F3_value.keep K4q nin0)
  have f8 : Fld Z T4.heap b3 "java/lang/String" "coder" "B" (.int (0 : Int32)) := (F3_coder.keep K4q nin0)
  obtain ⟨_, _, ⟨T5, L5, k5, n5⟩, -, X5, ⟨Lc5, hQ5, cl_5, cy_5, cz_5⟩, st5⟩ := X4.specialBack hx (y := (⟨"java/lang/String", "<init>", "([BB)V"⟩ : MethodName)) rfl hown (mvT hZ (hw _ (List.mem_of_getElem? (i := 22) rfl))) (mvT hZ (hw _ (List.mem_of_getElem? (i := 23) rfl))) (mvT hZ (hw _ (List.mem_of_getElem? (i := 25) rfl))) (by decide) (backOf (W := 1) (sinB l Z a0 hw [] zCS wcI ccI b3 b4 .null (.int (0 : Int32)) T4.heap n0 O4 S_CS hCS hcT0 hcT1 hcT2 hcH hcW S_cI B_cI S_hi g_b3  f6 f7 f8) hZ (hw _ (List.mem_of_getElem? (i := 25) rfl)) (hw _ (List.mem_of_getElem? (i := 9) rfl)) (by decide) (by decide)) (g := (mkF m 22 #[.val (.int zc)] [(.int (0 : Int32)), (.ref b4), (.ref b3), (.ref b3)])) rfl (by rw [hml]; rfl) (Steps.refl _) (a := b3) (argsL := [(.ref b4), (.int (0 : Int32))]) (rest := [(.ref b3)]) (lenOf pd_4 rfl) rfl (by show 2 * 0 + _ ≤ _; exact Nat.le_of_eq rfl) (hb hby d2_22) (fun _ _ => ⟨rfl, rfl, (by decide : 2 + 0 ≤ _), (by decide : 5 + 0 ≤ _)⟩)
  dsimp only [Pt.U, Pt.locs, Pt.cells, Pt.slots] at X5 cl_5 cy_5 cz_5 st5 hQ5
  rw [cl_5, cy_5, cz_5] at X5
  obtain ⟨rfl, N5q, K5q, y5_0, y5_1, y5_2⟩ := hQ5
  have N5 := Fr.app N4 N5q
  have Z5 : n0 ≤ T5.heap.size := Nat.le_trans Z4 K5q.1
  have K5 : Keep h0 T5.heap [] := K4.trans K5q (allS (Or.inr sz_b3) all0)
  have O5 : Old Z n0 T5.heap := O4.keep K5q (allS g_b3 all0)
  have R9 : ∀ t, Steps p.tables e below (T5.setTop (mkF m 25 #[.val (.int zc)] [(.ref b3)])) t → Steps p.tables e below (s₁.setTop (entryFrame m #[(.int zc)] 1)) t := by
    intro t k
    refine R0 t ?_
    show Steps p.tables e below (s₁.setTop (mkF m 0 #[.val (.int zc)] [])) t
    refine st1 _ ?_
    show Steps p.tables e below (T1.setTop (mkF m 3 #[.val (.int zc)] [(.int zCS)])) t
    refine XS.ifNo X1.here hx rfl (hb hby d2_3) rfl ((if0 _ _).trans (feq (hCS : ¬ (zCS = (0 : Int32)))).1) ?_
    show Steps p.tables e below (T1.setTop (mkF m 6 #[.val (.int zc)] [])) t
    refine XS.iloadN X1.here hx rfl (hb hby d2_6) rfl ?_
    show Steps p.tables e below (T1.setTop (mkF m 7 #[.val (.int zc)] [(.int zc)])) t
    refine st2 _ ?_
    show Steps p.tables e below (T2.setTop (mkF m 10 #[.val (.int zc)] [(.int (1 : Int32))])) t
    refine XS.ifNo X2.here hx rfl (hb hby d2_10) rfl ((if0 _ _).trans (feq ((by decide) : ¬ ((1 : Int32) = (0 : Int32)))).1) ?_
    show Steps p.tables e below (T2.setTop (mkF m 13 #[.val (.int zc)] [])) t
    refine st3 _ ?_
    show Steps p.tables e below (T3.setTop (mkF m 16 #[.val (.int zc)] [(.ref b3)])) t
    refine XS.dup X3.here hx rfl (hb hby d2_16) rfl rfl ?_
    show Steps p.tables e below (T3.setTop (mkF m 17 #[.val (.int zc)] [(.ref b3), (.ref b3)])) t
    refine XS.iloadN X3.here hx rfl (hb hby d2_17) rfl ?_
    show Steps p.tables e below (T3.setTop (mkF m 18 #[.val (.int zc)] [(.int zc), (.ref b3), (.ref b3)])) t
    refine st4 _ ?_
    show Steps p.tables e below (T4.setTop (mkF m 21 #[.val (.int zc)] [(.ref b4), (.ref b3), (.ref b3)])) t
    refine XS.iconst X4.here hx rfl (hb hby d2_21) ?_
    show Steps p.tables e below (T4.setTop (mkF m 22 #[.val (.int zc)] [(.int (0 : Int32)), (.ref b4), (.ref b3), (.ref b3)])) t
    refine st5.trans ?_
    exact k
  have f10 : Arv Z T5.heap b4 kb4 .byte (1 : Int32) [(.int (zc.toInt8.toInt32))] (.int 0) := (y4_0.keep K5q (ninS (Ne.symm ne_b3_b4) nin0))
  obtain ⟨fs, hr, hrun, hended, hW, hsame⟩ := X5.leave (v := some (.ref b3)) (fun h => by rw [Bd.returns] at h; cases h)
  refine ⟨_, _, R9 _ ?_, hrun, hended, _, _, rfl, ?_, ⟨_, rfl⟩, hW, hsame.mono (by decide) (by decide)⟩
  · show Steps p.tables e below (T5.setTop (mkF m 25 #[.val (.int zc)] [(.ref b3)])) _
    exact retOut X5 hx Bd.returns rfl (Or.inr (Or.inr (Or.inr (Or.inr ⟨rfl, rfl, rfl⟩)))) (hb hby d2_25) hr
  · show Q_vof Z zCS wcI ccI zc h0 n0 _ T5.heap _
    exact ⟨b3, b4, kb4, rfl, N5, K5, sz_b3, sz_b4, y5_0, y5_1, y5_2, f10⟩
theorem d1_0 : decode method_2_code 0 = .ok (.iload_n 0, 1) := by decide +kernel
theorem d1_1 : decode method_2_code 1 = .ok (.bipush 8, 2) := by decide +kernel
theorem d1_3 : decode method_2_code 3 = .ok (.iushr, 1) := by decide +kernel
theorem d1_4 : decode method_2_code 4 = .ok (.iconst 1, 1) := by decide +kernel
theorem d1_5 : decode method_2_code 5 = .ok (.iand, 1) := by decide +kernel
theorem d1_6 : decode method_2_code 6 = .ok (.ifCond .eq 6, 3) := by decide +kernel
theorem d1_12 : decode method_2_code 12 = .ok (.iload_n 0, 1) := by decide +kernel
theorem d1_13 : decode method_2_code 13 = .ok (.sipush 255, 3) := by decide +kernel
theorem d1_16 : decode method_2_code 16 = .ok (.iand, 1) := by decide +kernel
theorem d1_17 : decode method_2_code 17 = .ok (.i2c, 1) := by decide +kernel
theorem pd_5 : parseMethodDescriptor "(C)Ljava/lang/String;" = some ⟨[.char], some (.object "java/lang/String")⟩ := by decide +kernel
theorem d1_18 : decode method_2_code 18 = .ok (.invokestatic 9, 3) := by decide +kernel
theorem d1_21 : decode method_2_code 21 = .ok (.areturn, 1) := by decide +kernel
theorem d1_9 : decode method_2_code 9 = .ok (.ldc 7, 2) := by decide +kernel
theorem d1_11 : decode method_2_code 11 = .ok (.areturn, 1) := by decide +kernel
theorem pn_com_example_relayout_relayout_plan_TransferEqualsPinLaw : plainName "com/example/relayout/relayout/plan/TransferEqualsPinLaw" = true := by first | (simp [plainName, overriddenIn]; done) | decide +kernel
theorem ef_idc (m : MethodId) (px : Int32) (AA : List String) : entryFrame m #[(.int px)] 1 = mkF m 0 #[.val (.int px)] [] := by first | (simp [entryFrame, mkF, argsToLocals, Value.category]; done) | rfl
def Q_idc (Z : State) (zCS : Int32) (wcI : Addr) (ccI : Cell) (px : Int32) (AA : List String) (h0 : Heap) (n0 : Nat) (vv_ : Option Value) (hh_ : Heap) (vm_ : Vm) (LL_ : List Loc) : Prop := ∃ (b : Addr) (tt : Addr) (kb : ClassId) (nn : Int32) (vs : List Value), vv_ = some (.ref b) ∧ (Fr n0 LL_) ∧ (Keep h0 hh_ []) ∧ (Exa Z hh_ b "java/lang/String") ∧ (Fld Z hh_ b "java/lang/String" "coder" "B" (.int (0 : Int32))) ∧ (Fld Z hh_ b "java/lang/String" "value" "[B" (.ref tt)) ∧ (Arv Z hh_ tt kb .byte nn vs (.int 0)) ∧ (own_C (own_key px) nn vs) ∧ (LS Z "com/example/relayout/relayout/plan/TransferEqualsPinLaw" 7 AA vm_ hh_ hh_.size)
set_option maxRecDepth 65536 in
set_option maxHeartbeats 40000000 in
theorem idc (l : Launch) (Z : State) (a0 : Array Value) (hw : ∀ d ∈ tables_1, d.before a0 Z = true) (ws : List Jvm.Cond) (zCS : Int32) (wcI : Addr) (ccI : Cell) (px : Int32) (AA : List String) (NN : Nat) (h0 : Heap) (n0 : Nat) (O0 : Old Z n0 h0) (S_CS : Sta Z Z.heap "java/lang/String" "COMPACT_STRINGS" "Z" (.int zCS)) (hCS : ¬ (zCS = (0 : Int32))) (hcT0 : Jvm.Lit.constHeld Z "com/example/relayout/relayout/plan/Transfer" 7) (hcT1 : Jvm.Lit.constHeld Z "com/example/relayout/relayout/plan/Transfer" 22) (hcT2 : Jvm.Lit.constHeld Z "com/example/relayout/relayout/plan/Transfer" 26) (hcH : Jvm.Lit.constHeld Z "com/example/relayout/relayout/plan/TransferEqualsPinLaw" 7) (hcW : Jvm.Lit.compactW.before a0 Z = true) (S_cI : Sta Z Z.heap "java/lang/Integer$IntegerCache" "cache" "[Ljava/lang/Integer;" (.ref wcI)) (B_cI : Bxs Z wcI ccI "java/lang/Integer" "I" 256 (fun j => .int (j - 128))) (S_hi : Sta Z Z.heap "java/lang/Integer$IntegerCache" "high" "I" (.int (127 : Int32))) :
    MetFree l (⟨"com/example/relayout/relayout/plan/TransferEqualsPinLaw", "id", "(I)Ljava/lang/String;"⟩ : MethodName) (head1 (Jvm.Cond.code (⟨"com/example/relayout/relayout/plan/TransferEqualsPinLaw", "id", "(I)Ljava/lang/String;"⟩ : MethodName) method_2_code 1 (some (.object "java/lang/String")) :: ws) ({ frames := 3, cells := 2, slots := 5, locals := 39 } : Room)) (fun aa_ U_ => aa_ = #[(.int px)] ∧ (Z.Warmed39 U_.vm ∧ LS Z "com/example/relayout/relayout/plan/TransferEqualsPinLaw" 7 AA U_.vm h0 NN) ∧ U_.heap = h0) (fun _ _ _ _ _ => True) (fun _ U_ oo_ V_ => ∃ vv_ LL_, oo_ = .returned vv_ ∧ Q_idc Z zCS wcI ccI px AA h0 n0 vv_ V_.heap V_.vm LL_ ∧ ReturnedEndW U_ oo_ V_ LL_ ({ frames := 3, cells := 2, slots := 5, locals := 39 } : Room).cells ({ frames := 3, cells := 2, slots := 5, locals := 39 } : Room).slots) := by
  refine MetFree.of_bodySF (plainFor_of_name pn_com_example_relayout_relayout_plan_TransferEqualsPinLaw) hisR ?_
  intro p e s m args below meth c s₁ Bd hml0 hP hK
  obtain ⟨rfl, ⟨hZ, hL0⟩, hh⟩ := hP
  have hx := Bd.exec
  have hby := Bd.bytes
  have hml : c.maxLocals = 1 := hml0
  have hown : s.vm.findClass "com/example/relayout/relayout/plan/TransferEqualsPinLaw" = some m.cls := findClass_of_methodNamed Bd.named
  have hnm := (name_of_methodNamed Bd.named Bd.method).1
  have hZ0 : Z.Warmed39 (s.setVm s.vm).vm := hZ
  have hown0 : (s.setVm s.vm).vm.findClass "com/example/relayout/relayout/plan/TransferEqualsPinLaw" = some m.cls := hown
  have hS0 : s.Since s.vm 0 := ⟨State.Warmed39.refl s, fun j p h1 h2 => absurd (Array.getElem?_eq_some_iff.mp h2).1 (Nat.not_lt.mpr h1)⟩
  have X0 : Stand p l e ({ frames := 3, cells := 2, slots := 5, locals := 39 } : Room) (s.setVm s.vm) m #[(.int px)] below meth c s₁ [] 0 0 := Stand.of_body Bd
  have e0 : s₁.heap = h0 := by rw [← hh, Bd.state]; rfl
  have N0 := Fr.nil n0
  have Z0 : n0 ≤ h0.size := O0.1 ▸ O0.2.1
  have hk0 := Nat.zero_le h0.size
  have K0 : Keep h0 h0 [] := Keep.refl _ _
  have R0 : ∀ t, Steps p.tables e below (s₁.setTop (mkF m 0 #[.val (.int px)] [])) t → Steps p.tables e below (s₁.setTop (entryFrame m #[(.int px)] 1)) t := fun t k => castTop (ef_idc m px AA) k
  have R1 : ∀ t, Steps p.tables e below (s₁.setTop (mkF m 6 #[.val (.int px)] [(.int (((px.toUInt32 >>> ((8 : Int32) &&& 31).toUInt32).toInt32) &&& (1 : Int32)))])) t → Steps p.tables e below (s₁.setTop (entryFrame m #[(.int px)] 1)) t := by
    intro t k
    refine R0 t ?_
    show Steps p.tables e below (s₁.setTop (mkF m 0 #[.val (.int px)] [])) t
    refine XS.iloadN X0.here hx rfl (hb hby d1_0) rfl ?_
    show Steps p.tables e below (s₁.setTop (mkF m 1 #[.val (.int px)] [(.int px)])) t
    refine XS.bipush X0.here hx rfl (hb hby d1_1) ?_
    show Steps p.tables e below (s₁.setTop (mkF m 3 #[.val (.int px)] [(.int (8 : Int32)), (.int px)])) t
    refine XS.iushr X0.here hx rfl (hb hby d1_3) rfl ?_
    show Steps p.tables e below (s₁.setTop (mkF m 4 #[.val (.int px)] [(.int ((px.toUInt32 >>> ((8 : Int32) &&& 31).toUInt32).toInt32))])) t
    refine XS.iconst X0.here hx rfl (hb hby d1_4) ?_
    show Steps p.tables e below (s₁.setTop (mkF m 5 #[.val (.int px)] [(.int (1 : Int32)), (.int ((px.toUInt32 >>> ((8 : Int32) &&& 31).toUInt32).toInt32))])) t
    refine XS.iand X0.here hx rfl (hb hby d1_5) rfl ?_
    exact k
  by_cases hbt : (((px.toUInt32 >>> ((8 : Int32) &&& 31).toUInt32).toInt32) &&& (1 : Int32)) = (0 : Int32)
  · obtain ⟨_, _, ⟨T2, L2, k2, n2⟩, -, X2, ⟨Lc2, hQ2, cl_2, cy_2, cz_2⟩, st2⟩ := Jvm.LawKit.callS X0 hx (y := (⟨"java/lang/String", "valueOf", "(C)Ljava/lang/String;"⟩ : MethodName)) hown0 (mvT hZ0 (hw _ (List.mem_of_getElem? (i := 7) rfl))) (mvT hZ0 (hw _ (List.mem_of_getElem? (i := 8) rfl))) (mvT hZ0 (hw _ (List.mem_of_getElem? (i := 9) rfl))) (mvT hZ0 (hw _ (List.mem_of_getElem? (i := 10) rfl))) (by decide) (backOf (W := 0) (vof l Z a0 hw [] zCS wcI ccI ((px &&& (255 : Int32)).toUInt32.toUInt16.toUInt32.toInt32) h0 n0 O0 S_CS hCS hcT0 hcT1 hcT2 hcH hcW S_cI B_cI S_hi   (own_z255 px).2) hZ0 (hw _ (List.mem_of_getElem? (i := 10) rfl)) (hw _ (List.mem_of_getElem? (i := 9) rfl)) (by decide) (by decide)) (g := (mkF m 18 #[.val (.int px)] [(.int ((px &&& (255 : Int32)).toUInt32.toUInt16.toUInt32.toInt32))])) rfl (by rw [hml]; rfl) (argsL := [(.int ((px &&& (255 : Int32)).toUInt32.toUInt16.toUInt32.toInt32))]) (rest := []) (lenOf pd_5 rfl) rfl (by show 2 * 0 + _ ≤ _; exact Nat.le_of_eq rfl) (hb hby d1_18) (fun _ _ => ⟨rfl, e0, (by decide : 0 + 2 ≤ _), (by decide : 0 + 5 ≤ _)⟩)
    dsimp only [Pt.U, Pt.locs, Pt.cells, Pt.slots] at X2 cl_2 cy_2 cz_2 st2 hQ2
    rw [cl_2, cy_2, cz_2] at X2
    obtain ⟨b2, tt2, kb2, rfl, N2q, K2q, fr2_b, fr2_tt, y2_0, y2_1, y2_2, y2_3⟩ := hQ2
    have N2 := Fr.app N0 N2q
    have g_b2 : n0 ≤ b2 := Nat.le_trans Z0 fr2_b
    have sz_b2 : h0.size ≤ b2 := Nat.le_trans K0.1 fr2_b
    have nl_b2 : NN ≤ b2 := Nat.le_trans hL0.1 fr2_b
    have g_tt2 : n0 ≤ tt2 := Nat.le_trans Z0 fr2_tt
    have sz_tt2 : h0.size ≤ tt2 := Nat.le_trans K0.1 fr2_tt
    have nl_tt2 : NN ≤ tt2 := Nat.le_trans hL0.1 fr2_tt
    have Z2 : n0 ≤ T2.heap.size := Nat.le_trans Z0 K2q.1
    have K2 : Keep h0 T2.heap [] := K0.trans K2q all0
    have O2 : Old Z n0 T2.heap := O0.keep K2q all0
    have hL2 := hL0.keep K2q all0
    have hk2 := Nat.le_trans hk0 K2q.1
    have R3 : ∀ t, Steps p.tables e below (T2.setTop (mkF m 21 #[.val (.int px)] [(.ref b2)])) t → Steps p.tables e below (s₁.setTop (entryFrame m #[(.int px)] 1)) t := by
      intro t k
      refine R1 t ?_
      show Steps p.tables e below (s₁.setTop (mkF m 6 #[.val (.int px)] [(.int (((px.toUInt32 >>> ((8 : Int32) &&& 31).toUInt32).toInt32) &&& (1 : Int32)))])) t
      refine XS.ifYes X0.here hx rfl (pc0 := 6) (pc' := 12) rfl (hb hby d1_6) rfl ((if0 _ _).trans (teq (hbt : (((px.toUInt32 >>> ((8 : Int32) &&& 31).toUInt32).toInt32) &&& (1 : Int32)) = (0 : Int32))).1) (by decide) (by decide) ?_
      show Steps p.tables e below (s₁.setTop (mkF m 12 #[.val (.int px)] [])) t
      refine XS.iloadN X0.here hx rfl (hb hby d1_12) rfl ?_
      show Steps p.tables e below (s₁.setTop (mkF m 13 #[.val (.int px)] [(.int px)])) t
      refine XS.sipush X0.here hx rfl (hb hby d1_13) ?_
      show Steps p.tables e below (s₁.setTop (mkF m 16 #[.val (.int px)] [(.int (255 : Int32)), (.int px)])) t
      refine XS.iand X0.here hx rfl (hb hby d1_16) rfl ?_
      show Steps p.tables e below (s₁.setTop (mkF m 17 #[.val (.int px)] [(.int (px &&& (255 : Int32)))])) t
      refine XS.i2c X0.here hx rfl (hb hby d1_17) rfl ?_
      show Steps p.tables e below (s₁.setTop (mkF m 18 #[.val (.int px)] [(.int ((px &&& (255 : Int32)).toUInt32.toUInt16.toUInt32.toInt32))])) t
      refine st2 _ ?_
      exact k
    obtain ⟨fs, hr, hrun, hended, hRW⟩ := X2.leaveW hS0 hk2 (v := some (.ref b2)) (fun h => by rw [Bd.returns] at h; cases h)
    refine ⟨_, _, R3 _ ?_, hrun, hended, _, _, rfl, ?_, hRW.1, hRW.2.1, hRW.2.2.1, hRW.2.2.2.mono (by decide) (by decide)⟩
    · show Steps p.tables e below (T2.setTop (mkF m 21 #[.val (.int px)] [(.ref b2)])) _
      exact retOut X2 hx Bd.returns rfl (Or.inr (Or.inr (Or.inr (Or.inr ⟨rfl, rfl, rfl⟩)))) (hb hby d1_21) hr
    · show Q_idc Z zCS wcI ccI px AA h0 n0 _ T2.heap T2.vm _
      exact ⟨b2, tt2, kb2, (1 : Int32), [(.int (((px &&& (255 : Int32)).toUInt32.toUInt16.toUInt32.toInt32).toInt8.toInt32))], rfl, N2, K2, y2_0, y2_1, y2_2, y2_3, (own_idY hbt), ((LS.warm (s := s) hL2 X2.warmed).up hL2.1 (Nat.le_refl _))⟩
  · obtain ⟨a4, T4, h4, k4, b4, kb4, X4, e4, E4, hS4, hk4, hZ4, hown4, Ea4, Ca4, Va4, Aa4, la4, lb4, hL4, Li4, st4⟩ := own_ldcE X0 hx hZ0 hown0 (hw _ (List.mem_of_getElem? (i := 76) rfl)) (own_sat hw) e0 hS0 hk0 (fun b cl q => by rw [e0]; rw [← hh]; exact q) (fun b cl q => by rw [hh]; exact O0.2.2 b cl q) hL0 hcH hcW (g := (mkF m 9 #[.val (.int px)] [])) rfl (hb hby d1_9) (by decide) (by decide)
    have Z4 : n0 ≤ h4.size := Nat.le_trans Z0 E4.1
    have K4 : Keep h0 h4 [] := K0.ext E4
    have O4 : Old Z n0 h4 := O0.ext E4
    have R5 : ∀ t, Steps p.tables e below (T4.setTop (mkF m 11 #[.val (.int px)] [(.ref a4)])) t → Steps p.tables e below (s₁.setTop (entryFrame m #[(.int px)] 1)) t := by
      intro t k
      refine R1 t ?_
      show Steps p.tables e below (s₁.setTop (mkF m 6 #[.val (.int px)] [(.int (((px.toUInt32 >>> ((8 : Int32) &&& 31).toUInt32).toInt32) &&& (1 : Int32)))])) t
      refine XS.ifNo X0.here hx rfl (hb hby d1_6) rfl ((if0 _ _).trans (feq (hbt : ¬ ((((px.toUInt32 >>> ((8 : Int32) &&& 31).toUInt32).toInt32) &&& (1 : Int32)) = (0 : Int32)))).1) ?_
      show Steps p.tables e below (s₁.setTop (mkF m 9 #[.val (.int px)] [])) t
      refine st4 _ ?_
      exact k
    obtain ⟨fs, hr, hrun, hended, hRW⟩ := X4.leaveW hS4 (by rw [e4]; exact hk4) (v := some (.ref a4)) (fun h => by rw [Bd.returns] at h; cases h)
    refine ⟨_, _, R5 _ ?_, hrun, hended, _, _, rfl, ?_, hRW.1, hRW.2.1, hRW.2.2.1, hRW.2.2.2.mono (by decide) (by decide)⟩
    · show Steps p.tables e below (T4.setTop (mkF m 11 #[.val (.int px)] [(.ref a4)])) _
      exact retOut X4 hx Bd.returns rfl (Or.inr (Or.inr (Or.inr (Or.inr ⟨rfl, rfl, rfl⟩)))) (hb hby d1_11) hr
    · show Q_idc Z zCS wcI ccI px AA h0 n0 _ T4.heap T4.vm _
      rw [e4]
      exact ⟨a4, b4, kb4, (0 : Int32), [], rfl, N0, K4, Ea4, Ca4, Va4, Aa4, (own_idN hbt), ((LS.warm (s := s) hL4 X4.warmed).up hL4.1 (Nat.le_refl _))⟩
theorem d12_0 : decode method_3_code 0 = .ok (.iload_n 0, 1) := by decide +kernel
theorem d12_1 : decode method_3_code 1 = .ok (.bipush 8, 2) := by decide +kernel
theorem d12_3 : decode method_3_code 3 = .ok (.iushr, 1) := by decide +kernel
theorem d12_4 : decode method_3_code 4 = .ok (.iconst 1, 1) := by decide +kernel
theorem d12_5 : decode method_3_code 5 = .ok (.iand, 1) := by decide +kernel
theorem d12_6 : decode method_3_code 6 = .ok (.ifCond .eq 5, 3) := by decide +kernel
theorem d12_11 : decode method_3_code 11 = .ok (.iload_n 0, 1) := by decide +kernel
theorem d12_12 : decode method_3_code 12 = .ok (.sipush 255, 3) := by decide +kernel
theorem d12_15 : decode method_3_code 15 = .ok (.iand, 1) := by decide +kernel
theorem d12_16 : decode method_3_code 16 = .ok (.ireturn, 1) := by decide +kernel
theorem d12_9 : decode method_3_code 9 = .ok (.iconst (-1), 1) := by decide +kernel
theorem d12_10 : decode method_3_code 10 = .ok (.ireturn, 1) := by decide +kernel
theorem ef_keyc (m : MethodId) (px : Int32) : entryFrame m #[(.int px)] 1 = mkF m 0 #[.val (.int px)] [] := by first | (simp [entryFrame, mkF, argsToLocals, Value.category]; done) | rfl
def Q_keyc (Z : State) (zCS : Int32) (wcI : Addr) (ccI : Cell) (px : Int32) (h0 : Heap) (n0 : Nat) (vv_ : Option Value) (hh_ : Heap) (LL_ : List Loc) : Prop := vv_ = some (.int (own_key px)) ∧ (Fr n0 LL_) ∧ (hh_ = h0)
set_option maxRecDepth 65536 in
set_option maxHeartbeats 40000000 in
theorem keyc (l : Launch) (Z : State) (a0 : Array Value) (hw : ∀ d ∈ tables_1, d.before a0 Z = true) (ws : List Jvm.Cond) (zCS : Int32) (wcI : Addr) (ccI : Cell) (px : Int32) (h0 : Heap) (n0 : Nat) (O0 : Old Z n0 h0) (S_CS : Sta Z Z.heap "java/lang/String" "COMPACT_STRINGS" "Z" (.int zCS)) (hCS : ¬ (zCS = (0 : Int32))) (hcT0 : Jvm.Lit.constHeld Z "com/example/relayout/relayout/plan/Transfer" 7) (hcT1 : Jvm.Lit.constHeld Z "com/example/relayout/relayout/plan/Transfer" 22) (hcT2 : Jvm.Lit.constHeld Z "com/example/relayout/relayout/plan/Transfer" 26) (hcH : Jvm.Lit.constHeld Z "com/example/relayout/relayout/plan/TransferEqualsPinLaw" 7) (hcW : Jvm.Lit.compactW.before a0 Z = true) (S_cI : Sta Z Z.heap "java/lang/Integer$IntegerCache" "cache" "[Ljava/lang/Integer;" (.ref wcI)) (B_cI : Bxs Z wcI ccI "java/lang/Integer" "I" 256 (fun j => .int (j - 128))) (S_hi : Sta Z Z.heap "java/lang/Integer$IntegerCache" "high" "I" (.int (127 : Int32))) :
    MetFree l (⟨"com/example/relayout/relayout/plan/TransferEqualsPinLaw", "key", "(I)I"⟩ : MethodName) (head1 (Jvm.Cond.code (⟨"com/example/relayout/relayout/plan/TransferEqualsPinLaw", "key", "(I)I"⟩ : MethodName) method_3_code 1 (some .int) :: ws) ({ frames := 0, cells := 0, slots := 0, locals := 0 } : Room)) (fun aa_ U_ => aa_ = #[(.int px)] ∧ Z.Warmed39 U_.vm ∧ U_.heap = h0) (fun _ _ _ _ _ => True) (fun _ U_ oo_ V_ => ∃ vv_ LL_, oo_ = .returned vv_ ∧ Q_keyc Z zCS wcI ccI px h0 n0 vv_ V_.heap LL_ ∧ FrameEnd U_ oo_ V_ LL_ ({ frames := 0, cells := 0, slots := 0, locals := 0 } : Room).cells ({ frames := 0, cells := 0, slots := 0, locals := 0 } : Room).slots) := by
  refine MetFree.of_bodySF (plainFor_of_name pn_com_example_relayout_relayout_plan_TransferEqualsPinLaw) hisR ?_
  intro p e s m args below meth c s₁ Bd hml0 hP hK
  obtain ⟨rfl, hZ, hh⟩ := hP
  have hx := Bd.exec
  have hby := Bd.bytes
  have hml : c.maxLocals = 1 := hml0
  have hown : s.vm.findClass "com/example/relayout/relayout/plan/TransferEqualsPinLaw" = some m.cls := findClass_of_methodNamed Bd.named
  have hnm := (name_of_methodNamed Bd.named Bd.method).1
  have X0 : Stand p l e ({ frames := 0, cells := 0, slots := 0, locals := 0 } : Room) s m #[(.int px)] below meth c s₁ [] 0 0 := Stand.of_body Bd
  have e0 : s₁.heap = h0 := by rw [← hh, Bd.state]; rfl
  have N0 := Fr.nil n0
  have Z0 : n0 ≤ h0.size := O0.1 ▸ O0.2.1
  have hk0 := Nat.zero_le h0.size
  have K0 : Keep h0 h0 [] := Keep.refl _ _
  have R0 : ∀ t, Steps p.tables e below (s₁.setTop (mkF m 0 #[.val (.int px)] [])) t → Steps p.tables e below (s₁.setTop (entryFrame m #[(.int px)] 1)) t := fun t k => castTop (ef_keyc m px) k
  have R1 : ∀ t, Steps p.tables e below (s₁.setTop (mkF m 6 #[.val (.int px)] [(.int (((px.toUInt32 >>> ((8 : Int32) &&& 31).toUInt32).toInt32) &&& (1 : Int32)))])) t → Steps p.tables e below (s₁.setTop (entryFrame m #[(.int px)] 1)) t := by
    intro t k
    refine R0 t ?_
    show Steps p.tables e below (s₁.setTop (mkF m 0 #[.val (.int px)] [])) t
    refine XS.iloadN X0.here hx rfl (hb hby d12_0) rfl ?_
    show Steps p.tables e below (s₁.setTop (mkF m 1 #[.val (.int px)] [(.int px)])) t
    refine XS.bipush X0.here hx rfl (hb hby d12_1) ?_
    show Steps p.tables e below (s₁.setTop (mkF m 3 #[.val (.int px)] [(.int (8 : Int32)), (.int px)])) t
    refine XS.iushr X0.here hx rfl (hb hby d12_3) rfl ?_
    show Steps p.tables e below (s₁.setTop (mkF m 4 #[.val (.int px)] [(.int ((px.toUInt32 >>> ((8 : Int32) &&& 31).toUInt32).toInt32))])) t
    refine XS.iconst X0.here hx rfl (hb hby d12_4) ?_
    show Steps p.tables e below (s₁.setTop (mkF m 5 #[.val (.int px)] [(.int (1 : Int32)), (.int ((px.toUInt32 >>> ((8 : Int32) &&& 31).toUInt32).toInt32))])) t
    refine XS.iand X0.here hx rfl (hb hby d12_5) rfl ?_
    exact k
  by_cases hbt : (((px.toUInt32 >>> ((8 : Int32) &&& 31).toUInt32).toInt32) &&& (1 : Int32)) = (0 : Int32)
  · have R2 : ∀ t, Steps p.tables e below (s₁.setTop (mkF m 16 #[.val (.int px)] [(.int (px &&& (255 : Int32)))])) t → Steps p.tables e below (s₁.setTop (entryFrame m #[(.int px)] 1)) t := by
      intro t k
      refine R1 t ?_
      show Steps p.tables e below (s₁.setTop (mkF m 6 #[.val (.int px)] [(.int (((px.toUInt32 >>> ((8 : Int32) &&& 31).toUInt32).toInt32) &&& (1 : Int32)))])) t
      refine XS.ifYes X0.here hx rfl (pc0 := 6) (pc' := 11) rfl (hb hby d12_6) rfl ((if0 _ _).trans (teq (hbt : (((px.toUInt32 >>> ((8 : Int32) &&& 31).toUInt32).toInt32) &&& (1 : Int32)) = (0 : Int32))).1) (by decide) (by decide) ?_
      show Steps p.tables e below (s₁.setTop (mkF m 11 #[.val (.int px)] [])) t
      refine XS.iloadN X0.here hx rfl (hb hby d12_11) rfl ?_
      show Steps p.tables e below (s₁.setTop (mkF m 12 #[.val (.int px)] [(.int px)])) t
      refine XS.sipush X0.here hx rfl (hb hby d12_12) ?_
      show Steps p.tables e below (s₁.setTop (mkF m 15 #[.val (.int px)] [(.int (255 : Int32)), (.int px)])) t
      refine XS.iand X0.here hx rfl (hb hby d12_15) rfl ?_
      exact k
    obtain ⟨fs, hr, hrun, hended, hW, hsame⟩ := X0.leave (v := some (.int (px &&& (255 : Int32)))) (fun h => by rw [Bd.returns] at h; cases h)
    refine ⟨_, _, R2 _ ?_, hrun, hended, _, _, rfl, ?_, ⟨_, rfl⟩, hW, hsame.mono (by decide) (by decide)⟩
    · show Steps p.tables e below (s₁.setTop (mkF m 16 #[.val (.int px)] [(.int (px &&& (255 : Int32)))])) _
      exact retOut X0 hx Bd.returns rfl (Or.inl ⟨rfl, Or.inl rfl, _, rfl⟩) (hb hby d12_16) hr
    · show Q_keyc Z zCS wcI ccI px h0 n0 _ s₁.heap _
      rw [e0]
      exact ⟨(by rw [own_key, if_pos hbt]), N0, rfl⟩
  · have R3 : ∀ t, Steps p.tables e below (s₁.setTop (mkF m 10 #[.val (.int px)] [(.int (-1 : Int32))])) t → Steps p.tables e below (s₁.setTop (entryFrame m #[(.int px)] 1)) t := by
      intro t k
      refine R1 t ?_
      show Steps p.tables e below (s₁.setTop (mkF m 6 #[.val (.int px)] [(.int (((px.toUInt32 >>> ((8 : Int32) &&& 31).toUInt32).toInt32) &&& (1 : Int32)))])) t
      refine XS.ifNo X0.here hx rfl (hb hby d12_6) rfl ((if0 _ _).trans (feq (hbt : ¬ ((((px.toUInt32 >>> ((8 : Int32) &&& 31).toUInt32).toInt32) &&& (1 : Int32)) = (0 : Int32)))).1) ?_
      show Steps p.tables e below (s₁.setTop (mkF m 9 #[.val (.int px)] [])) t
      refine XS.iconst X0.here hx rfl (hb hby d12_9) ?_
      exact k
    obtain ⟨fs, hr, hrun, hended, hW, hsame⟩ := X0.leave (v := some (.int (-1 : Int32))) (fun h => by rw [Bd.returns] at h; cases h)
    refine ⟨_, _, R3 _ ?_, hrun, hended, _, _, rfl, ?_, ⟨_, rfl⟩, hW, hsame.mono (by decide) (by decide)⟩
    · show Steps p.tables e below (s₁.setTop (mkF m 10 #[.val (.int px)] [(.int (-1 : Int32))])) _
      exact retOut X0 hx Bd.returns rfl (Or.inl ⟨rfl, Or.inl rfl, _, rfl⟩) (hb hby d12_10) hr
    · show Q_keyc Z zCS wcI ccI px h0 n0 _ s₁.heap _
      rw [e0]
      exact ⟨(by rw [own_key, if_neg hbt]), N0, rfl⟩
theorem d8_0 : decode jdk_31_method_11_code 0 = .ok (.aload_n 0, 1) := by decide +kernel
theorem d8_1 : decode jdk_31_method_11_code 1 = .ok (.ifnonnull 12, 3) := by decide +kernel
theorem d8_13 : decode jdk_31_method_11_code 13 = .ok (.aload_n 0, 1) := by decide +kernel
theorem d8_14 : decode jdk_31_method_11_code 14 = .ok (.areturn, 1) := by decide +kernel
theorem pn_java_util_Objects : plainName "java/util/Objects" = true := by first | (simp [plainName, overriddenIn]; done) | decide +kernel
theorem ef_rnn (m : MethodId) (a : Addr) (mm : Addr) : entryFrame m #[(.ref a), (.ref mm)] 2 = mkF m 0 #[.val (.ref a), .val (.ref mm)] [] := by first | (simp [entryFrame, mkF, argsToLocals, Value.category]; done) | rfl
def Q_rnn (Z : State) (zCS : Int32) (wcI : Addr) (ccI : Cell) (a : Addr) (mm : Addr) (h0 : Heap) (n0 : Nat) (vv_ : Option Value) (hh_ : Heap) (LL_ : List Loc) : Prop := vv_ = some (.ref a) ∧ (Fr n0 LL_) ∧ (hh_ = h0)
set_option maxRecDepth 65536 in
set_option maxHeartbeats 40000000 in
theorem rnn (l : Launch) (Z : State) (a0 : Array Value) (hw : ∀ d ∈ tables_1, d.before a0 Z = true) (ws : List Jvm.Cond) (zCS : Int32) (wcI : Addr) (ccI : Cell) (a : Addr) (mm : Addr) (h0 : Heap) (n0 : Nat) (O0 : Old Z n0 h0) (S_CS : Sta Z Z.heap "java/lang/String" "COMPACT_STRINGS" "Z" (.int zCS)) (hCS : ¬ (zCS = (0 : Int32))) (hcT0 : Jvm.Lit.constHeld Z "com/example/relayout/relayout/plan/Transfer" 7) (hcT1 : Jvm.Lit.constHeld Z "com/example/relayout/relayout/plan/Transfer" 22) (hcT2 : Jvm.Lit.constHeld Z "com/example/relayout/relayout/plan/Transfer" 26) (hcH : Jvm.Lit.constHeld Z "com/example/relayout/relayout/plan/TransferEqualsPinLaw" 7) (hcW : Jvm.Lit.compactW.before a0 Z = true) (S_cI : Sta Z Z.heap "java/lang/Integer$IntegerCache" "cache" "[Ljava/lang/Integer;" (.ref wcI)) (B_cI : Bxs Z wcI ccI "java/lang/Integer" "I" 256 (fun j => .int (j - 128))) (S_hi : Sta Z Z.heap "java/lang/Integer$IntegerCache" "high" "I" (.int (127 : Int32))) :
    MetFree l (⟨"java/util/Objects", "requireNonNull", "(Ljava/lang/Object;Ljava/lang/String;)Ljava/lang/Object;"⟩ : MethodName) (head1 (Jvm.Cond.code (⟨"java/util/Objects", "requireNonNull", "(Ljava/lang/Object;Ljava/lang/String;)Ljava/lang/Object;"⟩ : MethodName) jdk_31_method_11_code 2 (some (.object "java/lang/Object")) :: ws) ({ frames := 0, cells := 0, slots := 0, locals := 0 } : Room)) (fun aa_ U_ => aa_ = #[(.ref a), (.ref mm)] ∧ Z.Warmed39 U_.vm ∧ U_.heap = h0) (fun _ _ _ _ _ => True) (fun _ U_ oo_ V_ => ∃ vv_ LL_, oo_ = .returned vv_ ∧ Q_rnn Z zCS wcI ccI a mm h0 n0 vv_ V_.heap LL_ ∧ FrameEnd U_ oo_ V_ LL_ ({ frames := 0, cells := 0, slots := 0, locals := 0 } : Room).cells ({ frames := 0, cells := 0, slots := 0, locals := 0 } : Room).slots) := by
  refine MetFree.of_bodySF (plainFor_of_name pn_java_util_Objects) hisR ?_
  intro p e s m args below meth c s₁ Bd hml0 hP hK
  obtain ⟨rfl, hZ, hh⟩ := hP
  have hx := Bd.exec
  have hby := Bd.bytes
  have hml : c.maxLocals = 2 := hml0
  have hown : s.vm.findClass "java/util/Objects" = some m.cls := findClass_of_methodNamed Bd.named
  have hnm := (name_of_methodNamed Bd.named Bd.method).1
  have X0 : Stand p l e ({ frames := 0, cells := 0, slots := 0, locals := 0 } : Room) s m #[(.ref a), (.ref mm)] below meth c s₁ [] 0 0 := Stand.of_body Bd
  have e0 : s₁.heap = h0 := by rw [← hh, Bd.state]; rfl
  have N0 := Fr.nil n0
  have Z0 : n0 ≤ h0.size := O0.1 ▸ O0.2.1
  have hk0 := Nat.zero_le h0.size
  have K0 : Keep h0 h0 [] := Keep.refl _ _
  have R0 : ∀ t, Steps p.tables e below (s₁.setTop (mkF m 0 #[.val (.ref a), .val (.ref mm)] [])) t → Steps p.tables e below (s₁.setTop (entryFrame m #[(.ref a), (.ref mm)] 2)) t := fun t k => castTop (ef_rnn m a mm) k
  have R1 : ∀ t, Steps p.tables e below (s₁.setTop (mkF m 14 #[.val (.ref a), .val (.ref mm)] [(.ref a)])) t → Steps p.tables e below (s₁.setTop (entryFrame m #[(.ref a), (.ref mm)] 2)) t := by
    intro t k
    refine R0 t ?_
    show Steps p.tables e below (s₁.setTop (mkF m 0 #[.val (.ref a), .val (.ref mm)] [])) t
    refine XS.aloadN X0.here hx rfl (hb hby d8_0) rfl rfl ?_
    show Steps p.tables e below (s₁.setTop (mkF m 1 #[.val (.ref a), .val (.ref mm)] [(.ref a)])) t
    refine XS.ifnonnullYes X0.here hx rfl (pc0 := 1) (pc' := 13) rfl (hb hby d8_1) rfl (by decide) (by decide) ?_
    show Steps p.tables e below (s₁.setTop (mkF m 13 #[.val (.ref a), .val (.ref mm)] [])) t
    refine XS.aloadN X0.here hx rfl (hb hby d8_13) rfl rfl ?_
    exact k
  obtain ⟨fs, hr, hrun, hended, hW, hsame⟩ := X0.leave (v := some (.ref a)) (fun h => by rw [Bd.returns] at h; cases h)
  refine ⟨_, _, R1 _ ?_, hrun, hended, _, _, rfl, ?_, ⟨_, rfl⟩, hW, hsame.mono (by decide) (by decide)⟩
  · show Steps p.tables e below (s₁.setTop (mkF m 14 #[.val (.ref a), .val (.ref mm)] [(.ref a)])) _
    exact retOut X0 hx Bd.returns rfl (Or.inr (Or.inr (Or.inr (Or.inr ⟨rfl, rfl, rfl⟩)))) (hb hby d8_14) hr
  · show Q_rnn Z zCS wcI ccI a mm h0 n0 _ s₁.heap _
    rw [e0]
    exact ⟨rfl, N0, rfl⟩
theorem d7_0 : decode prog_11_method_1_code 0 = .ok (.aload_n 0, 1) := by decide +kernel
theorem d7_1 : decode prog_11_method_1_code 1 = .ok (.invokespecial 1, 3) := by decide +kernel
theorem d7_4 : decode prog_11_method_1_code 4 = .ok (.aload_n 0, 1) := by decide +kernel
theorem d7_5 : decode prog_11_method_1_code 5 = .ok (.aload_n 1, 1) := by decide +kernel
theorem d7_6 : decode prog_11_method_1_code 6 = .ok (.ldc 7, 2) := by decide +kernel
theorem pd_6 : parseMethodDescriptor "(Ljava/lang/Object;Ljava/lang/String;)Ljava/lang/Object;" = some ⟨[(.object "java/lang/Object"), (.object "java/lang/String")], some (.object "java/lang/Object")⟩ := by decide +kernel
theorem d7_8 : decode prog_11_method_1_code 8 = .ok (.invokestatic 9, 3) := by decide +kernel
theorem d7_11 : decode prog_11_method_1_code 11 = .ok (.checkcast 15, 3) := by decide +kernel
theorem d7_14 : decode prog_11_method_1_code 14 = .ok (.putfield 17, 3) := by decide +kernel
theorem d7_17 : decode prog_11_method_1_code 17 = .ok (.aload_n 0, 1) := by decide +kernel
theorem d7_18 : decode prog_11_method_1_code 18 = .ok (.aload_n 2, 1) := by decide +kernel
theorem d7_19 : decode prog_11_method_1_code 19 = .ok (.ldc 22, 2) := by decide +kernel
theorem d7_21 : decode prog_11_method_1_code 21 = .ok (.invokestatic 9, 3) := by decide +kernel
theorem d7_24 : decode prog_11_method_1_code 24 = .ok (.checkcast 15, 3) := by decide +kernel
theorem d7_27 : decode prog_11_method_1_code 27 = .ok (.putfield 24, 3) := by decide +kernel
theorem d7_30 : decode prog_11_method_1_code 30 = .ok (.aload_n 0, 1) := by decide +kernel
theorem d7_31 : decode prog_11_method_1_code 31 = .ok (.aload_n 3, 1) := by decide +kernel
theorem d7_32 : decode prog_11_method_1_code 32 = .ok (.ldc 26, 2) := by decide +kernel
theorem d7_34 : decode prog_11_method_1_code 34 = .ok (.invokestatic 9, 3) := by decide +kernel
theorem d7_37 : decode prog_11_method_1_code 37 = .ok (.checkcast 15, 3) := by decide +kernel
theorem d7_40 : decode prog_11_method_1_code 40 = .ok (.putfield 28, 3) := by decide +kernel
theorem d7_43 : decode prog_11_method_1_code 43 = .ok (.return_, 1) := by decide +kernel
theorem pn_com_example_relayout_relayout_plan_Transfer : plainName "com/example/relayout/relayout/plan/Transfer" = true := by first | (simp [plainName, overriddenIn]; done) | decide +kernel
theorem ef_tinit (m : MethodId) (a : Addr) (sA : Addr) (sB : Addr) (sC : Addr) (u1 : Value) (u2 : Value) (u3 : Value) : entryFrame m #[(.ref a), (.ref sA), (.ref sB), (.ref sC)] 4 = mkF m 0 #[.val (.ref a), .val (.ref sA), .val (.ref sB), .val (.ref sC)] [] := by first | (simp [entryFrame, mkF, argsToLocals, Value.category]; done) | rfl
def Q_tinit (Z : State) (zCS : Int32) (wcI : Addr) (ccI : Cell) (a : Addr) (sA : Addr) (sB : Addr) (sC : Addr) (u1 : Value) (u2 : Value) (u3 : Value) (h0 : Heap) (n0 : Nat) (vv_ : Option Value) (hh_ : Heap) (vm_ : Vm) (LL_ : List Loc) : Prop := vv_ = none ∧ (Fr n0 LL_) ∧ (Keep h0 hh_ [a]) ∧ (Exa Z hh_ a "com/example/relayout/relayout/plan/Transfer") ∧ (Fld Z hh_ a "com/example/relayout/relayout/plan/Transfer" "item" "Ljava/lang/String;" (.ref sA)) ∧ (Fld Z hh_ a "com/example/relayout/relayout/plan/Transfer" "from" "Ljava/lang/String;" (.ref sB)) ∧ (Fld Z hh_ a "com/example/relayout/relayout/plan/Transfer" "to" "Ljava/lang/String;" (.ref sC)) ∧ (LS Z "com/example/relayout/relayout/plan/TransferEqualsPinLaw" 7 ("to" :: ("from" :: ("item" :: []))) vm_ hh_ hh_.size)
set_option maxRecDepth 65536 in
set_option maxHeartbeats 40000000 in
theorem tinit (l : Launch) (Z : State) (a0 : Array Value) (hw : ∀ d ∈ tables_1, d.before a0 Z = true) (ws : List Jvm.Cond) (zCS : Int32) (wcI : Addr) (ccI : Cell) (a : Addr) (sA : Addr) (sB : Addr) (sC : Addr) (u1 : Value) (u2 : Value) (u3 : Value) (NN : Nat) (h0 : Heap) (n0 : Nat) (O0 : Old Z n0 h0) (S_CS : Sta Z Z.heap "java/lang/String" "COMPACT_STRINGS" "Z" (.int zCS)) (hCS : ¬ (zCS = (0 : Int32))) (hcT0 : Jvm.Lit.constHeld Z "com/example/relayout/relayout/plan/Transfer" 7) (hcT1 : Jvm.Lit.constHeld Z "com/example/relayout/relayout/plan/Transfer" 22) (hcT2 : Jvm.Lit.constHeld Z "com/example/relayout/relayout/plan/Transfer" 26) (hcH : Jvm.Lit.constHeld Z "com/example/relayout/relayout/plan/TransferEqualsPinLaw" 7) (hcW : Jvm.Lit.compactW.before a0 Z = true) (S_cI : Sta Z Z.heap "java/lang/Integer$IntegerCache" "cache" "[Ljava/lang/Integer;" (.ref wcI)) (B_cI : Bxs Z wcI ccI "java/lang/Integer" "I" 256 (fun j => .int (j - 128))) (S_hi : Sta Z Z.heap "java/lang/Integer$IntegerCache" "high" "I" (.int (127 : Int32))) (g_a : n0 ≤ a) (Ea : Exa Z h0 a "com/example/relayout/relayout/plan/Transfer") (Fu0 : Fld Z h0 a "com/example/relayout/relayout/plan/Transfer" "item" "Ljava/lang/String;" u1) (Fu1 : Fld Z h0 a "com/example/relayout/relayout/plan/Transfer" "from" "Ljava/lang/String;" u2) (Fu2 : Fld Z h0 a "com/example/relayout/relayout/plan/Transfer" "to" "Ljava/lang/String;" u3) (EsA : Exa Z h0 sA "java/lang/String") (EsB : Exa Z h0 sB "java/lang/String") (EsC : Exa Z h0 sC "java/lang/String") :
    MetFree l (⟨"com/example/relayout/relayout/plan/Transfer", "<init>", "(Ljava/lang/String;Ljava/lang/String;Ljava/lang/String;)V"⟩ : MethodName) (head1 (Jvm.Cond.code (⟨"com/example/relayout/relayout/plan/Transfer", "<init>", "(Ljava/lang/String;Ljava/lang/String;Ljava/lang/String;)V"⟩ : MethodName) prog_11_method_1_code 4 none :: ws) ({ frames := 1, cells := 6, slots := 52, locals := 14 } : Room)) (fun aa_ U_ => aa_ = #[(.ref a), (.ref sA), (.ref sB), (.ref sC)] ∧ (Z.Warmed39 U_.vm ∧ LS Z "com/example/relayout/relayout/plan/TransferEqualsPinLaw" 7 [] U_.vm h0 NN) ∧ U_.heap = h0) (fun _ _ _ _ _ => True) (fun _ U_ oo_ V_ => ∃ vv_ LL_, oo_ = .returned vv_ ∧ Q_tinit Z zCS wcI ccI a sA sB sC u1 u2 u3 h0 n0 vv_ V_.heap V_.vm LL_ ∧ ReturnedEndW U_ oo_ V_ LL_ ({ frames := 1, cells := 6, slots := 52, locals := 14 } : Room).cells ({ frames := 1, cells := 6, slots := 52, locals := 14 } : Room).slots) := by
  refine MetFree.of_bodySF (plainFor_of_name pn_com_example_relayout_relayout_plan_Transfer) hisR ?_
  intro p e s m args below meth c s₁ Bd hml0 hP hK
  obtain ⟨rfl, ⟨hZ, hL0⟩, hh⟩ := hP
  have hx := Bd.exec
  have hby := Bd.bytes
  have hml : c.maxLocals = 4 := hml0
  have hown : s.vm.findClass "com/example/relayout/relayout/plan/Transfer" = some m.cls := findClass_of_methodNamed Bd.named
  have hnm := (name_of_methodNamed Bd.named Bd.method).1
  have hZ0 : Z.Warmed39 (s.setVm s.vm).vm := hZ
  have hown0 : (s.setVm s.vm).vm.findClass "com/example/relayout/relayout/plan/Transfer" = some m.cls := hown
  have hS0 : s.Since s.vm 0 := ⟨State.Warmed39.refl s, fun j p h1 h2 => absurd (Array.getElem?_eq_some_iff.mp h2).1 (Nat.not_lt.mpr h1)⟩
  have X0 : Stand p l e ({ frames := 1, cells := 6, slots := 52, locals := 14 } : Room) (s.setVm s.vm) m #[(.ref a), (.ref sA), (.ref sB), (.ref sC)] below meth c s₁ [] 0 0 := Stand.of_body Bd
  have e0 : s₁.heap = h0 := by rw [← hh, Bd.state]; rfl
  have N0 := Fr.nil n0
  have Z0 : n0 ≤ h0.size := O0.1 ▸ O0.2.1
  have hk0 := Nat.zero_le h0.size
  have K0 : Keep h0 h0 [a] := Keep.refl _ _
  have R0 : ∀ t, Steps p.tables e below (s₁.setTop (mkF m 0 #[.val (.ref a), .val (.ref sA), .val (.ref sB), .val (.ref sC)] [])) t → Steps p.tables e below (s₁.setTop (entryFrame m #[(.ref a), (.ref sA), (.ref sB), (.ref sC)] 4)) t := fun t k => castTop (ef_tinit m a sA sB sC u1 u2 u3) k
  obtain ⟨T1, X1, e1, st1⟩ := initO X0 hx hZ0 hown0 (hw _ (List.mem_of_getElem? (i := 36) rfl)) (hw _ (List.mem_of_getElem? (i := 27) rfl)) (hw _ (List.mem_of_getElem? (i := 28) rfl)) e0 (g := (mkF m 1 #[.val (.ref a), .val (.ref sA), .val (.ref sB), .val (.ref sC)] [(.ref a)])) rfl (by rw [hml]; rfl) rfl (hb hby d7_1) (by decide) (W := 0) (by show 2 * 0 + _ ≤ _; exact Nat.le_of_eq rfl) (by decide)
  obtain ⟨a2, T2, h2, k2, b2, kb2, X2, e2, E2, hS2, hk2, hZ2, hown2, Ea2, Ca2, Va2, Aa2, hL2, st2⟩ := own_ldcT X1 hx hZ0 hown0 (hw _ (List.mem_of_getElem? (i := 37) rfl)) (own_sat hw) e1 hS0 hk0 (fun b cl q => O0.2.2 b cl q) hL0 (by decide) (by decide) hcT0 hcW (vs := [(.int (105 : Int32)), (.int (116 : Int32)), (.int (101 : Int32)), (.int (109 : Int32))]) (z := (4 : Int32)) ⟨by decide, by decide⟩ (by decide) (by decide) (g := (mkF m 6 #[.val (.ref a), .val (.ref sA), .val (.ref sB), .val (.ref sC)] [(.ref sA), (.ref a)])) rfl (hb hby d7_6) (n := 16) (by decide) (by decide) (by decide) (by decide)
  have Z2 : n0 ≤ h2.size := Nat.le_trans Z0 E2.1
  have K2 : Keep h0 h2 [a] := K0.ext E2
  have O2 : Old Z n0 h2 := O0.ext E2
  obtain ⟨_, _, ⟨T3, L3, k3, n3⟩, -, X3, ⟨Lc3, hQ3, cl_3, cy_3, cz_3⟩, st3⟩ := Jvm.LawKit.callS X2 hx (y := (⟨"java/util/Objects", "requireNonNull", "(Ljava/lang/Object;Ljava/lang/String;)Ljava/lang/Object;"⟩ : MethodName)) hown2 (mvT hZ2 (hw _ (List.mem_of_getElem? (i := 40) rfl))) (mvT hZ2 (hw _ (List.mem_of_getElem? (i := 41) rfl))) (mvT hZ2 (hw _ (List.mem_of_getElem? (i := 42) rfl))) (mvT hZ2 (hw _ (List.mem_of_getElem? (i := 43) rfl))) (by decide) (backOf (W := 1) (rnn l Z a0 hw [] zCS wcI ccI sA a2 h2 n0 O2 S_CS hCS hcT0 hcT1 hcT2 hcH hcW S_cI B_cI S_hi   ) hZ2 (hw _ (List.mem_of_getElem? (i := 43) rfl)) (hw _ (List.mem_of_getElem? (i := 42) rfl)) (by decide) (by decide)) (g := (mkF m 8 #[.val (.ref a), .val (.ref sA), .val (.ref sB), .val (.ref sC)] [(.ref a2), (.ref sA), (.ref a)])) rfl (by rw [hml]; rfl) (argsL := [(.ref sA), (.ref a2)]) (rest := [(.ref a)]) (lenOf pd_6 rfl) rfl (by show 2 * 0 + _ ≤ _; exact Nat.le_of_eq rfl) (hb hby d7_8) (fun _ _ => ⟨rfl, e2, (by decide : 2 + 0 ≤ _), (by decide : 20 + 0 ≤ _)⟩)
  dsimp only [Pt.U, Pt.locs, Pt.cells, Pt.slots] at X3 cl_3 cy_3 cz_3 st3 hQ3
  rw [cl_3, cy_3, cz_3] at X3
  obtain ⟨rfl, N3q, e3⟩ := hQ3
  have N3 := Fr.app N0 N3q
  have f5 : Exa Z h2 sA "java/lang/String" := (EsA.ext E2)
  obtain ⟨T4, X4, e4, st4⟩ := castY X3 hx hZ2 hown2 (hw _ (List.mem_of_getElem? (i := 44) rfl)) e3 (Ins.self f5) (g := (mkF m 11 #[.val (.ref a), .val (.ref sA), .val (.ref sB), .val (.ref sC)] [(.ref sA), (.ref a)])) rfl rfl (hb hby d7_11)
  have f7 : Exa Z h2 a "com/example/relayout/relayout/plan/Transfer" := (Ea.ext E2)
  have f8 : Fld Z h2 a "com/example/relayout/relayout/plan/Transfer" "item" "Ljava/lang/String;" u1 := (Fu0.ext E2)
  obtain ⟨T6, h6, X6, e6, W6, st6⟩ := putF X4 hx hZ2 hown2 (host := "") (Or.inl (hw _ (List.mem_of_getElem? (i := 45) rfl))) Via.refl e4 f8 f7 (Or.inr ⟨(hw _ (List.mem_of_getElem? (i := 46) rfl)), rfl, hnm⟩) (hw _ (List.mem_of_getElem? (i := 1) rfl)) (ty := (.object "java/lang/String")) (by decide) rfl rfl (g := (mkF m 14 #[.val (.ref a), .val (.ref sA), .val (.ref sB), .val (.ref sC)] [(.ref sA), (.ref a)])) rfl rfl (hb hby d7_14)
  have ne_sA_a : sA ≠ a := ne_exa f5 f7 (by decide)
  have f9 : Exa Z h2 sB "java/lang/String" := (EsB.ext E2)
  have ne_sB_a : sB ≠ a := ne_exa f9 f7 (by decide)
  have f10 : Exa Z h2 sC "java/lang/String" := (EsC.ext E2)
  have ne_sC_a : sC ≠ a := ne_exa f10 f7 (by decide)
  have ne_a2_a : a2 ≠ a := ne_exa Ea2 f7 (by decide)
  have ne_a_b2 : a ≠ b2 := f7.neArv Aa2 (hw _ (List.mem_of_getElem? (i := 1) rfl))
  have Z6 : n0 ≤ h6.size := Nat.le_trans Z2 (Keep.of_wr W6).1
  have K6 : Keep h0 h6 [a] := K2.wr W6 (Or.inl (List.mem_of_getElem? (i := 0) rfl))
  have O6 : Old Z n0 h6 := O2.wr W6 g_a
  have N6 := Fr.snoc X6 N3 g_a
  have hL6 := hL2.keepC (Keep.of_wr W6) f7 (by decide) (hw _ (List.mem_of_getElem? (i := 1) rfl))
  have hk6 := Nat.le_trans hk2 (Keep.of_wr W6).1
  have fw6 : Fld Z h6 a "com/example/relayout/relayout/plan/Transfer" "item" "Ljava/lang/String;" (.ref sA) := f8.same W6
  obtain ⟨a11, T11, h11, k11, b11, kb11, X11, e11, E11, hS11, hk11, hZ11, hown11, Ea11, Ca11, Va11, Aa11, hL11, st11⟩ := own_ldcT X6 hx hZ2 hown2 (hw _ (List.mem_of_getElem? (i := 47) rfl)) (own_sat hw) e6 hS2 hk6 (fun b cl q => O6.2.2 b cl q) hL6 (by decide) (by decide) hcT1 hcW (vs := [(.int (102 : Int32)), (.int (114 : Int32)), (.int (111 : Int32)), (.int (109 : Int32))]) (z := (4 : Int32)) ⟨by decide, by decide⟩ (by decide) (by decide) (g := (mkF m 19 #[.val (.ref a), .val (.ref sA), .val (.ref sB), .val (.ref sC)] [(.ref sB), (.ref a)])) rfl (hb hby d7_19) (n := 16) (by decide) (by decide) (by decide) (by decide)
  have Z11 : n0 ≤ h11.size := Nat.le_trans Z6 E11.1
  have K11 : Keep h0 h11 [a] := K6.ext E11
  have O11 : Old Z n0 h11 := O6.ext E11
  obtain ⟨_, _, ⟨T12, L12, k12, n12⟩, -, X12, ⟨Lc12, hQ12, cl_12, cy_12, cz_12⟩, st12⟩ := Jvm.LawKit.callS X11 hx (y := (⟨"java/util/Objects", "requireNonNull", "(Ljava/lang/Object;Ljava/lang/String;)Ljava/lang/Object;"⟩ : MethodName)) hown11 (mvT hZ11 (hw _ (List.mem_of_getElem? (i := 40) rfl))) (mvT hZ11 (hw _ (List.mem_of_getElem? (i := 41) rfl))) (mvT hZ11 (hw _ (List.mem_of_getElem? (i := 42) rfl))) (mvT hZ11 (hw _ (List.mem_of_getElem? (i := 43) rfl))) (by decide) (backOf (W := 1) (rnn l Z a0 hw [] zCS wcI ccI sB a11 h11 n0 O11 S_CS hCS hcT0 hcT1 hcT2 hcH hcW S_cI B_cI S_hi   ) hZ11 (hw _ (List.mem_of_getElem? (i := 43) rfl)) (hw _ (List.mem_of_getElem? (i := 42) rfl)) (by decide) (by decide)) (g := (mkF m 21 #[.val (.ref a), .val (.ref sA), .val (.ref sB), .val (.ref sC)] [(.ref a11), (.ref sB), (.ref a)])) rfl (by rw [hml]; rfl) (argsL := [(.ref sB), (.ref a11)]) (rest := [(.ref a)]) (lenOf pd_6 rfl) rfl (by show 2 * 0 + _ ≤ _; exact Nat.le_of_eq rfl) (hb hby d7_21) (fun _ _ => ⟨rfl, e11, (by decide : 4 + 0 ≤ _), (by decide : 40 + 0 ≤ _)⟩)
  dsimp only [Pt.U, Pt.locs, Pt.cells, Pt.slots] at X12 cl_12 cy_12 cz_12 st12 hQ12
  rw [cl_12, cy_12, cz_12] at X12
  obtain ⟨rfl, N12q, e12⟩ := hQ12
  have N12 := Fr.app N6 N12q
  have f14 : Exa Z h11 sB "java/lang/String" := ((f9.wr W6).ext E11)
  obtain ⟨T13, X13, e13, st13⟩ := castY X12 hx hZ11 hown11 (hw _ (List.mem_of_getElem? (i := 44) rfl)) e12 (Ins.self f14) (g := (mkF m 24 #[.val (.ref a), .val (.ref sA), .val (.ref sB), .val (.ref sC)] [(.ref sB), (.ref a)])) rfl rfl (hb hby d7_24)
  have f16 : Exa Z h11 a "com/example/relayout/relayout/plan/Transfer" := ((f7.wr W6).ext E11)
  have f17 : Fld Z h11 a "com/example/relayout/relayout/plan/Transfer" "from" "Ljava/lang/String;" u2 := (((Fu1.ext E2).other W6 (Or.inr (slot_ne (Or.inr (hw _ (List.mem_of_getElem? (i := 49) rfl))) (Or.inr (hw _ (List.mem_of_getElem? (i := 46) rfl))) (by decide) (t := (.object "java/lang/String")) (t' := (.object "java/lang/String")) (by decide) (by decide)))).ext E11)
  obtain ⟨T15, h15, X15, e15, W15, st15⟩ := putF X13 hx hZ11 hown11 (host := "") (Or.inl (hw _ (List.mem_of_getElem? (i := 48) rfl))) Via.refl e13 f17 f16 (Or.inr ⟨(hw _ (List.mem_of_getElem? (i := 49) rfl)), rfl, hnm⟩) (hw _ (List.mem_of_getElem? (i := 1) rfl)) (ty := (.object "java/lang/String")) (by decide) rfl rfl (g := (mkF m 27 #[.val (.ref a), .val (.ref sA), .val (.ref sB), .val (.ref sC)] [(.ref sB), (.ref a)])) rfl rfl (hb hby d7_27)
  have ne_a11_a : a11 ≠ a := ne_exa Ea11 f16 (by decide)
  have ne_a_b11 : a ≠ b11 := f16.neArv Aa11 (hw _ (List.mem_of_getElem? (i := 1) rfl))
  have Z15 : n0 ≤ h15.size := Nat.le_trans Z11 (Keep.of_wr W15).1
  have K15 : Keep h0 h15 [a] := K11.wr W15 (Or.inl (List.mem_of_getElem? (i := 0) rfl))
  have O15 : Old Z n0 h15 := O11.wr W15 g_a
  have N15 := Fr.snoc X15 N12 g_a
  have hL15 := hL11.keepC (Keep.of_wr W15) f16 (by decide) (hw _ (List.mem_of_getElem? (i := 1) rfl))
  have hk15 := Nat.le_trans hk11 (Keep.of_wr W15).1
  have fw15 : Fld Z h15 a "com/example/relayout/relayout/plan/Transfer" "from" "Ljava/lang/String;" (.ref sB) := f17.same W15
  obtain ⟨a18, T18, h18, k18, b18, kb18, X18, e18, E18, hS18, hk18, hZ18, hown18, Ea18, Ca18, Va18, Aa18, hL18, st18⟩ := own_ldcT X15 hx hZ11 hown11 (hw _ (List.mem_of_getElem? (i := 50) rfl)) (own_sat hw) e15 hS11 hk15 (fun b cl q => O15.2.2 b cl q) hL15 (by decide) (by decide) hcT2 hcW (vs := [(.int (116 : Int32)), (.int (111 : Int32))]) (z := (2 : Int32)) ⟨by decide, by decide⟩ (by decide) (by decide) (g := (mkF m 32 #[.val (.ref a), .val (.ref sA), .val (.ref sB), .val (.ref sC)] [(.ref sC), (.ref a)])) rfl (hb hby d7_32) (n := 8) (by decide) (by decide) (by decide) (by decide)
  have Z18 : n0 ≤ h18.size := Nat.le_trans Z15 E18.1
  have K18 : Keep h0 h18 [a] := K15.ext E18
  have O18 : Old Z n0 h18 := O15.ext E18
  obtain ⟨_, _, ⟨T19, L19, k19, n19⟩, -, X19, ⟨Lc19, hQ19, cl_19, cy_19, cz_19⟩, st19⟩ := Jvm.LawKit.callS X18 hx (y := (⟨"java/util/Objects", "requireNonNull", "(Ljava/lang/Object;Ljava/lang/String;)Ljava/lang/Object;"⟩ : MethodName)) hown18 (mvT hZ18 (hw _ (List.mem_of_getElem? (i := 40) rfl))) (mvT hZ18 (hw _ (List.mem_of_getElem? (i := 41) rfl))) (mvT hZ18 (hw _ (List.mem_of_getElem? (i := 42) rfl))) (mvT hZ18 (hw _ (List.mem_of_getElem? (i := 43) rfl))) (by decide) (backOf (W := 1) (rnn l Z a0 hw [] zCS wcI ccI sC a18 h18 n0 O18 S_CS hCS hcT0 hcT1 hcT2 hcH hcW S_cI B_cI S_hi   ) hZ18 (hw _ (List.mem_of_getElem? (i := 43) rfl)) (hw _ (List.mem_of_getElem? (i := 42) rfl)) (by decide) (by decide)) (g := (mkF m 34 #[.val (.ref a), .val (.ref sA), .val (.ref sB), .val (.ref sC)] [(.ref a18), (.ref sC), (.ref a)])) rfl (by rw [hml]; rfl) (argsL := [(.ref sC), (.ref a18)]) (rest := [(.ref a)]) (lenOf pd_6 rfl) rfl (by show 2 * 0 + _ ≤ _; exact Nat.le_of_eq rfl) (hb hby d7_34) (fun _ _ => ⟨rfl, e18, (by decide : 6 + 0 ≤ _), (by decide : 52 + 0 ≤ _)⟩)
  dsimp only [Pt.U, Pt.locs, Pt.cells, Pt.slots] at X19 cl_19 cy_19 cz_19 st19 hQ19
  rw [cl_19, cy_19, cz_19] at X19
  obtain ⟨rfl, N19q, e19⟩ := hQ19
  have N19 := Fr.app N15 N19q
  have f21 : Exa Z h18 sC "java/lang/String" := ((((f10.wr W6).ext E11).wr W15).ext E18)
  obtain ⟨T20, X20, e20, st20⟩ := castY X19 hx hZ18 hown18 (hw _ (List.mem_of_getElem? (i := 44) rfl)) e19 (Ins.self f21) (g := (mkF m 37 #[.val (.ref a), .val (.ref sA), .val (.ref sB), .val (.ref sC)] [(.ref sC), (.ref a)])) rfl rfl (hb hby d7_37)
  have f23 : Exa Z h18 a "com/example/relayout/relayout/plan/Transfer" := ((f16.wr W15).ext E18)
  have f24 : Fld Z h18 a "com/example/relayout/relayout/plan/Transfer" "to" "Ljava/lang/String;" u3 := (((((Fu2.ext E2).other W6 (Or.inr (slot_ne (Or.inr (hw _ (List.mem_of_getElem? (i := 52) rfl))) (Or.inr (hw _ (List.mem_of_getElem? (i := 46) rfl))) (by decide) (t := (.object "java/lang/String")) (t' := (.object "java/lang/String")) (by decide) (by decide)))).ext E11).other W15 (Or.inr (slot_ne (Or.inr (hw _ (List.mem_of_getElem? (i := 52) rfl))) (Or.inr (hw _ (List.mem_of_getElem? (i := 49) rfl))) (by decide) (t := (.object "java/lang/String")) (t' := (.object "java/lang/String")) (by decide) (by decide)))).ext E18)
  obtain ⟨T22, h22, X22, e22, W22, st22⟩ := putF X20 hx hZ18 hown18 (host := "") (Or.inl (hw _ (List.mem_of_getElem? (i := 51) rfl))) Via.refl e20 f24 f23 (Or.inr ⟨(hw _ (List.mem_of_getElem? (i := 52) rfl)), rfl, hnm⟩) (hw _ (List.mem_of_getElem? (i := 1) rfl)) (ty := (.object "java/lang/String")) (by decide) rfl rfl (g := (mkF m 40 #[.val (.ref a), .val (.ref sA), .val (.ref sB), .val (.ref sC)] [(.ref sC), (.ref a)])) rfl rfl (hb hby d7_40)
  have ne_a18_a : a18 ≠ a := ne_exa Ea18 f23 (by decide)
  have ne_a_b18 : a ≠ b18 := f23.neArv Aa18 (hw _ (List.mem_of_getElem? (i := 1) rfl))
  have Z22 : n0 ≤ h22.size := Nat.le_trans Z18 (Keep.of_wr W22).1
  have K22 : Keep h0 h22 [a] := K18.wr W22 (Or.inl (List.mem_of_getElem? (i := 0) rfl))
  have O22 : Old Z n0 h22 := O18.wr W22 g_a
  have N22 := Fr.snoc X22 N19 g_a
  have hL22 := hL18.keepC (Keep.of_wr W22) f23 (by decide) (hw _ (List.mem_of_getElem? (i := 1) rfl))
  have hk22 := Nat.le_trans hk18 (Keep.of_wr W22).1
  have fw22 : Fld Z h22 a "com/example/relayout/relayout/plan/Transfer" "to" "Ljava/lang/String;" (.ref sC) := f24.same W22
  have R25 : ∀ t, Steps p.tables e below (T22.setTop (mkF m 43 #[.val (.ref a), .val (.ref sA), .val (.ref sB), .val (.ref sC)] [])) t → Steps p.tables e below (s₁.setTop (entryFrame m #[(.ref a), (.ref sA), (.ref sB), (.ref sC)] 4)) t := by
    intro t k
    refine R0 t ?_
    show Steps p.tables e below (s₁.setTop (mkF m 0 #[.val (.ref a), .val (.ref sA), .val (.ref sB), .val (.ref sC)] [])) t
    refine XS.aloadN X0.here hx rfl (hb hby d7_0) rfl rfl ?_
    show Steps p.tables e below (s₁.setTop (mkF m 1 #[.val (.ref a), .val (.ref sA), .val (.ref sB), .val (.ref sC)] [(.ref a)])) t
    refine st1 _ ?_
    show Steps p.tables e below (T1.setTop (mkF m 4 #[.val (.ref a), .val (.ref sA), .val (.ref sB), .val (.ref sC)] [])) t
    refine XS.aloadN X1.here hx rfl (hb hby d7_4) rfl rfl ?_
    show Steps p.tables e below (T1.setTop (mkF m 5 #[.val (.ref a), .val (.ref sA), .val (.ref sB), .val (.ref sC)] [(.ref a)])) t
    refine XS.aloadN X1.here hx rfl (hb hby d7_5) rfl rfl ?_
    show Steps p.tables e below (T1.setTop (mkF m 6 #[.val (.ref a), .val (.ref sA), .val (.ref sB), .val (.ref sC)] [(.ref sA), (.ref a)])) t
    refine st2 _ ?_
    show Steps p.tables e below (T2.setTop (mkF m 8 #[.val (.ref a), .val (.ref sA), .val (.ref sB), .val (.ref sC)] [(.ref a2), (.ref sA), (.ref a)])) t
    refine st3 _ ?_
    show Steps p.tables e below (T3.setTop (mkF m 11 #[.val (.ref a), .val (.ref sA), .val (.ref sB), .val (.ref sC)] [(.ref sA), (.ref a)])) t
    refine st4 _ ?_
    show Steps p.tables e below (T4.setTop (mkF m 14 #[.val (.ref a), .val (.ref sA), .val (.ref sB), .val (.ref sC)] [(.ref sA), (.ref a)])) t
    refine st6 _ ?_
    show Steps p.tables e below (T6.setTop (mkF m 17 #[.val (.ref a), .val (.ref sA), .val (.ref sB), .val (.ref sC)] [])) t
    refine XS.aloadN X6.here hx rfl (hb hby d7_17) rfl rfl ?_
    show Steps p.tables e below (T6.setTop (mkF m 18 #[.val (.ref a), .val (.ref sA), .val (.ref sB), .val (.ref sC)] [(.ref a)])) t
    refine XS.aloadN X6.here hx rfl (hb hby d7_18) rfl rfl ?_
    show Steps p.tables e below (T6.setTop (mkF m 19 #[.val (.ref a), .val (.ref sA), .val (.ref sB), .val (.ref sC)] [(.ref sB), (.ref a)])) t
    refine st11 _ ?_
    show Steps p.tables e below (T11.setTop (mkF m 21 #[.val (.ref a), .val (.ref sA), .val (.ref sB), .val (.ref sC)] [(.ref a11), (.ref sB), (.ref a)])) t
    refine st12 _ ?_
    show Steps p.tables e below (T12.setTop (mkF m 24 #[.val (.ref a), .val (.ref sA), .val (.ref sB), .val (.ref sC)] [(.ref sB), (.ref a)])) t
    refine st13 _ ?_
    show Steps p.tables e below (T13.setTop (mkF m 27 #[.val (.ref a), .val (.ref sA), .val (.ref sB), .val (.ref sC)] [(.ref sB), (.ref a)])) t
    refine st15 _ ?_
    show Steps p.tables e below (T15.setTop (mkF m 30 #[.val (.ref a), .val (.ref sA), .val (.ref sB), .val (.ref sC)] [])) t
    refine XS.aloadN X15.here hx rfl (hb hby d7_30) rfl rfl ?_
    show Steps p.tables e below (T15.setTop (mkF m 31 #[.val (.ref a), .val (.ref sA), .val (.ref sB), .val (.ref sC)] [(.ref a)])) t
    refine XS.aloadN X15.here hx rfl (hb hby d7_31) rfl rfl ?_
    show Steps p.tables e below (T15.setTop (mkF m 32 #[.val (.ref a), .val (.ref sA), .val (.ref sB), .val (.ref sC)] [(.ref sC), (.ref a)])) t
    refine st18 _ ?_
    show Steps p.tables e below (T18.setTop (mkF m 34 #[.val (.ref a), .val (.ref sA), .val (.ref sB), .val (.ref sC)] [(.ref a18), (.ref sC), (.ref a)])) t
    refine st19 _ ?_
    show Steps p.tables e below (T19.setTop (mkF m 37 #[.val (.ref a), .val (.ref sA), .val (.ref sB), .val (.ref sC)] [(.ref sC), (.ref a)])) t
    refine st20 _ ?_
    show Steps p.tables e below (T20.setTop (mkF m 40 #[.val (.ref a), .val (.ref sA), .val (.ref sB), .val (.ref sC)] [(.ref sC), (.ref a)])) t
    refine st22 _ ?_
    exact k
  have f26 : Exa Z h22 a "com/example/relayout/relayout/plan/Transfer" := (f23.wr W22)
  have f27 : Fld Z h22 a "com/example/relayout/relayout/plan/Transfer" "item" "Ljava/lang/String;" (.ref sA) := ((((fw6.ext E11).other W15 (Or.inr (slot_ne (Or.inr (hw _ (List.mem_of_getElem? (i := 46) rfl))) (Or.inr (hw _ (List.mem_of_getElem? (i := 49) rfl))) (by decide) (t := (.object "java/lang/String")) (t' := (.object "java/lang/String")) (by decide) (by decide)))).ext E18).other W22 (Or.inr (slot_ne (Or.inr (hw _ (List.mem_of_getElem? (i := 46) rfl))) (Or.inr (hw _ (List.mem_of_getElem? (i := 52) rfl))) (by decide) (t := (.object "java/lang/String")) (t' := (.object "java/lang/String")) (by decide) (by decide))))
  have f28 : Fld Z h22 a "com/example/relayout/relayout/plan/Transfer" "from" "Ljava/lang/String;" (.ref sB) := ((fw15.ext E18).other W22 (Or.inr (slot_ne (Or.inr (hw _ (List.mem_of_getElem? (i := 49) rfl))) (Or.inr (hw _ (List.mem_of_getElem? (i := 52) rfl))) (by decide) (t := (.object "java/lang/String")) (t' := (.object "java/lang/String")) (by decide) (by decide))))
  obtain ⟨fs, hr, hrun, hended, hRW⟩ := X22.leaveW hS18 (by rw [e22]; exact hk22) (v := none) (fun _ => rfl)
  refine ⟨_, _, R25 _ ?_, hrun, hended, _, _, rfl, ?_, hRW.1, hRW.2.1, hRW.2.2.1, hRW.2.2.2.mono (by decide) (by decide)⟩
  · show Steps p.tables e below (T22.setTop (mkF m 43 #[.val (.ref a), .val (.ref sA), .val (.ref sB), .val (.ref sC)] [])) _
    exact X22.returnOut hx Bd.returns (hb hby d7_43) hr
  · show Q_tinit Z zCS wcI ccI a sA sB sC u1 u2 u3 h0 n0 _ T22.heap T22.vm _
    rw [e22]
    exact ⟨rfl, N22, K22, f26, f27, f28, fw22, ((LS.warm (s := s) hL22 X22.warmed).up hL22.1 (Nat.le_refl _))⟩
theorem ef_tinitW (m : MethodId) (a : Addr) (sA : Addr) (sB : Addr) (sC : Addr) (u1 : Value) (u2 : Value) (u3 : Value) : entryFrame m #[(.ref a), (.ref sA), (.ref sB), (.ref sC)] 4 = mkF m 0 #[.val (.ref a), .val (.ref sA), .val (.ref sB), .val (.ref sC)] [] := by first | (simp [entryFrame, mkF, argsToLocals, Value.category]; done) | rfl
def Q_tinitW (Z : State) (zCS : Int32) (wcI : Addr) (ccI : Cell) (a : Addr) (sA : Addr) (sB : Addr) (sC : Addr) (u1 : Value) (u2 : Value) (u3 : Value) (h0 : Heap) (n0 : Nat) (vv_ : Option Value) (hh_ : Heap) (LL_ : List Loc) : Prop := vv_ = none ∧ (Fr n0 LL_) ∧ (Keep h0 hh_ [a]) ∧ (Exa Z hh_ a "com/example/relayout/relayout/plan/Transfer") ∧ (Fld Z hh_ a "com/example/relayout/relayout/plan/Transfer" "item" "Ljava/lang/String;" (.ref sA)) ∧ (Fld Z hh_ a "com/example/relayout/relayout/plan/Transfer" "from" "Ljava/lang/String;" (.ref sB)) ∧ (Fld Z hh_ a "com/example/relayout/relayout/plan/Transfer" "to" "Ljava/lang/String;" (.ref sC))
set_option maxRecDepth 65536 in
set_option maxHeartbeats 40000000 in
theorem tinitW (l : Launch) (Z : State) (a0 : Array Value) (hw : ∀ d ∈ tables_1, d.before a0 Z = true) (ws : List Jvm.Cond) (zCS : Int32) (wcI : Addr) (ccI : Cell) (a : Addr) (sA : Addr) (sB : Addr) (sC : Addr) (u1 : Value) (u2 : Value) (u3 : Value) (h0 : Heap) (n0 : Nat) (O0 : Old Z n0 h0) (S_CS : Sta Z Z.heap "java/lang/String" "COMPACT_STRINGS" "Z" (.int zCS)) (hCS : ¬ (zCS = (0 : Int32))) (hcT0 : Jvm.Lit.constHeld Z "com/example/relayout/relayout/plan/Transfer" 7) (hcT1 : Jvm.Lit.constHeld Z "com/example/relayout/relayout/plan/Transfer" 22) (hcT2 : Jvm.Lit.constHeld Z "com/example/relayout/relayout/plan/Transfer" 26) (hcH : Jvm.Lit.constHeld Z "com/example/relayout/relayout/plan/TransferEqualsPinLaw" 7) (hcW : Jvm.Lit.compactW.before a0 Z = true) (S_cI : Sta Z Z.heap "java/lang/Integer$IntegerCache" "cache" "[Ljava/lang/Integer;" (.ref wcI)) (B_cI : Bxs Z wcI ccI "java/lang/Integer" "I" 256 (fun j => .int (j - 128))) (S_hi : Sta Z Z.heap "java/lang/Integer$IntegerCache" "high" "I" (.int (127 : Int32))) (g_a : n0 ≤ a) (Ea : Exa Z h0 a "com/example/relayout/relayout/plan/Transfer") (Fu0 : Fld Z h0 a "com/example/relayout/relayout/plan/Transfer" "item" "Ljava/lang/String;" u1) (Fu1 : Fld Z h0 a "com/example/relayout/relayout/plan/Transfer" "from" "Ljava/lang/String;" u2) (Fu2 : Fld Z h0 a "com/example/relayout/relayout/plan/Transfer" "to" "Ljava/lang/String;" u3) (EsA : Exa Z h0 sA "java/lang/String") (EsB : Exa Z h0 sB "java/lang/String") (EsC : Exa Z h0 sC "java/lang/String") :
    MetFree l (⟨"com/example/relayout/relayout/plan/Transfer", "<init>", "(Ljava/lang/String;Ljava/lang/String;Ljava/lang/String;)V"⟩ : MethodName) (head1 (Jvm.Cond.code (⟨"com/example/relayout/relayout/plan/Transfer", "<init>", "(Ljava/lang/String;Ljava/lang/String;Ljava/lang/String;)V"⟩ : MethodName) prog_11_method_1_code 4 none :: ws) ({ frames := 1, cells := 6, slots := 52, locals := 14 } : Room)) (fun aa_ U_ => aa_ = #[(.ref a), (.ref sA), (.ref sB), (.ref sC)] ∧ Z.Warmed39 U_.vm ∧ U_.heap = h0) (fun _ _ _ _ _ => True) (fun _ U_ oo_ V_ => ∃ vv_ LL_, oo_ = .returned vv_ ∧ Q_tinitW Z zCS wcI ccI a sA sB sC u1 u2 u3 h0 n0 vv_ V_.heap LL_ ∧ ReturnedEndW U_ oo_ V_ LL_ ({ frames := 1, cells := 6, slots := 52, locals := 14 } : Room).cells ({ frames := 1, cells := 6, slots := 52, locals := 14 } : Room).slots) := by
  refine MetFree.of_bodySF (plainFor_of_name pn_com_example_relayout_relayout_plan_Transfer) hisR ?_
  intro p e s m args below meth c s₁ Bd hml0 hP hK
  obtain ⟨rfl, hZ, hh⟩ := hP
  have hx := Bd.exec
  have hby := Bd.bytes
  have hml : c.maxLocals = 4 := hml0
  have hown : s.vm.findClass "com/example/relayout/relayout/plan/Transfer" = some m.cls := findClass_of_methodNamed Bd.named
  have hnm := (name_of_methodNamed Bd.named Bd.method).1
  have hZ0 : Z.Warmed39 (s.setVm s.vm).vm := hZ
  have hown0 : (s.setVm s.vm).vm.findClass "com/example/relayout/relayout/plan/Transfer" = some m.cls := hown
  have hS0 : s.Since s.vm 0 := ⟨State.Warmed39.refl s, fun j p h1 h2 => absurd (Array.getElem?_eq_some_iff.mp h2).1 (Nat.not_lt.mpr h1)⟩
  have X0 : Stand p l e ({ frames := 1, cells := 6, slots := 52, locals := 14 } : Room) (s.setVm s.vm) m #[(.ref a), (.ref sA), (.ref sB), (.ref sC)] below meth c s₁ [] 0 0 := Stand.of_body Bd
  have e0 : s₁.heap = h0 := by rw [← hh, Bd.state]; rfl
  have N0 := Fr.nil n0
  have Z0 : n0 ≤ h0.size := O0.1 ▸ O0.2.1
  have hk0 := Nat.zero_le h0.size
  have K0 : Keep h0 h0 [a] := Keep.refl _ _
  have R0 : ∀ t, Steps p.tables e below (s₁.setTop (mkF m 0 #[.val (.ref a), .val (.ref sA), .val (.ref sB), .val (.ref sC)] [])) t → Steps p.tables e below (s₁.setTop (entryFrame m #[(.ref a), (.ref sA), (.ref sB), (.ref sC)] 4)) t := fun t k => castTop (ef_tinitW m a sA sB sC u1 u2 u3) k
  obtain ⟨T1, X1, e1, st1⟩ := initO X0 hx hZ0 hown0 (hw _ (List.mem_of_getElem? (i := 36) rfl)) (hw _ (List.mem_of_getElem? (i := 27) rfl)) (hw _ (List.mem_of_getElem? (i := 28) rfl)) e0 (g := (mkF m 1 #[.val (.ref a), .val (.ref sA), .val (.ref sB), .val (.ref sC)] [(.ref a)])) rfl (by rw [hml]; rfl) rfl (hb hby d7_1) (by decide) (W := 0) (by show 2 * 0 + _ ≤ _; exact Nat.le_of_eq rfl) (by decide)
  obtain ⟨a2, T2, h2, k2, X2, e2, E2, hS2, hk2, hZ2, hown2, st2⟩ := ldcS X1 hx hZ0 hown0 (hw _ (List.mem_of_getElem? (i := 37) rfl)) (own_sat hw) e1 hS0 hk0 (g := (mkF m 6 #[.val (.ref a), .val (.ref sA), .val (.ref sB), .val (.ref sC)] [(.ref sA), (.ref a)])) rfl (hb hby d7_6) (n := 16) (by decide) (by decide) (by decide) (by decide)
  have Z2 : n0 ≤ h2.size := Nat.le_trans Z0 E2.1
  have K2 : Keep h0 h2 [a] := K0.ext E2
  have O2 : Old Z n0 h2 := O0.ext E2
  obtain ⟨_, _, ⟨T3, L3, k3, n3⟩, -, X3, ⟨Lc3, hQ3, cl_3, cy_3, cz_3⟩, st3⟩ := Jvm.LawKit.callS X2 hx (y := (⟨"java/util/Objects", "requireNonNull", "(Ljava/lang/Object;Ljava/lang/String;)Ljava/lang/Object;"⟩ : MethodName)) hown2 (mvT hZ2 (hw _ (List.mem_of_getElem? (i := 40) rfl))) (mvT hZ2 (hw _ (List.mem_of_getElem? (i := 41) rfl))) (mvT hZ2 (hw _ (List.mem_of_getElem? (i := 42) rfl))) (mvT hZ2 (hw _ (List.mem_of_getElem? (i := 43) rfl))) (by decide) (backOf (W := 1) (rnn l Z a0 hw [] zCS wcI ccI sA a2 h2 n0 O2 S_CS hCS hcT0 hcT1 hcT2 hcH hcW S_cI B_cI S_hi   ) hZ2 (hw _ (List.mem_of_getElem? (i := 43) rfl)) (hw _ (List.mem_of_getElem? (i := 42) rfl)) (by decide) (by decide)) (g := (mkF m 8 #[.val (.ref a), .val (.ref sA), .val (.ref sB), .val (.ref sC)] [(.ref a2), (.ref sA), (.ref a)])) rfl (by rw [hml]; rfl) (argsL := [(.ref sA), (.ref a2)]) (rest := [(.ref a)]) (lenOf pd_6 rfl) rfl (by show 2 * 0 + _ ≤ _; exact Nat.le_of_eq rfl) (hb hby d7_8) (fun _ _ => ⟨rfl, e2, (by decide : 2 + 0 ≤ _), (by decide : 20 + 0 ≤ _)⟩)
  dsimp only [Pt.U, Pt.locs, Pt.cells, Pt.slots] at X3 cl_3 cy_3 cz_3 st3 hQ3
  rw [cl_3, cy_3, cz_3] at X3
  obtain ⟨rfl, N3q, e3⟩ := hQ3
  have N3 := Fr.app N0 N3q
  have f5 : Exa Z h2 sA "java/lang/String" := (EsA.ext E2)
  obtain ⟨T4, X4, e4, st4⟩ := castY X3 hx hZ2 hown2 (hw _ (List.mem_of_getElem? (i := 44) rfl)) e3 (Ins.self f5) (g := (mkF m 11 #[.val (.ref a), .val (.ref sA), .val (.ref sB), .val (.ref sC)] [(.ref sA), (.ref a)])) rfl rfl (hb hby d7_11)
  have f7 : Exa Z h2 a "com/example/relayout/relayout/plan/Transfer" := (Ea.ext E2)
  have f8 : Fld Z h2 a "com/example/relayout/relayout/plan/Transfer" "item" "Ljava/lang/String;" u1 := (Fu0.ext E2)
  obtain ⟨T6, h6, X6, e6, W6, st6⟩ := putF X4 hx hZ2 hown2 (host := "") (Or.inl (hw _ (List.mem_of_getElem? (i := 45) rfl))) Via.refl e4 f8 f7 (Or.inr ⟨(hw _ (List.mem_of_getElem? (i := 46) rfl)), rfl, hnm⟩) (hw _ (List.mem_of_getElem? (i := 1) rfl)) (ty := (.object "java/lang/String")) (by decide) rfl rfl (g := (mkF m 14 #[.val (.ref a), .val (.ref sA), .val (.ref sB), .val (.ref sC)] [(.ref sA), (.ref a)])) rfl rfl (hb hby d7_14)
  have ne_sA_a : sA ≠ a := ne_exa f5 f7 (by decide)
  have f9 : Exa Z h2 sB "java/lang/String" := (EsB.ext E2)
  have ne_sB_a : sB ≠ a := ne_exa f9 f7 (by decide)
  have f10 : Exa Z h2 sC "java/lang/String" := (EsC.ext E2)
  have ne_sC_a : sC ≠ a := ne_exa f10 f7 (by decide)
  have Z6 : n0 ≤ h6.size := Nat.le_trans Z2 (Keep.of_wr W6).1
  have K6 : Keep h0 h6 [a] := K2.wr W6 (Or.inl (List.mem_of_getElem? (i := 0) rfl))
  have O6 : Old Z n0 h6 := O2.wr W6 g_a
  have N6 := Fr.snoc X6 N3 g_a
  have hk6 := Nat.le_trans hk2 (Keep.of_wr W6).1
  have fw6 : Fld Z h6 a "com/example/relayout/relayout/plan/Transfer" "item" "Ljava/lang/String;" (.ref sA) := f8.same W6
  obtain ⟨a11, T11, h11, k11, X11, e11, E11, hS11, hk11, hZ11, hown11, st11⟩ := ldcS X6 hx hZ2 hown2 (hw _ (List.mem_of_getElem? (i := 47) rfl)) (own_sat hw) e6 hS2 hk6 (g := (mkF m 19 #[.val (.ref a), .val (.ref sA), .val (.ref sB), .val (.ref sC)] [(.ref sB), (.ref a)])) rfl (hb hby d7_19) (n := 16) (by decide) (by decide) (by decide) (by decide)
  have Z11 : n0 ≤ h11.size := Nat.le_trans Z6 E11.1
  have K11 : Keep h0 h11 [a] := K6.ext E11
  have O11 : Old Z n0 h11 := O6.ext E11
  obtain ⟨_, _, ⟨T12, L12, k12, n12⟩, -, X12, ⟨Lc12, hQ12, cl_12, cy_12, cz_12⟩, st12⟩ := Jvm.LawKit.callS X11 hx (y := (⟨"java/util/Objects", "requireNonNull", "(Ljava/lang/Object;Ljava/lang/String;)Ljava/lang/Object;"⟩ : MethodName)) hown11 (mvT hZ11 (hw _ (List.mem_of_getElem? (i := 40) rfl))) (mvT hZ11 (hw _ (List.mem_of_getElem? (i := 41) rfl))) (mvT hZ11 (hw _ (List.mem_of_getElem? (i := 42) rfl))) (mvT hZ11 (hw _ (List.mem_of_getElem? (i := 43) rfl))) (by decide) (backOf (W := 1) (rnn l Z a0 hw [] zCS wcI ccI sB a11 h11 n0 O11 S_CS hCS hcT0 hcT1 hcT2 hcH hcW S_cI B_cI S_hi   ) hZ11 (hw _ (List.mem_of_getElem? (i := 43) rfl)) (hw _ (List.mem_of_getElem? (i := 42) rfl)) (by decide) (by decide)) (g := (mkF m 21 #[.val (.ref a), .val (.ref sA), .val (.ref sB), .val (.ref sC)] [(.ref a11), (.ref sB), (.ref a)])) rfl (by rw [hml]; rfl) (argsL := [(.ref sB), (.ref a11)]) (rest := [(.ref a)]) (lenOf pd_6 rfl) rfl (by show 2 * 0 + _ ≤ _; exact Nat.le_of_eq rfl) (hb hby d7_21) (fun _ _ => ⟨rfl, e11, (by decide : 4 + 0 ≤ _), (by decide : 40 + 0 ≤ _)⟩)
  dsimp only [Pt.U, Pt.locs, Pt.cells, Pt.slots] at X12 cl_12 cy_12 cz_12 st12 hQ12
  rw [cl_12, cy_12, cz_12] at X12
  obtain ⟨rfl, N12q, e12⟩ := hQ12
  have N12 := Fr.app N6 N12q
  have f14 : Exa Z h11 sB "java/lang/String" := ((f9.wr W6).ext E11)
  obtain ⟨T13, X13, e13, st13⟩ := castY X12 hx hZ11 hown11 (hw _ (List.mem_of_getElem? (i := 44) rfl)) e12 (Ins.self f14) (g := (mkF m 24 #[.val (.ref a), .val (.ref sA), .val (.ref sB), .val (.ref sC)] [(.ref sB), (.ref a)])) rfl rfl (hb hby d7_24)
  have f16 : Exa Z h11 a "com/example/relayout/relayout/plan/Transfer" := ((f7.wr W6).ext E11)
  have f17 : Fld Z h11 a "com/example/relayout/relayout/plan/Transfer" "from" "Ljava/lang/String;" u2 := (((Fu1.ext E2).other W6 (Or.inr (slot_ne (Or.inr (hw _ (List.mem_of_getElem? (i := 49) rfl))) (Or.inr (hw _ (List.mem_of_getElem? (i := 46) rfl))) (by decide) (t := (.object "java/lang/String")) (t' := (.object "java/lang/String")) (by decide) (by decide)))).ext E11)
  obtain ⟨T15, h15, X15, e15, W15, st15⟩ := putF X13 hx hZ11 hown11 (host := "") (Or.inl (hw _ (List.mem_of_getElem? (i := 48) rfl))) Via.refl e13 f17 f16 (Or.inr ⟨(hw _ (List.mem_of_getElem? (i := 49) rfl)), rfl, hnm⟩) (hw _ (List.mem_of_getElem? (i := 1) rfl)) (ty := (.object "java/lang/String")) (by decide) rfl rfl (g := (mkF m 27 #[.val (.ref a), .val (.ref sA), .val (.ref sB), .val (.ref sC)] [(.ref sB), (.ref a)])) rfl rfl (hb hby d7_27)
  have Z15 : n0 ≤ h15.size := Nat.le_trans Z11 (Keep.of_wr W15).1
  have K15 : Keep h0 h15 [a] := K11.wr W15 (Or.inl (List.mem_of_getElem? (i := 0) rfl))
  have O15 : Old Z n0 h15 := O11.wr W15 g_a
  have N15 := Fr.snoc X15 N12 g_a
  have hk15 := Nat.le_trans hk11 (Keep.of_wr W15).1
  have fw15 : Fld Z h15 a "com/example/relayout/relayout/plan/Transfer" "from" "Ljava/lang/String;" (.ref sB) := f17.same W15
  obtain ⟨a18, T18, h18, k18, X18, e18, E18, hS18, hk18, hZ18, hown18, st18⟩ := ldcS X15 hx hZ11 hown11 (hw _ (List.mem_of_getElem? (i := 50) rfl)) (own_sat hw) e15 hS11 hk15 (g := (mkF m 32 #[.val (.ref a), .val (.ref sA), .val (.ref sB), .val (.ref sC)] [(.ref sC), (.ref a)])) rfl (hb hby d7_32) (n := 8) (by decide) (by decide) (by decide) (by decide)
  have Z18 : n0 ≤ h18.size := Nat.le_trans Z15 E18.1
  have K18 : Keep h0 h18 [a] := K15.ext E18
  have O18 : Old Z n0 h18 := O15.ext E18
  obtain ⟨_, _, ⟨T19, L19, k19, n19⟩, -, X19, ⟨Lc19, hQ19, cl_19, cy_19, cz_19⟩, st19⟩ := Jvm.LawKit.callS X18 hx (y := (⟨"java/util/Objects", "requireNonNull", "(Ljava/lang/Object;Ljava/lang/String;)Ljava/lang/Object;"⟩ : MethodName)) hown18 (mvT hZ18 (hw _ (List.mem_of_getElem? (i := 40) rfl))) (mvT hZ18 (hw _ (List.mem_of_getElem? (i := 41) rfl))) (mvT hZ18 (hw _ (List.mem_of_getElem? (i := 42) rfl))) (mvT hZ18 (hw _ (List.mem_of_getElem? (i := 43) rfl))) (by decide) (backOf (W := 1) (rnn l Z a0 hw [] zCS wcI ccI sC a18 h18 n0 O18 S_CS hCS hcT0 hcT1 hcT2 hcH hcW S_cI B_cI S_hi   ) hZ18 (hw _ (List.mem_of_getElem? (i := 43) rfl)) (hw _ (List.mem_of_getElem? (i := 42) rfl)) (by decide) (by decide)) (g := (mkF m 34 #[.val (.ref a), .val (.ref sA), .val (.ref sB), .val (.ref sC)] [(.ref a18), (.ref sC), (.ref a)])) rfl (by rw [hml]; rfl) (argsL := [(.ref sC), (.ref a18)]) (rest := [(.ref a)]) (lenOf pd_6 rfl) rfl (by show 2 * 0 + _ ≤ _; exact Nat.le_of_eq rfl) (hb hby d7_34) (fun _ _ => ⟨rfl, e18, (by decide : 6 + 0 ≤ _), (by decide : 52 + 0 ≤ _)⟩)
  dsimp only [Pt.U, Pt.locs, Pt.cells, Pt.slots] at X19 cl_19 cy_19 cz_19 st19 hQ19
  rw [cl_19, cy_19, cz_19] at X19
  obtain ⟨rfl, N19q, e19⟩ := hQ19
  have N19 := Fr.app N15 N19q
  have f21 : Exa Z h18 sC "java/lang/String" := ((((f10.wr W6).ext E11).wr W15).ext E18)
  obtain ⟨T20, X20, e20, st20⟩ := castY X19 hx hZ18 hown18 (hw _ (List.mem_of_getElem? (i := 44) rfl)) e19 (Ins.self f21) (g := (mkF m 37 #[.val (.ref a), .val (.ref sA), .val (.ref sB), .val (.ref sC)] [(.ref sC), (.ref a)])) rfl rfl (hb hby d7_37)
  have f23 : Exa Z h18 a "com/example/relayout/relayout/plan/Transfer" := ((f16.wr W15).ext E18)
  have f24 : Fld Z h18 a "com/example/relayout/relayout/plan/Transfer" "to" "Ljava/lang/String;" u3 := (((((Fu2.ext E2).other W6 (Or.inr (slot_ne (Or.inr (hw _ (List.mem_of_getElem? (i := 52) rfl))) (Or.inr (hw _ (List.mem_of_getElem? (i := 46) rfl))) (by decide) (t := (.object "java/lang/String")) (t' := (.object "java/lang/String")) (by decide) (by decide)))).ext E11).other W15 (Or.inr (slot_ne (Or.inr (hw _ (List.mem_of_getElem? (i := 52) rfl))) (Or.inr (hw _ (List.mem_of_getElem? (i := 49) rfl))) (by decide) (t := (.object "java/lang/String")) (t' := (.object "java/lang/String")) (by decide) (by decide)))).ext E18)
  obtain ⟨T22, h22, X22, e22, W22, st22⟩ := putF X20 hx hZ18 hown18 (host := "") (Or.inl (hw _ (List.mem_of_getElem? (i := 51) rfl))) Via.refl e20 f24 f23 (Or.inr ⟨(hw _ (List.mem_of_getElem? (i := 52) rfl)), rfl, hnm⟩) (hw _ (List.mem_of_getElem? (i := 1) rfl)) (ty := (.object "java/lang/String")) (by decide) rfl rfl (g := (mkF m 40 #[.val (.ref a), .val (.ref sA), .val (.ref sB), .val (.ref sC)] [(.ref sC), (.ref a)])) rfl rfl (hb hby d7_40)
  have Z22 : n0 ≤ h22.size := Nat.le_trans Z18 (Keep.of_wr W22).1
  have K22 : Keep h0 h22 [a] := K18.wr W22 (Or.inl (List.mem_of_getElem? (i := 0) rfl))
  have O22 : Old Z n0 h22 := O18.wr W22 g_a
  have N22 := Fr.snoc X22 N19 g_a
  have hk22 := Nat.le_trans hk18 (Keep.of_wr W22).1
  have fw22 : Fld Z h22 a "com/example/relayout/relayout/plan/Transfer" "to" "Ljava/lang/String;" (.ref sC) := f24.same W22
  have R25 : ∀ t, Steps p.tables e below (T22.setTop (mkF m 43 #[.val (.ref a), .val (.ref sA), .val (.ref sB), .val (.ref sC)] [])) t → Steps p.tables e below (s₁.setTop (entryFrame m #[(.ref a), (.ref sA), (.ref sB), (.ref sC)] 4)) t := by
    intro t k
    refine R0 t ?_
    show Steps p.tables e below (s₁.setTop (mkF m 0 #[.val (.ref a), .val (.ref sA), .val (.ref sB), .val (.ref sC)] [])) t
    refine XS.aloadN X0.here hx rfl (hb hby d7_0) rfl rfl ?_
    show Steps p.tables e below (s₁.setTop (mkF m 1 #[.val (.ref a), .val (.ref sA), .val (.ref sB), .val (.ref sC)] [(.ref a)])) t
    refine st1 _ ?_
    show Steps p.tables e below (T1.setTop (mkF m 4 #[.val (.ref a), .val (.ref sA), .val (.ref sB), .val (.ref sC)] [])) t
    refine XS.aloadN X1.here hx rfl (hb hby d7_4) rfl rfl ?_
    show Steps p.tables e below (T1.setTop (mkF m 5 #[.val (.ref a), .val (.ref sA), .val (.ref sB), .val (.ref sC)] [(.ref a)])) t
    refine XS.aloadN X1.here hx rfl (hb hby d7_5) rfl rfl ?_
    show Steps p.tables e below (T1.setTop (mkF m 6 #[.val (.ref a), .val (.ref sA), .val (.ref sB), .val (.ref sC)] [(.ref sA), (.ref a)])) t
    refine st2 _ ?_
    show Steps p.tables e below (T2.setTop (mkF m 8 #[.val (.ref a), .val (.ref sA), .val (.ref sB), .val (.ref sC)] [(.ref a2), (.ref sA), (.ref a)])) t
    refine st3 _ ?_
    show Steps p.tables e below (T3.setTop (mkF m 11 #[.val (.ref a), .val (.ref sA), .val (.ref sB), .val (.ref sC)] [(.ref sA), (.ref a)])) t
    refine st4 _ ?_
    show Steps p.tables e below (T4.setTop (mkF m 14 #[.val (.ref a), .val (.ref sA), .val (.ref sB), .val (.ref sC)] [(.ref sA), (.ref a)])) t
    refine st6 _ ?_
    show Steps p.tables e below (T6.setTop (mkF m 17 #[.val (.ref a), .val (.ref sA), .val (.ref sB), .val (.ref sC)] [])) t
    refine XS.aloadN X6.here hx rfl (hb hby d7_17) rfl rfl ?_
    show Steps p.tables e below (T6.setTop (mkF m 18 #[.val (.ref a), .val (.ref sA), .val (.ref sB), .val (.ref sC)] [(.ref a)])) t
    refine XS.aloadN X6.here hx rfl (hb hby d7_18) rfl rfl ?_
    show Steps p.tables e below (T6.setTop (mkF m 19 #[.val (.ref a), .val (.ref sA), .val (.ref sB), .val (.ref sC)] [(.ref sB), (.ref a)])) t
    refine st11 _ ?_
    show Steps p.tables e below (T11.setTop (mkF m 21 #[.val (.ref a), .val (.ref sA), .val (.ref sB), .val (.ref sC)] [(.ref a11), (.ref sB), (.ref a)])) t
    refine st12 _ ?_
    show Steps p.tables e below (T12.setTop (mkF m 24 #[.val (.ref a), .val (.ref sA), .val (.ref sB), .val (.ref sC)] [(.ref sB), (.ref a)])) t
    refine st13 _ ?_
    show Steps p.tables e below (T13.setTop (mkF m 27 #[.val (.ref a), .val (.ref sA), .val (.ref sB), .val (.ref sC)] [(.ref sB), (.ref a)])) t
    refine st15 _ ?_
    show Steps p.tables e below (T15.setTop (mkF m 30 #[.val (.ref a), .val (.ref sA), .val (.ref sB), .val (.ref sC)] [])) t
    refine XS.aloadN X15.here hx rfl (hb hby d7_30) rfl rfl ?_
    show Steps p.tables e below (T15.setTop (mkF m 31 #[.val (.ref a), .val (.ref sA), .val (.ref sB), .val (.ref sC)] [(.ref a)])) t
    refine XS.aloadN X15.here hx rfl (hb hby d7_31) rfl rfl ?_
    show Steps p.tables e below (T15.setTop (mkF m 32 #[.val (.ref a), .val (.ref sA), .val (.ref sB), .val (.ref sC)] [(.ref sC), (.ref a)])) t
    refine st18 _ ?_
    show Steps p.tables e below (T18.setTop (mkF m 34 #[.val (.ref a), .val (.ref sA), .val (.ref sB), .val (.ref sC)] [(.ref a18), (.ref sC), (.ref a)])) t
    refine st19 _ ?_
    show Steps p.tables e below (T19.setTop (mkF m 37 #[.val (.ref a), .val (.ref sA), .val (.ref sB), .val (.ref sC)] [(.ref sC), (.ref a)])) t
    refine st20 _ ?_
    show Steps p.tables e below (T20.setTop (mkF m 40 #[.val (.ref a), .val (.ref sA), .val (.ref sB), .val (.ref sC)] [(.ref sC), (.ref a)])) t
    refine st22 _ ?_
    exact k
  have f26 : Exa Z h22 a "com/example/relayout/relayout/plan/Transfer" := (f23.wr W22)
  have f27 : Fld Z h22 a "com/example/relayout/relayout/plan/Transfer" "item" "Ljava/lang/String;" (.ref sA) := ((((fw6.ext E11).other W15 (Or.inr (slot_ne (Or.inr (hw _ (List.mem_of_getElem? (i := 46) rfl))) (Or.inr (hw _ (List.mem_of_getElem? (i := 49) rfl))) (by decide) (t := (.object "java/lang/String")) (t' := (.object "java/lang/String")) (by decide) (by decide)))).ext E18).other W22 (Or.inr (slot_ne (Or.inr (hw _ (List.mem_of_getElem? (i := 46) rfl))) (Or.inr (hw _ (List.mem_of_getElem? (i := 52) rfl))) (by decide) (t := (.object "java/lang/String")) (t' := (.object "java/lang/String")) (by decide) (by decide))))
  have f28 : Fld Z h22 a "com/example/relayout/relayout/plan/Transfer" "from" "Ljava/lang/String;" (.ref sB) := ((fw15.ext E18).other W22 (Or.inr (slot_ne (Or.inr (hw _ (List.mem_of_getElem? (i := 49) rfl))) (Or.inr (hw _ (List.mem_of_getElem? (i := 52) rfl))) (by decide) (t := (.object "java/lang/String")) (t' := (.object "java/lang/String")) (by decide) (by decide))))
  obtain ⟨fs, hr, hrun, hended, hRW⟩ := X22.leaveW hS18 (by rw [e22]; exact hk22) (v := none) (fun _ => rfl)
  refine ⟨_, _, R25 _ ?_, hrun, hended, _, _, rfl, ?_, hRW.1, hRW.2.1, hRW.2.2.1, hRW.2.2.2.mono (by decide) (by decide)⟩
  · show Steps p.tables e below (T22.setTop (mkF m 43 #[.val (.ref a), .val (.ref sA), .val (.ref sB), .val (.ref sC)] [])) _
    exact X22.returnOut hx Bd.returns (hb hby d7_43) hr
  · show Q_tinitW Z zCS wcI ccI a sA sB sC u1 u2 u3 h0 n0 _ T22.heap _
    rw [e22]
    exact ⟨rfl, N22, K22, f26, f27, f28, fw22⟩
theorem d13_0 : decode jdk_43_method_13_code 0 = .ok (.aload_n 0, 1) := by decide +kernel
theorem d13_1 : decode jdk_43_method_13_code 1 = .ok (.arraylength, 1) := by decide +kernel
theorem d13_2 : decode jdk_43_method_13_code 2 = .ok (.aload_n 1, 1) := by decide +kernel
theorem d13_3 : decode jdk_43_method_13_code 3 = .ok (.arraylength, 1) := by decide +kernel
theorem d13_4 : decode jdk_43_method_13_code 4 = .ok (.if_icmp .ne 30, 3) := by decide +kernel
theorem d13_7 : decode jdk_43_method_13_code 7 = .ok (.iconst 0, 1) := by decide +kernel
theorem d13_8 : decode jdk_43_method_13_code 8 = .ok (.istore_n 2, 1) := by decide +kernel
theorem d13_9 : decode jdk_43_method_13_code 9 = .ok (.iload_n 2, 1) := by decide +kernel
theorem d13_10 : decode jdk_43_method_13_code 10 = .ok (.aload_n 0, 1) := by decide +kernel
theorem d13_11 : decode jdk_43_method_13_code 11 = .ok (.arraylength, 1) := by decide +kernel
theorem d13_12 : decode jdk_43_method_13_code 12 = .ok (.if_icmp .ge 20, 3) := by decide +kernel
theorem d13_32 : decode jdk_43_method_13_code 32 = .ok (.iconst 1, 1) := by decide +kernel
theorem d13_33 : decode jdk_43_method_13_code 33 = .ok (.ireturn, 1) := by decide +kernel
theorem d13_34 : decode jdk_43_method_13_code 34 = .ok (.iconst 0, 1) := by decide +kernel
theorem d13_35 : decode jdk_43_method_13_code 35 = .ok (.ireturn, 1) := by decide +kernel
theorem d13_15 : decode jdk_43_method_13_code 15 = .ok (.aload_n 0, 1) := by decide +kernel
theorem d13_16 : decode jdk_43_method_13_code 16 = .ok (.iload_n 2, 1) := by decide +kernel
theorem d13_17 : decode jdk_43_method_13_code 17 = .ok (.baload, 1) := by decide +kernel
theorem d13_18 : decode jdk_43_method_13_code 18 = .ok (.aload_n 1, 1) := by decide +kernel
theorem d13_19 : decode jdk_43_method_13_code 19 = .ok (.iload_n 2, 1) := by decide +kernel
theorem d13_20 : decode jdk_43_method_13_code 20 = .ok (.baload, 1) := by decide +kernel
theorem d13_21 : decode jdk_43_method_13_code 21 = .ok (.if_icmp .eq 5, 3) := by decide +kernel
theorem d13_26 : decode jdk_43_method_13_code 26 = .ok (.iinc 2 1, 3) := by decide +kernel
theorem d13_29 : decode jdk_43_method_13_code 29 = .ok (.goto (-20), 3) := by decide +kernel
theorem d13_24 : decode jdk_43_method_13_code 24 = .ok (.iconst 0, 1) := by decide +kernel
theorem d13_25 : decode jdk_43_method_13_code 25 = .ok (.ireturn, 1) := by decide +kernel
theorem ef_leq (m : MethodId) (tA : Addr) (kA : ClassId) (nA : Int32) (vA : List Value) (zA : Int32) (tB : Addr) (kB : ClassId) (nB : Int32) (vB : List Value) (zB : Int32) : entryFrame m #[(.ref tA), (.ref tB)] 3 = mkF m 0 #[.val (.ref tA), .val (.ref tB), .unset] [] := by first | (simp [entryFrame, mkF, argsToLocals, Value.category]; done) | rfl
def Q_leq (Z : State) (zCS : Int32) (wcI : Addr) (ccI : Cell) (tA : Addr) (kA : ClassId) (nA : Int32) (vA : List Value) (zA : Int32) (tB : Addr) (kB : ClassId) (nB : Int32) (vB : List Value) (zB : Int32) (h0 : Heap) (n0 : Nat) (vv_ : Option Value) (hh_ : Heap) (LL_ : List Loc) : Prop := vv_ = some (.int (if zA = zB then (1 : Int32) else (0 : Int32))) ∧ (Fr n0 LL_) ∧ (hh_ = h0)
set_option maxRecDepth 65536 in
set_option maxHeartbeats 40000000 in
theorem leq (l : Launch) (Z : State) (a0 : Array Value) (hw : ∀ d ∈ tables_1, d.before a0 Z = true) (ws : List Jvm.Cond) (zCS : Int32) (wcI : Addr) (ccI : Cell) (tA : Addr) (kA : ClassId) (nA : Int32) (vA : List Value) (zA : Int32) (tB : Addr) (kB : ClassId) (nB : Int32) (vB : List Value) (zB : Int32) (h0 : Heap) (n0 : Nat) (O0 : Old Z n0 h0) (S_CS : Sta Z Z.heap "java/lang/String" "COMPACT_STRINGS" "Z" (.int zCS)) (hCS : ¬ (zCS = (0 : Int32))) (hcT0 : Jvm.Lit.constHeld Z "com/example/relayout/relayout/plan/Transfer" 7) (hcT1 : Jvm.Lit.constHeld Z "com/example/relayout/relayout/plan/Transfer" 22) (hcT2 : Jvm.Lit.constHeld Z "com/example/relayout/relayout/plan/Transfer" 26) (hcH : Jvm.Lit.constHeld Z "com/example/relayout/relayout/plan/TransferEqualsPinLaw" 7) (hcW : Jvm.Lit.compactW.before a0 Z = true) (S_cI : Sta Z Z.heap "java/lang/Integer$IntegerCache" "cache" "[Ljava/lang/Integer;" (.ref wcI)) (B_cI : Bxs Z wcI ccI "java/lang/Integer" "I" 256 (fun j => .int (j - 128))) (S_hi : Sta Z Z.heap "java/lang/Integer$IntegerCache" "high" "I" (.int (127 : Int32))) (AsA : Arv Z h0 tA kA .byte nA vA (.int 0)) (hCA : own_C zA nA vA) (AsB : Arv Z h0 tB kB .byte nB vB (.int 0)) (hCB : own_C zB nB vB) :
    MetFree l (⟨"java/lang/StringLatin1", "equals", "([B[B)Z"⟩ : MethodName) (head1 (Jvm.Cond.code (⟨"java/lang/StringLatin1", "equals", "([B[B)Z"⟩ : MethodName) jdk_43_method_13_code 3 (some .boolean) :: ws) ({ frames := 0, cells := 0, slots := 0, locals := 0 } : Room)) (fun aa_ U_ => aa_ = #[(.ref tA), (.ref tB)] ∧ Z.Warmed39 U_.vm ∧ U_.heap = h0) (fun _ _ _ _ _ => True) (fun _ U_ oo_ V_ => ∃ vv_ LL_, oo_ = .returned vv_ ∧ Q_leq Z zCS wcI ccI tA kA nA vA zA tB kB nB vB zB h0 n0 vv_ V_.heap LL_ ∧ FrameEnd U_ oo_ V_ LL_ ({ frames := 0, cells := 0, slots := 0, locals := 0 } : Room).cells ({ frames := 0, cells := 0, slots := 0, locals := 0 } : Room).slots) := by
  refine MetFree.of_bodySF (plainFor_of_name pn_java_lang_StringLatin1) hisR ?_
  intro p e s m args below meth c s₁ Bd hml0 hP hK
  obtain ⟨rfl, hZ, hh⟩ := hP
  have hx := Bd.exec
  have hby := Bd.bytes
  have hml : c.maxLocals = 3 := hml0
  have hown : s.vm.findClass "java/lang/StringLatin1" = some m.cls := findClass_of_methodNamed Bd.named
  have hnm := (name_of_methodNamed Bd.named Bd.method).1
  have X0 : Stand p l e ({ frames := 0, cells := 0, slots := 0, locals := 0 } : Room) s m #[(.ref tA), (.ref tB)] below meth c s₁ [] 0 0 := Stand.of_body Bd
  have e0 : s₁.heap = h0 := by rw [← hh, Bd.state]; rfl
  have N0 := Fr.nil n0
  have Z0 : n0 ≤ h0.size := O0.1 ▸ O0.2.1
  have hk0 := Nat.zero_le h0.size
  have K0 : Keep h0 h0 [] := Keep.refl _ _
  have R0 : ∀ t, Steps p.tables e below (s₁.setTop (mkF m 0 #[.val (.ref tA), .val (.ref tB), .unset] [])) t → Steps p.tables e below (s₁.setTop (entryFrame m #[(.ref tA), (.ref tB)] 3)) t := fun t k => castTop (ef_leq m tA kA nA vA zA tB kB nB vB zB) k
  rcases hCA with ⟨hA, rfl, rfl⟩ | ⟨hA, rfl, rfl⟩
  · rcases hCB with ⟨hB, rfl, rfl⟩ | ⟨hB, rfl, rfl⟩
    · obtain ⟨cl1, Ar1, -, S1, M1, -, -⟩ := id AsA
      obtain ⟨cl2, Ar2, -, S2, M2, -, -⟩ := id AsB
      obtain ⟨cl3, Ar3, -, S3, M3, -, -⟩ := id AsA
      have R4 : ∀ t, Steps p.tables e below (s₁.setTop (mkF m 33 #[.val (.ref tA), .val (.ref tB), .val (.int (0 : Int32))] [(.int (1 : Int32))])) t → Steps p.tables e below (s₁.setTop (entryFrame m #[(.ref tA), (.ref tB)] 3)) t := by
        intro t k
        refine R0 t ?_
        show Steps p.tables e below (s₁.setTop (mkF m 0 #[.val (.ref tA), .val (.ref tB), .unset] [])) t
        refine XS.aloadN X0.here hx rfl (hb hby d13_0) rfl rfl ?_
        show Steps p.tables e below (s₁.setTop (mkF m 1 #[.val (.ref tA), .val (.ref tB), .unset] [(.ref tA)])) t
        refine X0.arraylength hx (by rw [e0]; exact Ar1.1) (State.isArrayOf_alike hZ.alike Ar1.2.1) (g := (mkF m 1 #[.val (.ref tA), .val (.ref tB), .unset] [(.ref tA)])) rfl rfl (hb hby d13_1) _ ?_
        rw [len_of S1 M1]
        show Steps p.tables e below (s₁.setTop (mkF m 2 #[.val (.ref tA), .val (.ref tB), .unset] [(.int (0 : Int32))])) t
        refine XS.aloadN X0.here hx rfl (hb hby d13_2) rfl rfl ?_
        show Steps p.tables e below (s₁.setTop (mkF m 3 #[.val (.ref tA), .val (.ref tB), .unset] [(.ref tB), (.int (0 : Int32))])) t
        refine X0.arraylength hx (by rw [e0]; exact Ar2.1) (State.isArrayOf_alike hZ.alike Ar2.2.1) (g := (mkF m 3 #[.val (.ref tA), .val (.ref tB), .unset] [(.ref tB), (.int (0 : Int32))])) rfl rfl (hb hby d13_3) _ ?_
        rw [len_of S2 M2]
        show Steps p.tables e below (s₁.setTop (mkF m 4 #[.val (.ref tA), .val (.ref tB), .unset] [(.int (0 : Int32)), (.int (0 : Int32))])) t
        refine XS.icmpNo X0.here hx rfl (hb hby d13_4) rfl (teq ((by decide) : (0 : Int32) = (0 : Int32))).2 ?_
        show Steps p.tables e below (s₁.setTop (mkF m 7 #[.val (.ref tA), .val (.ref tB), .unset] [])) t
        refine XS.iconst X0.here hx rfl (hb hby d13_7) ?_
        show Steps p.tables e below (s₁.setTop (mkF m 8 #[.val (.ref tA), .val (.ref tB), .unset] [(.int (0 : Int32))])) t
        refine XS.istoreN X0.here hx rfl (hb hby d13_8) rfl (l' := #[.val (.ref tA), .val (.ref tB), .val (.int (0 : Int32))]) rfl ?_
        show Steps p.tables e below (s₁.setTop (mkF m 9 #[.val (.ref tA), .val (.ref tB), .val (.int (0 : Int32))] [])) t
        refine XS.iloadN X0.here hx rfl (hb hby d13_9) rfl ?_
        show Steps p.tables e below (s₁.setTop (mkF m 10 #[.val (.ref tA), .val (.ref tB), .val (.int (0 : Int32))] [(.int (0 : Int32))])) t
        refine XS.aloadN X0.here hx rfl (hb hby d13_10) rfl rfl ?_
        show Steps p.tables e below (s₁.setTop (mkF m 11 #[.val (.ref tA), .val (.ref tB), .val (.int (0 : Int32))] [(.ref tA), (.int (0 : Int32))])) t
        refine X0.arraylength hx (by rw [e0]; exact Ar3.1) (State.isArrayOf_alike hZ.alike Ar3.2.1) (g := (mkF m 11 #[.val (.ref tA), .val (.ref tB), .val (.int (0 : Int32))] [(.ref tA), (.int (0 : Int32))])) rfl rfl (hb hby d13_11) _ ?_
        rw [len_of S3 M3]
        show Steps p.tables e below (s₁.setTop (mkF m 12 #[.val (.ref tA), .val (.ref tB), .val (.int (0 : Int32))] [(.int (0 : Int32)), (.int (0 : Int32))])) t
        refine XS.icmpYes X0.here hx rfl (pc0 := 12) (pc' := 32) rfl (hb hby d13_12) rfl (flt ((by decide) : ¬ ((0 : Int32) < (0 : Int32)))).2.1 (by decide) (by decide) ?_
        show Steps p.tables e below (s₁.setTop (mkF m 32 #[.val (.ref tA), .val (.ref tB), .val (.int (0 : Int32))] [])) t
        refine XS.iconst X0.here hx rfl (hb hby d13_32) ?_
        exact k
      obtain ⟨fs, hr, hrun, hended, hW, hsame⟩ := X0.leave (v := some (.int (1 : Int32))) (fun h => by rw [Bd.returns] at h; cases h)
      refine ⟨_, _, R4 _ ?_, hrun, hended, _, _, rfl, ?_, ⟨_, rfl⟩, hW, hsame.mono (by decide) (by decide)⟩
      · show Steps p.tables e below (s₁.setTop (mkF m 33 #[.val (.ref tA), .val (.ref tB), .val (.int (0 : Int32))] [(.int (1 : Int32))])) _
        exact retN X0 hx (t := .boolean) Bd.returns (by simp) (hb hby d13_33) hr
      · show Q_leq Z zCS wcI ccI tA kA (0 : Int32) [] zA tB kB (0 : Int32) [] zB h0 n0 _ s₁.heap _
        rw [e0]
        exact ⟨(by rw [if_pos (hA.trans hB.symm)]), N0, rfl⟩
    · obtain ⟨cl5, Ar5, -, S5, M5, -, -⟩ := id AsA
      obtain ⟨cl6, Ar6, -, S6, M6, -, -⟩ := id AsB
      have R7 : ∀ t, Steps p.tables e below (s₁.setTop (mkF m 35 #[.val (.ref tA), .val (.ref tB), .unset] [(.int (0 : Int32))])) t → Steps p.tables e below (s₁.setTop (entryFrame m #[(.ref tA), (.ref tB)] 3)) t := by
        intro t k
        refine R0 t ?_
        show Steps p.tables e below (s₁.setTop (mkF m 0 #[.val (.ref tA), .val (.ref tB), .unset] [])) t
        refine XS.aloadN X0.here hx rfl (hb hby d13_0) rfl rfl ?_
        show Steps p.tables e below (s₁.setTop (mkF m 1 #[.val (.ref tA), .val (.ref tB), .unset] [(.ref tA)])) t
        refine X0.arraylength hx (by rw [e0]; exact Ar5.1) (State.isArrayOf_alike hZ.alike Ar5.2.1) (g := (mkF m 1 #[.val (.ref tA), .val (.ref tB), .unset] [(.ref tA)])) rfl rfl (hb hby d13_1) _ ?_
        rw [len_of S5 M5]
        show Steps p.tables e below (s₁.setTop (mkF m 2 #[.val (.ref tA), .val (.ref tB), .unset] [(.int (0 : Int32))])) t
        refine XS.aloadN X0.here hx rfl (hb hby d13_2) rfl rfl ?_
        show Steps p.tables e below (s₁.setTop (mkF m 3 #[.val (.ref tA), .val (.ref tB), .unset] [(.ref tB), (.int (0 : Int32))])) t
        refine X0.arraylength hx (by rw [e0]; exact Ar6.1) (State.isArrayOf_alike hZ.alike Ar6.2.1) (g := (mkF m 3 #[.val (.ref tA), .val (.ref tB), .unset] [(.ref tB), (.int (0 : Int32))])) rfl rfl (hb hby d13_3) _ ?_
        rw [len_of S6 M6]
        show Steps p.tables e below (s₁.setTop (mkF m 4 #[.val (.ref tA), .val (.ref tB), .unset] [(.int (1 : Int32)), (.int (0 : Int32))])) t
        refine XS.icmpYes X0.here hx rfl (pc0 := 4) (pc' := 34) rfl (hb hby d13_4) rfl (feq ((by decide) : ¬ ((0 : Int32) = (1 : Int32)))).2 (by decide) (by decide) ?_
        show Steps p.tables e below (s₁.setTop (mkF m 34 #[.val (.ref tA), .val (.ref tB), .unset] [])) t
        refine XS.iconst X0.here hx rfl (hb hby d13_34) ?_
        exact k
      obtain ⟨fs, hr, hrun, hended, hW, hsame⟩ := X0.leave (v := some (.int (0 : Int32))) (fun h => by rw [Bd.returns] at h; cases h)
      refine ⟨_, _, R7 _ ?_, hrun, hended, _, _, rfl, ?_, ⟨_, rfl⟩, hW, hsame.mono (by decide) (by decide)⟩
      · show Steps p.tables e below (s₁.setTop (mkF m 35 #[.val (.ref tA), .val (.ref tB), .unset] [(.int (0 : Int32))])) _
        exact retN X0 hx (t := .boolean) Bd.returns (by simp) (hb hby d13_35) hr
      · show Q_leq Z zCS wcI ccI tA kA (0 : Int32) [] zA tB kB (1 : Int32) [(.int (zB.toInt8.toInt32))] zB h0 n0 _ s₁.heap _
        rw [e0]
        exact ⟨(by rw [if_neg (own_c01 hA hB)]), N0, rfl⟩
  · rcases hCB with ⟨hB, rfl, rfl⟩ | ⟨hB, rfl, rfl⟩
    · obtain ⟨cl8, Ar8, -, S8, M8, -, -⟩ := id AsA
      obtain ⟨cl9, Ar9, -, S9, M9, -, -⟩ := id AsB
      have R10 : ∀ t, Steps p.tables e below (s₁.setTop (mkF m 35 #[.val (.ref tA), .val (.ref tB), .unset] [(.int (0 : Int32))])) t → Steps p.tables e below (s₁.setTop (entryFrame m #[(.ref tA), (.ref tB)] 3)) t := by
        intro t k
        refine R0 t ?_
        show Steps p.tables e below (s₁.setTop (mkF m 0 #[.val (.ref tA), .val (.ref tB), .unset] [])) t
        refine XS.aloadN X0.here hx rfl (hb hby d13_0) rfl rfl ?_
        show Steps p.tables e below (s₁.setTop (mkF m 1 #[.val (.ref tA), .val (.ref tB), .unset] [(.ref tA)])) t
        refine X0.arraylength hx (by rw [e0]; exact Ar8.1) (State.isArrayOf_alike hZ.alike Ar8.2.1) (g := (mkF m 1 #[.val (.ref tA), .val (.ref tB), .unset] [(.ref tA)])) rfl rfl (hb hby d13_1) _ ?_
        rw [len_of S8 M8]
        show Steps p.tables e below (s₁.setTop (mkF m 2 #[.val (.ref tA), .val (.ref tB), .unset] [(.int (1 : Int32))])) t
        refine XS.aloadN X0.here hx rfl (hb hby d13_2) rfl rfl ?_
        show Steps p.tables e below (s₁.setTop (mkF m 3 #[.val (.ref tA), .val (.ref tB), .unset] [(.ref tB), (.int (1 : Int32))])) t
        refine X0.arraylength hx (by rw [e0]; exact Ar9.1) (State.isArrayOf_alike hZ.alike Ar9.2.1) (g := (mkF m 3 #[.val (.ref tA), .val (.ref tB), .unset] [(.ref tB), (.int (1 : Int32))])) rfl rfl (hb hby d13_3) _ ?_
        rw [len_of S9 M9]
        show Steps p.tables e below (s₁.setTop (mkF m 4 #[.val (.ref tA), .val (.ref tB), .unset] [(.int (0 : Int32)), (.int (1 : Int32))])) t
        refine XS.icmpYes X0.here hx rfl (pc0 := 4) (pc' := 34) rfl (hb hby d13_4) rfl (feq ((by decide) : ¬ ((1 : Int32) = (0 : Int32)))).2 (by decide) (by decide) ?_
        show Steps p.tables e below (s₁.setTop (mkF m 34 #[.val (.ref tA), .val (.ref tB), .unset] [])) t
        refine XS.iconst X0.here hx rfl (hb hby d13_34) ?_
        exact k
      obtain ⟨fs, hr, hrun, hended, hW, hsame⟩ := X0.leave (v := some (.int (0 : Int32))) (fun h => by rw [Bd.returns] at h; cases h)
      refine ⟨_, _, R10 _ ?_, hrun, hended, _, _, rfl, ?_, ⟨_, rfl⟩, hW, hsame.mono (by decide) (by decide)⟩
      · show Steps p.tables e below (s₁.setTop (mkF m 35 #[.val (.ref tA), .val (.ref tB), .unset] [(.int (0 : Int32))])) _
        exact retN X0 hx (t := .boolean) Bd.returns (by simp) (hb hby d13_35) hr
      · show Q_leq Z zCS wcI ccI tA kA (1 : Int32) [(.int (zA.toInt8.toInt32))] zA tB kB (0 : Int32) [] zB h0 n0 _ s₁.heap _
        rw [e0]
        exact ⟨(by rw [if_neg (fun e => own_c01 hB hA e.symm)]), N0, rfl⟩
    · obtain ⟨cl11, Ar11, -, S11, M11, -, -⟩ := id AsA
      obtain ⟨cl12, Ar12, -, S12, M12, -, -⟩ := id AsB
      obtain ⟨cl13, Ar13, -, S13, M13, -, -⟩ := id AsA
      obtain ⟨cl14, Ar14, q14, S14, M14, H14, G14⟩ := id AsA
      have in14 : ¬ ((0 : Int32) < 0 ∨ cl14.slots.size ≤ ((0 : Int32)).toNatClampNeg) := inb_of S14 ⟨by decide, by decide⟩
      have at14 : cl14.slots[((0 : Int32)).toNatClampNeg]? = some (.int (zA.toInt8.toInt32)) := H14.at in14 rfl
      obtain ⟨cl15, Ar15, q15, S15, M15, H15, G15⟩ := id AsB
      have in15 : ¬ ((0 : Int32) < 0 ∨ cl15.slots.size ≤ ((0 : Int32)).toNatClampNeg) := inb_of S15 ⟨by decide, by decide⟩
      have at15 : cl15.slots[((0 : Int32)).toNatClampNeg]? = some (.int (zB.toInt8.toInt32)) := H15.at in15 rfl
      have R16 : ∀ t, Steps p.tables e below (s₁.setTop (mkF m 21 #[.val (.ref tA), .val (.ref tB), .val (.int (0 : Int32))] [(.int (zB.toInt8.toInt32)), (.int (zA.toInt8.toInt32))])) t → Steps p.tables e below (s₁.setTop (entryFrame m #[(.ref tA), (.ref tB)] 3)) t := by
        intro t k
        refine R0 t ?_
        show Steps p.tables e below (s₁.setTop (mkF m 0 #[.val (.ref tA), .val (.ref tB), .unset] [])) t
        refine XS.aloadN X0.here hx rfl (hb hby d13_0) rfl rfl ?_
        show Steps p.tables e below (s₁.setTop (mkF m 1 #[.val (.ref tA), .val (.ref tB), .unset] [(.ref tA)])) t
        refine X0.arraylength hx (by rw [e0]; exact Ar11.1) (State.isArrayOf_alike hZ.alike Ar11.2.1) (g := (mkF m 1 #[.val (.ref tA), .val (.ref tB), .unset] [(.ref tA)])) rfl rfl (hb hby d13_1) _ ?_
        rw [len_of S11 M11]
        show Steps p.tables e below (s₁.setTop (mkF m 2 #[.val (.ref tA), .val (.ref tB), .unset] [(.int (1 : Int32))])) t
        refine XS.aloadN X0.here hx rfl (hb hby d13_2) rfl rfl ?_
        show Steps p.tables e below (s₁.setTop (mkF m 3 #[.val (.ref tA), .val (.ref tB), .unset] [(.ref tB), (.int (1 : Int32))])) t
        refine X0.arraylength hx (by rw [e0]; exact Ar12.1) (State.isArrayOf_alike hZ.alike Ar12.2.1) (g := (mkF m 3 #[.val (.ref tA), .val (.ref tB), .unset] [(.ref tB), (.int (1 : Int32))])) rfl rfl (hb hby d13_3) _ ?_
        rw [len_of S12 M12]
        show Steps p.tables e below (s₁.setTop (mkF m 4 #[.val (.ref tA), .val (.ref tB), .unset] [(.int (1 : Int32)), (.int (1 : Int32))])) t
        refine XS.icmpNo X0.here hx rfl (hb hby d13_4) rfl (teq ((by decide) : (1 : Int32) = (1 : Int32))).2 ?_
        show Steps p.tables e below (s₁.setTop (mkF m 7 #[.val (.ref tA), .val (.ref tB), .unset] [])) t
        refine XS.iconst X0.here hx rfl (hb hby d13_7) ?_
        show Steps p.tables e below (s₁.setTop (mkF m 8 #[.val (.ref tA), .val (.ref tB), .unset] [(.int (0 : Int32))])) t
        refine XS.istoreN X0.here hx rfl (hb hby d13_8) rfl (l' := #[.val (.ref tA), .val (.ref tB), .val (.int (0 : Int32))]) rfl ?_
        show Steps p.tables e below (s₁.setTop (mkF m 9 #[.val (.ref tA), .val (.ref tB), .val (.int (0 : Int32))] [])) t
        refine XS.iloadN X0.here hx rfl (hb hby d13_9) rfl ?_
        show Steps p.tables e below (s₁.setTop (mkF m 10 #[.val (.ref tA), .val (.ref tB), .val (.int (0 : Int32))] [(.int (0 : Int32))])) t
        refine XS.aloadN X0.here hx rfl (hb hby d13_10) rfl rfl ?_
        show Steps p.tables e below (s₁.setTop (mkF m 11 #[.val (.ref tA), .val (.ref tB), .val (.int (0 : Int32))] [(.ref tA), (.int (0 : Int32))])) t
        refine X0.arraylength hx (by rw [e0]; exact Ar13.1) (State.isArrayOf_alike hZ.alike Ar13.2.1) (g := (mkF m 11 #[.val (.ref tA), .val (.ref tB), .val (.int (0 : Int32))] [(.ref tA), (.int (0 : Int32))])) rfl rfl (hb hby d13_11) _ ?_
        rw [len_of S13 M13]
        show Steps p.tables e below (s₁.setTop (mkF m 12 #[.val (.ref tA), .val (.ref tB), .val (.int (0 : Int32))] [(.int (1 : Int32)), (.int (0 : Int32))])) t
        refine XS.icmpNo X0.here hx rfl (hb hby d13_12) rfl (tlt ((by decide) : (0 : Int32) < (1 : Int32))).2.1 ?_
        show Steps p.tables e below (s₁.setTop (mkF m 15 #[.val (.ref tA), .val (.ref tB), .val (.int (0 : Int32))] [])) t
        refine XS.aloadN X0.here hx rfl (hb hby d13_15) rfl rfl ?_
        show Steps p.tables e below (s₁.setTop (mkF m 16 #[.val (.ref tA), .val (.ref tB), .val (.int (0 : Int32))] [(.ref tA)])) t
        refine XS.iloadN X0.here hx rfl (hb hby d13_16) rfl ?_
        show Steps p.tables e below (s₁.setTop (mkF m 17 #[.val (.ref tA), .val (.ref tB), .val (.int (0 : Int32))] [(.int (0 : Int32)), (.ref tA)])) t
        refine X0.baloadBytes hx (j := (0 : Int32)) (v := (.int (zA.toInt8.toInt32))) (by rw [e0]; exact Ar14.1) (State.isArrayOf_alike hZ.alike Ar14.2.1) Ar14.2.2 in14 at14 (g := (mkF m 17 #[.val (.ref tA), .val (.ref tB), .val (.int (0 : Int32))] [(.int (0 : Int32)), (.ref tA)])) rfl rfl (hb hby d13_17) _ ?_
        show Steps p.tables e below (s₁.setTop (mkF m 18 #[.val (.ref tA), .val (.ref tB), .val (.int (0 : Int32))] [(.int (zA.toInt8.toInt32))])) t
        refine XS.aloadN X0.here hx rfl (hb hby d13_18) rfl rfl ?_
        show Steps p.tables e below (s₁.setTop (mkF m 19 #[.val (.ref tA), .val (.ref tB), .val (.int (0 : Int32))] [(.ref tB), (.int (zA.toInt8.toInt32))])) t
        refine XS.iloadN X0.here hx rfl (hb hby d13_19) rfl ?_
        show Steps p.tables e below (s₁.setTop (mkF m 20 #[.val (.ref tA), .val (.ref tB), .val (.int (0 : Int32))] [(.int (0 : Int32)), (.ref tB), (.int (zA.toInt8.toInt32))])) t
        refine X0.baloadBytes hx (j := (0 : Int32)) (v := (.int (zB.toInt8.toInt32))) (by rw [e0]; exact Ar15.1) (State.isArrayOf_alike hZ.alike Ar15.2.1) Ar15.2.2 in15 at15 (g := (mkF m 20 #[.val (.ref tA), .val (.ref tB), .val (.int (0 : Int32))] [(.int (0 : Int32)), (.ref tB), (.int (zA.toInt8.toInt32))])) rfl rfl (hb hby d13_20) _ ?_
        exact k
      by_cases hb8 : (zA.toInt8.toInt32) = (zB.toInt8.toInt32)
      · obtain ⟨cl17, Ar17, -, S17, M17, -, -⟩ := id AsA
        have R18 : ∀ t, Steps p.tables e below (s₁.setTop (mkF m 33 #[.val (.ref tA), .val (.ref tB), .val (.int (1 : Int32))] [(.int (1 : Int32))])) t → Steps p.tables e below (s₁.setTop (entryFrame m #[(.ref tA), (.ref tB)] 3)) t := by
          intro t k
          refine R16 t ?_
          show Steps p.tables e below (s₁.setTop (mkF m 21 #[.val (.ref tA), .val (.ref tB), .val (.int (0 : Int32))] [(.int (zB.toInt8.toInt32)), (.int (zA.toInt8.toInt32))])) t
          refine XS.icmpYes X0.here hx rfl (pc0 := 21) (pc' := 26) rfl (hb hby d13_21) rfl (teq (hb8 : (zA.toInt8.toInt32) = (zB.toInt8.toInt32))).1 (by decide) (by decide) ?_
          show Steps p.tables e below (s₁.setTop (mkF m 26 #[.val (.ref tA), .val (.ref tB), .val (.int (0 : Int32))] [])) t
          refine XS.iinc X0.here hx rfl (hb hby d13_26) rfl (l' := #[.val (.ref tA), .val (.ref tB), .val (.int (1 : Int32))]) rfl ?_
          show Steps p.tables e below (s₁.setTop (mkF m 29 #[.val (.ref tA), .val (.ref tB), .val (.int (1 : Int32))] [])) t
          refine XS.goto X0.here hx rfl (pc0 := 29) (pc' := 9) rfl (hb hby d13_29) (by decide) (by decide) ?_
          show Steps p.tables e below (s₁.setTop (mkF m 9 #[.val (.ref tA), .val (.ref tB), .val (.int (1 : Int32))] [])) t
          refine XS.iloadN X0.here hx rfl (hb hby d13_9) rfl ?_
          show Steps p.tables e below (s₁.setTop (mkF m 10 #[.val (.ref tA), .val (.ref tB), .val (.int (1 : Int32))] [(.int (1 : Int32))])) t
          refine XS.aloadN X0.here hx rfl (hb hby d13_10) rfl rfl ?_
          show Steps p.tables e below (s₁.setTop (mkF m 11 #[.val (.ref tA), .val (.ref tB), .val (.int (1 : Int32))] [(.ref tA), (.int (1 : Int32))])) t
          refine X0.arraylength hx (by rw [e0]; exact Ar17.1) (State.isArrayOf_alike hZ.alike Ar17.2.1) (g := (mkF m 11 #[.val (.ref tA), .val (.ref tB), .val (.int (1 : Int32))] [(.ref tA), (.int (1 : Int32))])) rfl rfl (hb hby d13_11) _ ?_
          rw [len_of S17 M17]
          show Steps p.tables e below (s₁.setTop (mkF m 12 #[.val (.ref tA), .val (.ref tB), .val (.int (1 : Int32))] [(.int (1 : Int32)), (.int (1 : Int32))])) t
          refine XS.icmpYes X0.here hx rfl (pc0 := 12) (pc' := 32) rfl (hb hby d13_12) rfl (flt ((by decide) : ¬ ((1 : Int32) < (1 : Int32)))).2.1 (by decide) (by decide) ?_
          show Steps p.tables e below (s₁.setTop (mkF m 32 #[.val (.ref tA), .val (.ref tB), .val (.int (1 : Int32))] [])) t
          refine XS.iconst X0.here hx rfl (hb hby d13_32) ?_
          exact k
        obtain ⟨fs, hr, hrun, hended, hW, hsame⟩ := X0.leave (v := some (.int (1 : Int32))) (fun h => by rw [Bd.returns] at h; cases h)
        refine ⟨_, _, R18 _ ?_, hrun, hended, _, _, rfl, ?_, ⟨_, rfl⟩, hW, hsame.mono (by decide) (by decide)⟩
        · show Steps p.tables e below (s₁.setTop (mkF m 33 #[.val (.ref tA), .val (.ref tB), .val (.int (1 : Int32))] [(.int (1 : Int32))])) _
          exact retN X0 hx (t := .boolean) Bd.returns (by simp) (hb hby d13_33) hr
        · show Q_leq Z zCS wcI ccI tA kA (1 : Int32) [(.int (zA.toInt8.toInt32))] zA tB kB (1 : Int32) [(.int (zB.toInt8.toInt32))] zB h0 n0 _ s₁.heap _
          rw [e0]
          exact ⟨(by rw [if_pos (own_b8i hA hB hb8)]), N0, rfl⟩
      · have R19 : ∀ t, Steps p.tables e below (s₁.setTop (mkF m 25 #[.val (.ref tA), .val (.ref tB), .val (.int (0 : Int32))] [(.int (0 : Int32))])) t → Steps p.tables e below (s₁.setTop (entryFrame m #[(.ref tA), (.ref tB)] 3)) t := by
          intro t k
          refine R16 t ?_
          show Steps p.tables e below (s₁.setTop (mkF m 21 #[.val (.ref tA), .val (.ref tB), .val (.int (0 : Int32))] [(.int (zB.toInt8.toInt32)), (.int (zA.toInt8.toInt32))])) t
          refine XS.icmpNo X0.here hx rfl (hb hby d13_21) rfl (feq (hb8 : ¬ ((zA.toInt8.toInt32) = (zB.toInt8.toInt32)))).1 ?_
          show Steps p.tables e below (s₁.setTop (mkF m 24 #[.val (.ref tA), .val (.ref tB), .val (.int (0 : Int32))] [])) t
          refine XS.iconst X0.here hx rfl (hb hby d13_24) ?_
          exact k
        obtain ⟨fs, hr, hrun, hended, hW, hsame⟩ := X0.leave (v := some (.int (0 : Int32))) (fun h => by rw [Bd.returns] at h; cases h)
        refine ⟨_, _, R19 _ ?_, hrun, hended, _, _, rfl, ?_, ⟨_, rfl⟩, hW, hsame.mono (by decide) (by decide)⟩
        · show Steps p.tables e below (s₁.setTop (mkF m 25 #[.val (.ref tA), .val (.ref tB), .val (.int (0 : Int32))] [(.int (0 : Int32))])) _
          exact retN X0 hx (t := .boolean) Bd.returns (by simp) (hb hby d13_25) hr
        · show Q_leq Z zCS wcI ccI tA kA (1 : Int32) [(.int (zA.toInt8.toInt32))] zA tB kB (1 : Int32) [(.int (zB.toInt8.toInt32))] zB h0 n0 _ s₁.heap _
          rw [e0]
          exact ⟨(by rw [if_neg (fun e => hb8 (by rw [e]))]), N0, rfl⟩
theorem d11_0 : decode jdk_42_method_66_code 0 = .ok (.aload_n 0, 1) := by decide +kernel
theorem d11_1 : decode jdk_42_method_66_code 1 = .ok (.aload_n 1, 1) := by decide +kernel
theorem d11_2 : decode jdk_42_method_66_code 2 = .ok (.if_acmp .ne 5, 3) := by decide +kernel
theorem d11_5 : decode jdk_42_method_66_code 5 = .ok (.iconst 1, 1) := by decide +kernel
theorem d11_6 : decode jdk_42_method_66_code 6 = .ok (.ireturn, 1) := by decide +kernel
theorem d11_7 : decode jdk_42_method_66_code 7 = .ok (.aload_n 1, 1) := by decide +kernel
theorem d11_8 : decode jdk_42_method_66_code 8 = .ok (.instanceof 10, 3) := by decide +kernel
theorem d11_11 : decode jdk_42_method_66_code 11 = .ok (.ifCond .eq 43, 3) := by decide +kernel
theorem d11_14 : decode jdk_42_method_66_code 14 = .ok (.aload_n 1, 1) := by decide +kernel
theorem d11_15 : decode jdk_42_method_66_code 15 = .ok (.checkcast 10, 3) := by decide +kernel
theorem d11_18 : decode jdk_42_method_66_code 18 = .ok (.astore_n 2, 1) := by decide +kernel
theorem d11_19 : decode jdk_42_method_66_code 19 = .ok (.getstatic 38, 3) := by decide +kernel
theorem d11_22 : decode jdk_42_method_66_code 22 = .ok (.ifCond .eq 14, 3) := by decide +kernel
theorem d11_25 : decode jdk_42_method_66_code 25 = .ok (.aload_n 0, 1) := by decide +kernel
theorem d11_26 : decode jdk_42_method_66_code 26 = .ok (.getfield 15, 3) := by decide +kernel
theorem d11_29 : decode jdk_42_method_66_code 29 = .ok (.aload_n 2, 1) := by decide +kernel
theorem d11_30 : decode jdk_42_method_66_code 30 = .ok (.getfield 15, 3) := by decide +kernel
theorem d11_33 : decode jdk_42_method_66_code 33 = .ok (.if_icmp .ne 21, 3) := by decide +kernel
theorem d11_36 : decode jdk_42_method_66_code 36 = .ok (.aload_n 0, 1) := by decide +kernel
theorem d11_37 : decode jdk_42_method_66_code 37 = .ok (.getfield 9, 3) := by decide +kernel
theorem d11_40 : decode jdk_42_method_66_code 40 = .ok (.aload_n 2, 1) := by decide +kernel
theorem d11_41 : decode jdk_42_method_66_code 41 = .ok (.getfield 9, 3) := by decide +kernel
theorem pd_7 : parseMethodDescriptor "([B[B)Z" = some ⟨[(.array .byte), (.array .byte)], some .boolean⟩ := by decide +kernel
theorem d11_44 : decode jdk_42_method_66_code 44 = .ok (.invokestatic 541, 3) := by decide +kernel
theorem d11_47 : decode jdk_42_method_66_code 47 = .ok (.ifCond .eq 7, 3) := by decide +kernel
theorem d11_50 : decode jdk_42_method_66_code 50 = .ok (.iconst 1, 1) := by decide +kernel
theorem d11_51 : decode jdk_42_method_66_code 51 = .ok (.goto 4, 3) := by decide +kernel
theorem d11_55 : decode jdk_42_method_66_code 55 = .ok (.ireturn, 1) := by decide +kernel
theorem d11_54 : decode jdk_42_method_66_code 54 = .ok (.iconst 0, 1) := by decide +kernel
theorem ef_seq (m : MethodId) (sA : Addr) (tA : Addr) (kA : ClassId) (nA : Int32) (vA : List Value) (zA : Int32) (sB : Addr) (tB : Addr) (kB : ClassId) (nB : Int32) (vB : List Value) (zB : Int32) : entryFrame m #[(.ref sA), (.ref sB)] 3 = mkF m 0 #[.val (.ref sA), .val (.ref sB), .unset] [] := by first | (simp [entryFrame, mkF, argsToLocals, Value.category]; done) | rfl
def Q_seq (Z : State) (zCS : Int32) (wcI : Addr) (ccI : Cell) (sA : Addr) (tA : Addr) (kA : ClassId) (nA : Int32) (vA : List Value) (zA : Int32) (sB : Addr) (tB : Addr) (kB : ClassId) (nB : Int32) (vB : List Value) (zB : Int32) (h0 : Heap) (n0 : Nat) (vv_ : Option Value) (hh_ : Heap) (LL_ : List Loc) : Prop := vv_ = some (.int (if zA = zB then (1 : Int32) else (0 : Int32))) ∧ (Fr n0 LL_) ∧ (hh_ = h0)
set_option maxRecDepth 65536 in
set_option maxHeartbeats 40000000 in
theorem seq (l : Launch) (Z : State) (a0 : Array Value) (hw : ∀ d ∈ tables_1, d.before a0 Z = true) (ws : List Jvm.Cond) (zCS : Int32) (wcI : Addr) (ccI : Cell) (sA : Addr) (tA : Addr) (kA : ClassId) (nA : Int32) (vA : List Value) (zA : Int32) (sB : Addr) (tB : Addr) (kB : ClassId) (nB : Int32) (vB : List Value) (zB : Int32) (h0 : Heap) (n0 : Nat) (O0 : Old Z n0 h0) (S_CS : Sta Z Z.heap "java/lang/String" "COMPACT_STRINGS" "Z" (.int zCS)) (hCS : ¬ (zCS = (0 : Int32))) (hcT0 : Jvm.Lit.constHeld Z "com/example/relayout/relayout/plan/Transfer" 7) (hcT1 : Jvm.Lit.constHeld Z "com/example/relayout/relayout/plan/Transfer" 22) (hcT2 : Jvm.Lit.constHeld Z "com/example/relayout/relayout/plan/Transfer" 26) (hcH : Jvm.Lit.constHeld Z "com/example/relayout/relayout/plan/TransferEqualsPinLaw" 7) (hcW : Jvm.Lit.compactW.before a0 Z = true) (S_cI : Sta Z Z.heap "java/lang/Integer$IntegerCache" "cache" "[Ljava/lang/Integer;" (.ref wcI)) (B_cI : Bxs Z wcI ccI "java/lang/Integer" "I" 256 (fun j => .int (j - 128))) (S_hi : Sta Z Z.heap "java/lang/Integer$IntegerCache" "high" "I" (.int (127 : Int32))) (EsA : Exa Z h0 sA "java/lang/String") (CsA : Fld Z h0 sA "java/lang/String" "coder" "B" (.int (0 : Int32))) (VsA : Fld Z h0 sA "java/lang/String" "value" "[B" (.ref tA)) (AsA : Arv Z h0 tA kA .byte nA vA (.int 0)) (hCA : own_C zA nA vA) (EsB : Exa Z h0 sB "java/lang/String") (CsB : Fld Z h0 sB "java/lang/String" "coder" "B" (.int (0 : Int32))) (VsB : Fld Z h0 sB "java/lang/String" "value" "[B" (.ref tB)) (AsB : Arv Z h0 tB kB .byte nB vB (.int 0)) (hCB : own_C zB nB vB) :
    MetFree l (⟨"java/lang/String", "equals", "(Ljava/lang/Object;)Z"⟩ : MethodName) (head1 (Jvm.Cond.code (⟨"java/lang/String", "equals", "(Ljava/lang/Object;)Z"⟩ : MethodName) jdk_42_method_66_code 3 (some .boolean) :: ws) ({ frames := 1, cells := 0, slots := 0, locals := 14 } : Room)) (fun aa_ U_ => aa_ = #[(.ref sA), (.ref sB)] ∧ Z.Warmed39 U_.vm ∧ U_.heap = h0) (fun _ _ _ _ _ => True) (fun _ U_ oo_ V_ => ∃ vv_ LL_, oo_ = .returned vv_ ∧ Q_seq Z zCS wcI ccI sA tA kA nA vA zA sB tB kB nB vB zB h0 n0 vv_ V_.heap LL_ ∧ FrameEnd U_ oo_ V_ LL_ ({ frames := 1, cells := 0, slots := 0, locals := 14 } : Room).cells ({ frames := 1, cells := 0, slots := 0, locals := 14 } : Room).slots) := by
  refine MetFree.of_bodySF (plainFor_of_name pn_java_lang_String) hisR ?_
  intro p e s m args below meth c s₁ Bd hml0 hP hK
  obtain ⟨rfl, hZ, hh⟩ := hP
  have hx := Bd.exec
  have hby := Bd.bytes
  have hml : c.maxLocals = 3 := hml0
  have hown : s.vm.findClass "java/lang/String" = some m.cls := findClass_of_methodNamed Bd.named
  have hnm := (name_of_methodNamed Bd.named Bd.method).1
  have X0 : Stand p l e ({ frames := 1, cells := 0, slots := 0, locals := 14 } : Room) s m #[(.ref sA), (.ref sB)] below meth c s₁ [] 0 0 := Stand.of_body Bd
  have e0 : s₁.heap = h0 := by rw [← hh, Bd.state]; rfl
  have N0 := Fr.nil n0
  have Z0 : n0 ≤ h0.size := O0.1 ▸ O0.2.1
  have hk0 := Nat.zero_le h0.size
  have K0 : Keep h0 h0 [] := Keep.refl _ _
  have R0 : ∀ t, Steps p.tables e below (s₁.setTop (mkF m 0 #[.val (.ref sA), .val (.ref sB), .unset] [])) t → Steps p.tables e below (s₁.setTop (entryFrame m #[(.ref sA), (.ref sB)] 3)) t := fun t k => castTop (ef_seq m sA tA kA nA vA zA sB tB kB nB vB zB) k
  have R1 : ∀ t, Steps p.tables e below (s₁.setTop (mkF m 2 #[.val (.ref sA), .val (.ref sB), .unset] [(.ref sB), (.ref sA)])) t → Steps p.tables e below (s₁.setTop (entryFrame m #[(.ref sA), (.ref sB)] 3)) t := by
    intro t k
    refine R0 t ?_
    show Steps p.tables e below (s₁.setTop (mkF m 0 #[.val (.ref sA), .val (.ref sB), .unset] [])) t
    refine XS.aloadN X0.here hx rfl (hb hby d11_0) rfl rfl ?_
    show Steps p.tables e below (s₁.setTop (mkF m 1 #[.val (.ref sA), .val (.ref sB), .unset] [(.ref sA)])) t
    refine XS.aloadN X0.here hx rfl (hb hby d11_1) rfl rfl ?_
    exact k
  by_cases hss : sA = sB
  · have R2 : ∀ t, Steps p.tables e below (s₁.setTop (mkF m 6 #[.val (.ref sA), .val (.ref sB), .unset] [(.int (1 : Int32))])) t → Steps p.tables e below (s₁.setTop (entryFrame m #[(.ref sA), (.ref sB)] 3)) t := by
      intro t k
      refine R1 t ?_
      show Steps p.tables e below (s₁.setTop (mkF m 2 #[.val (.ref sA), .val (.ref sB), .unset] [(.ref sB), (.ref sA)])) t
      refine Jvm.RoadKit.acmp (g := (mkF m 2 #[.val (.ref sA), .val (.ref sB), .unset] [(.ref sB), (.ref sA)])) X0 hx rfl rfl rfl (pc0 := 2) (pc' := 5) (same := true) rfl (hb hby d11_2) rfl (decide_eq_true (congrArg Value.ref hss)) (by decide) (by decide) ?_
      show Steps p.tables e below (s₁.setTop (mkF m 5 #[.val (.ref sA), .val (.ref sB), .unset] [])) t
      refine XS.iconst X0.here hx rfl (hb hby d11_5) ?_
      exact k
    obtain ⟨fs, hr, hrun, hended, hW, hsame⟩ := X0.leave (v := some (.int (1 : Int32))) (fun h => by rw [Bd.returns] at h; cases h)
    refine ⟨_, _, R2 _ ?_, hrun, hended, _, _, rfl, ?_, ⟨_, rfl⟩, hW, hsame.mono (by decide) (by decide)⟩
    · show Steps p.tables e below (s₁.setTop (mkF m 6 #[.val (.ref sA), .val (.ref sB), .unset] [(.int (1 : Int32))])) _
      exact retN X0 hx (t := .boolean) Bd.returns (by simp) (hb hby d11_6) hr
    · show Q_seq Z zCS wcI ccI sA tA kA nA vA zA sB tB kB nB vB zB h0 n0 _ s₁.heap _
      rw [e0]
      exact ⟨(by rw [if_pos (own_sameS hss VsA VsB AsA AsB hCA hCB)]), N0, rfl⟩
  · obtain ⟨T3, X3, e3, st3⟩ := instY X0 hx hZ hown (hw _ (List.mem_of_getElem? (i := 16) rfl)) e0 (Ins.self EsB) (g := (mkF m 8 #[.val (.ref sA), .val (.ref sB), .unset] [(.ref sB)])) rfl rfl (hb hby d11_8)
    obtain ⟨T4, X4, e4, st4⟩ := castY X3 hx hZ hown (hw _ (List.mem_of_getElem? (i := 16) rfl)) e3 (Ins.self EsB) (g := (mkF m 15 #[.val (.ref sA), .val (.ref sB), .unset] [(.ref sB)])) rfl rfl (hb hby d11_15)
    obtain ⟨T5, X5, e5, st5⟩ := getS2 X4 hx hZ hown (host := "") (Or.inl (hw _ (List.mem_of_getElem? (i := 11) rfl))) Via.refl e4 (S_CS.ext O0.2) (g := (mkF m 19 #[.val (.ref sA), .val (.ref sB), .val (.ref sB)] [])) rfl (hb hby d11_19)
    obtain ⟨T6, X6, e6, st6⟩ := getF X5 hx hZ hown (host := "") (Or.inl (hw _ (List.mem_of_getElem? (i := 31) rfl))) Via.refl e5 CsA (g := (mkF m 26 #[.val (.ref sA), .val (.ref sB), .val (.ref sB)] [(.ref sA)])) rfl rfl (hb hby d11_26)
    obtain ⟨T7, X7, e7, st7⟩ := getF X6 hx hZ hown (host := "") (Or.inl (hw _ (List.mem_of_getElem? (i := 31) rfl))) Via.refl e6 CsB (g := (mkF m 30 #[.val (.ref sA), .val (.ref sB), .val (.ref sB)] [(.ref sB), (.int (0 : Int32))])) rfl rfl (hb hby d11_30)
    obtain ⟨T8, X8, e8, st8⟩ := getF X7 hx hZ hown (host := "") (Or.inl (hw _ (List.mem_of_getElem? (i := 29) rfl))) Via.refl e7 VsA (g := (mkF m 37 #[.val (.ref sA), .val (.ref sB), .val (.ref sB)] [(.ref sA)])) rfl rfl (hb hby d11_37)
    obtain ⟨T9, X9, e9, st9⟩ := getF X8 hx hZ hown (host := "") (Or.inl (hw _ (List.mem_of_getElem? (i := 29) rfl))) Via.refl e8 VsB (g := (mkF m 41 #[.val (.ref sA), .val (.ref sB), .val (.ref sB)] [(.ref sB), (.ref tA)])) rfl rfl (hb hby d11_41)
    obtain ⟨_, _, ⟨T10, L10, k10, n10⟩, -, X10, ⟨Lc10, hQ10, cl_10, cy_10, cz_10⟩, st10⟩ := Jvm.LawKit.callS X9 hx (y := (⟨"java/lang/StringLatin1", "equals", "([B[B)Z"⟩ : MethodName)) hown (mvT hZ (hw _ (List.mem_of_getElem? (i := 81) rfl))) (mvT hZ (hw _ (List.mem_of_getElem? (i := 82) rfl))) (mvT hZ (hw _ (List.mem_of_getElem? (i := 14) rfl))) (mvT hZ (hw _ (List.mem_of_getElem? (i := 83) rfl))) (by decide) (backOf (W := 0) (leq l Z a0 hw [] zCS wcI ccI tA kA nA vA zA tB kB nB vB zB h0 n0 O0 S_CS hCS hcT0 hcT1 hcT2 hcH hcW S_cI B_cI S_hi   AsA hCA AsB hCB) hZ (hw _ (List.mem_of_getElem? (i := 83) rfl)) (hw _ (List.mem_of_getElem? (i := 14) rfl)) (by decide) (by decide)) (g := (mkF m 44 #[.val (.ref sA), .val (.ref sB), .val (.ref sB)] [(.ref tB), (.ref tA)])) rfl (by rw [hml]; rfl) (argsL := [(.ref tA), (.ref tB)]) (rest := []) (lenOf pd_7 rfl) rfl (by show 2 * 0 + _ ≤ _; exact Nat.le_of_eq rfl) (hb hby d11_44) (fun _ _ => ⟨rfl, e9, (by decide : 0 + 0 ≤ _), (by decide : 0 + 0 ≤ _)⟩)
    dsimp only [Pt.U, Pt.locs, Pt.cells, Pt.slots] at X10 cl_10 cy_10 cz_10 st10 hQ10
    rw [cl_10, cy_10, cz_10] at X10
    obtain ⟨rfl, N10q, e10⟩ := hQ10
    have N10 := Fr.app N0 N10q
    have R11 : ∀ t, Steps p.tables e below (T10.setTop (mkF m 47 #[.val (.ref sA), .val (.ref sB), .val (.ref sB)] [(.int (if zA = zB then (1 : Int32) else (0 : Int32)))])) t → Steps p.tables e below (s₁.setTop (entryFrame m #[(.ref sA), (.ref sB)] 3)) t := by
      intro t k
      refine R1 t ?_
      show Steps p.tables e below (s₁.setTop (mkF m 2 #[.val (.ref sA), .val (.ref sB), .unset] [(.ref sB), (.ref sA)])) t
      refine Jvm.RoadKit.acmp (g := (mkF m 2 #[.val (.ref sA), .val (.ref sB), .unset] [(.ref sB), (.ref sA)])) X0 hx rfl rfl rfl (pc0 := 2) (pc' := 7) (same := false) rfl (hb hby d11_2) rfl (decide_eq_false (fun q => hss (Value.ref.inj q))) (by decide) (by decide) ?_
      show Steps p.tables e below (s₁.setTop (mkF m 7 #[.val (.ref sA), .val (.ref sB), .unset] [])) t
      refine XS.aloadN X0.here hx rfl (hb hby d11_7) rfl rfl ?_
      show Steps p.tables e below (s₁.setTop (mkF m 8 #[.val (.ref sA), .val (.ref sB), .unset] [(.ref sB)])) t
      refine st3 _ ?_
      show Steps p.tables e below (T3.setTop (mkF m 11 #[.val (.ref sA), .val (.ref sB), .unset] [(.int (1 : Int32))])) t
      refine XS.ifNo X3.here hx rfl (hb hby d11_11) rfl ((if0 _ _).trans (feq ((by decide) : ¬ ((1 : Int32) = (0 : Int32)))).1) ?_
      show Steps p.tables e below (T3.setTop (mkF m 14 #[.val (.ref sA), .val (.ref sB), .unset] [])) t
      refine XS.aloadN X3.here hx rfl (hb hby d11_14) rfl rfl ?_
      show Steps p.tables e below (T3.setTop (mkF m 15 #[.val (.ref sA), .val (.ref sB), .unset] [(.ref sB)])) t
      refine st4 _ ?_
      show Steps p.tables e below (T4.setTop (mkF m 18 #[.val (.ref sA), .val (.ref sB), .unset] [(.ref sB)])) t
      refine XS.astoreN X4.here hx rfl (hb hby d11_18) rfl rfl (l' := #[.val (.ref sA), .val (.ref sB), .val (.ref sB)]) rfl ?_
      show Steps p.tables e below (T4.setTop (mkF m 19 #[.val (.ref sA), .val (.ref sB), .val (.ref sB)] [])) t
      refine st5 _ ?_
      show Steps p.tables e below (T5.setTop (mkF m 22 #[.val (.ref sA), .val (.ref sB), .val (.ref sB)] [(.int zCS)])) t
      refine XS.ifNo X5.here hx rfl (hb hby d11_22) rfl ((if0 _ _).trans (feq (hCS : ¬ (zCS = (0 : Int32)))).1) ?_
      show Steps p.tables e below (T5.setTop (mkF m 25 #[.val (.ref sA), .val (.ref sB), .val (.ref sB)] [])) t
      refine XS.aloadN X5.here hx rfl (hb hby d11_25) rfl rfl ?_
      show Steps p.tables e below (T5.setTop (mkF m 26 #[.val (.ref sA), .val (.ref sB), .val (.ref sB)] [(.ref sA)])) t
      refine st6 _ ?_
      show Steps p.tables e below (T6.setTop (mkF m 29 #[.val (.ref sA), .val (.ref sB), .val (.ref sB)] [(.int (0 : Int32))])) t
      refine XS.aloadN X6.here hx rfl (hb hby d11_29) rfl rfl ?_
      show Steps p.tables e below (T6.setTop (mkF m 30 #[.val (.ref sA), .val (.ref sB), .val (.ref sB)] [(.ref sB), (.int (0 : Int32))])) t
      refine st7 _ ?_
      show Steps p.tables e below (T7.setTop (mkF m 33 #[.val (.ref sA), .val (.ref sB), .val (.ref sB)] [(.int (0 : Int32)), (.int (0 : Int32))])) t
      refine XS.icmpNo X7.here hx rfl (hb hby d11_33) rfl (teq ((by decide) : (0 : Int32) = (0 : Int32))).2 ?_
      show Steps p.tables e below (T7.setTop (mkF m 36 #[.val (.ref sA), .val (.ref sB), .val (.ref sB)] [])) t
      refine XS.aloadN X7.here hx rfl (hb hby d11_36) rfl rfl ?_
      show Steps p.tables e below (T7.setTop (mkF m 37 #[.val (.ref sA), .val (.ref sB), .val (.ref sB)] [(.ref sA)])) t
      refine st8 _ ?_
      show Steps p.tables e below (T8.setTop (mkF m 40 #[.val (.ref sA), .val (.ref sB), .val (.ref sB)] [(.ref tA)])) t
      refine XS.aloadN X8.here hx rfl (hb hby d11_40) rfl rfl ?_
      show Steps p.tables e below (T8.setTop (mkF m 41 #[.val (.ref sA), .val (.ref sB), .val (.ref sB)] [(.ref sB), (.ref tA)])) t
      refine st9 _ ?_
      show Steps p.tables e below (T9.setTop (mkF m 44 #[.val (.ref sA), .val (.ref sB), .val (.ref sB)] [(.ref tB), (.ref tA)])) t
      refine st10 _ ?_
      exact k
    by_cases hzz : zA = zB
    · have R12 := R11
      rw [if_pos hzz] at R12
      have R13 : ∀ t, Steps p.tables e below (T10.setTop (mkF m 55 #[.val (.ref sA), .val (.ref sB), .val (.ref sB)] [(.int (1 : Int32))])) t → Steps p.tables e below (s₁.setTop (entryFrame m #[(.ref sA), (.ref sB)] 3)) t := by
        intro t k
        refine R12 t ?_
        show Steps p.tables e below (T10.setTop (mkF m 47 #[.val (.ref sA), .val (.ref sB), .val (.ref sB)] [(.int (1 : Int32))])) t
        refine XS.ifNo X10.here hx rfl (hb hby d11_47) rfl ((if0 _ _).trans (feq ((by decide) : ¬ ((1 : Int32) = (0 : Int32)))).1) ?_
        show Steps p.tables e below (T10.setTop (mkF m 50 #[.val (.ref sA), .val (.ref sB), .val (.ref sB)] [])) t
        refine XS.iconst X10.here hx rfl (hb hby d11_50) ?_
        show Steps p.tables e below (T10.setTop (mkF m 51 #[.val (.ref sA), .val (.ref sB), .val (.ref sB)] [(.int (1 : Int32))])) t
        refine XS.goto X10.here hx rfl (pc0 := 51) (pc' := 55) rfl (hb hby d11_51) (by decide) (by decide) ?_
        exact k
      obtain ⟨fs, hr, hrun, hended, hW, hsame⟩ := X10.leave (v := some (.int (1 : Int32))) (fun h => by rw [Bd.returns] at h; cases h)
      refine ⟨_, _, R13 _ ?_, hrun, hended, _, _, rfl, ?_, ⟨_, rfl⟩, hW, hsame.mono (by decide) (by decide)⟩
      · show Steps p.tables e below (T10.setTop (mkF m 55 #[.val (.ref sA), .val (.ref sB), .val (.ref sB)] [(.int (1 : Int32))])) _
        exact retN X10 hx (t := .boolean) Bd.returns (by simp) (hb hby d11_55) hr
      · show Q_seq Z zCS wcI ccI sA tA kA nA vA zA sB tB kB nB vB zB h0 n0 _ T10.heap _
        rw [e10]
        exact ⟨(by rw [if_pos hzz]), N10, rfl⟩
    · have R14 := R11
      rw [if_neg hzz] at R14
      have R15 : ∀ t, Steps p.tables e below (T10.setTop (mkF m 55 #[.val (.ref sA), .val (.ref sB), .val (.ref sB)] [(.int (0 : Int32))])) t → Steps p.tables e below (s₁.setTop (entryFrame m #[(.ref sA), (.ref sB)] 3)) t := by
        intro t k
        refine R14 t ?_
        show Steps p.tables e below (T10.setTop (mkF m 47 #[.val (.ref sA), .val (.ref sB), .val (.ref sB)] [(.int (0 : Int32))])) t
        refine XS.ifYes X10.here hx rfl (pc0 := 47) (pc' := 54) rfl (hb hby d11_47) rfl ((if0 _ _).trans (teq ((by decide) : (0 : Int32) = (0 : Int32))).1) (by decide) (by decide) ?_
        show Steps p.tables e below (T10.setTop (mkF m 54 #[.val (.ref sA), .val (.ref sB), .val (.ref sB)] [])) t
        refine XS.iconst X10.here hx rfl (hb hby d11_54) ?_
        exact k
      obtain ⟨fs, hr, hrun, hended, hW, hsame⟩ := X10.leave (v := some (.int (0 : Int32))) (fun h => by rw [Bd.returns] at h; cases h)
      refine ⟨_, _, R15 _ ?_, hrun, hended, _, _, rfl, ?_, ⟨_, rfl⟩, hW, hsame.mono (by decide) (by decide)⟩
      · show Steps p.tables e below (T10.setTop (mkF m 55 #[.val (.ref sA), .val (.ref sB), .val (.ref sB)] [(.int (0 : Int32))])) _
        exact retN X10 hx (t := .boolean) Bd.returns (by simp) (hb hby d11_55) hr
      · show Q_seq Z zCS wcI ccI sA tA kA nA vA zA sB tB kB nB vB zB h0 n0 _ T10.heap _
        rw [e10]
        exact ⟨(by rw [if_neg hzz]), N10, rfl⟩
theorem d10_0 : decode prog_11_method_5_code 0 = .ok (.aload_n 1, 1) := by decide +kernel
theorem d10_1 : decode prog_11_method_5_code 1 = .ok (.instanceof 18, 3) := by decide +kernel
theorem d10_4 : decode prog_11_method_5_code 4 = .ok (.ifCond .ne 5, 3) := by decide +kernel
theorem d10_9 : decode prog_11_method_5_code 9 = .ok (.aload_n 1, 1) := by decide +kernel
theorem d10_10 : decode prog_11_method_5_code 10 = .ok (.checkcast 18, 3) := by decide +kernel
theorem d10_13 : decode prog_11_method_5_code 13 = .ok (.astore_n 2, 1) := by decide +kernel
theorem d10_14 : decode prog_11_method_5_code 14 = .ok (.aload_n 0, 1) := by decide +kernel
theorem d10_15 : decode prog_11_method_5_code 15 = .ok (.getfield 17, 3) := by decide +kernel
theorem d10_18 : decode prog_11_method_5_code 18 = .ok (.aload_n 2, 1) := by decide +kernel
theorem d10_19 : decode prog_11_method_5_code 19 = .ok (.getfield 17, 3) := by decide +kernel
theorem pd_8 : parseMethodDescriptor "(Ljava/lang/Object;)Z" = some ⟨[(.object "java/lang/Object")], some .boolean⟩ := by decide +kernel
theorem d10_22 : decode prog_11_method_5_code 22 = .ok (.invokevirtual 30, 3) := by decide +kernel
theorem d10_25 : decode prog_11_method_5_code 25 = .ok (.ifCond .eq 35, 3) := by decide +kernel
theorem d10_28 : decode prog_11_method_5_code 28 = .ok (.aload_n 0, 1) := by decide +kernel
theorem d10_29 : decode prog_11_method_5_code 29 = .ok (.getfield 24, 3) := by decide +kernel
theorem d10_32 : decode prog_11_method_5_code 32 = .ok (.aload_n 2, 1) := by decide +kernel
theorem d10_33 : decode prog_11_method_5_code 33 = .ok (.getfield 24, 3) := by decide +kernel
theorem d10_36 : decode prog_11_method_5_code 36 = .ok (.invokevirtual 30, 3) := by decide +kernel
theorem d10_39 : decode prog_11_method_5_code 39 = .ok (.ifCond .eq 21, 3) := by decide +kernel
theorem d10_42 : decode prog_11_method_5_code 42 = .ok (.aload_n 0, 1) := by decide +kernel
theorem d10_43 : decode prog_11_method_5_code 43 = .ok (.getfield 28, 3) := by decide +kernel
theorem d10_46 : decode prog_11_method_5_code 46 = .ok (.aload_n 2, 1) := by decide +kernel
theorem d10_47 : decode prog_11_method_5_code 47 = .ok (.getfield 28, 3) := by decide +kernel
theorem d10_50 : decode prog_11_method_5_code 50 = .ok (.invokevirtual 30, 3) := by decide +kernel
theorem d10_53 : decode prog_11_method_5_code 53 = .ok (.ifCond .eq 7, 3) := by decide +kernel
theorem d10_56 : decode prog_11_method_5_code 56 = .ok (.iconst 1, 1) := by decide +kernel
theorem d10_57 : decode prog_11_method_5_code 57 = .ok (.goto 4, 3) := by decide +kernel
theorem d10_61 : decode prog_11_method_5_code 61 = .ok (.ireturn, 1) := by decide +kernel
theorem d10_60 : decode prog_11_method_5_code 60 = .ok (.iconst 0, 1) := by decide +kernel
theorem ef_trEq (m : MethodId) (wa : Addr) (wb : Addr) (sA : Addr) (tA : Addr) (kA : ClassId) (nA : Int32) (vA : List Value) (zA : Int32) (sB : Addr) (tB : Addr) (kB : ClassId) (nB : Int32) (vB : List Value) (zB : Int32) (sC : Addr) (tC : Addr) (kC : ClassId) (nC : Int32) (vC : List Value) (zC : Int32) (sD : Addr) (tD : Addr) (kD : ClassId) (nD : Int32) (vD : List Value) (zD : Int32) (sE : Addr) (tE : Addr) (kE : ClassId) (nE : Int32) (vE : List Value) (zE : Int32) (sF : Addr) (tF : Addr) (kF : ClassId) (nF : Int32) (vF : List Value) (zF : Int32) : entryFrame m #[(.ref wa), (.ref wb)] 3 = mkF m 0 #[.val (.ref wa), .val (.ref wb), .unset] [] := by first | (simp [entryFrame, mkF, argsToLocals, Value.category]; done) | rfl
def Q_trEq (Z : State) (zCS : Int32) (wcI : Addr) (ccI : Cell) (wa : Addr) (wb : Addr) (sA : Addr) (tA : Addr) (kA : ClassId) (nA : Int32) (vA : List Value) (zA : Int32) (sB : Addr) (tB : Addr) (kB : ClassId) (nB : Int32) (vB : List Value) (zB : Int32) (sC : Addr) (tC : Addr) (kC : ClassId) (nC : Int32) (vC : List Value) (zC : Int32) (sD : Addr) (tD : Addr) (kD : ClassId) (nD : Int32) (vD : List Value) (zD : Int32) (sE : Addr) (tE : Addr) (kE : ClassId) (nE : Int32) (vE : List Value) (zE : Int32) (sF : Addr) (tF : Addr) (kF : ClassId) (nF : Int32) (vF : List Value) (zF : Int32) (h0 : Heap) (n0 : Nat) (vv_ : Option Value) (hh_ : Heap) (LL_ : List Loc) : Prop := vv_ = some (.int (own_teq zA zD zB zE zC zF)) ∧ (Fr n0 LL_) ∧ (hh_ = h0)
set_option maxRecDepth 65536 in
set_option maxHeartbeats 40000000 in
theorem trEq (l : Launch) (Z : State) (a0 : Array Value) (hw : ∀ d ∈ tables_1, d.before a0 Z = true) (ws : List Jvm.Cond) (zCS : Int32) (wcI : Addr) (ccI : Cell) (wa : Addr) (wb : Addr) (sA : Addr) (tA : Addr) (kA : ClassId) (nA : Int32) (vA : List Value) (zA : Int32) (sB : Addr) (tB : Addr) (kB : ClassId) (nB : Int32) (vB : List Value) (zB : Int32) (sC : Addr) (tC : Addr) (kC : ClassId) (nC : Int32) (vC : List Value) (zC : Int32) (sD : Addr) (tD : Addr) (kD : ClassId) (nD : Int32) (vD : List Value) (zD : Int32) (sE : Addr) (tE : Addr) (kE : ClassId) (nE : Int32) (vE : List Value) (zE : Int32) (sF : Addr) (tF : Addr) (kF : ClassId) (nF : Int32) (vF : List Value) (zF : Int32) (h0 : Heap) (n0 : Nat) (O0 : Old Z n0 h0) (S_CS : Sta Z Z.heap "java/lang/String" "COMPACT_STRINGS" "Z" (.int zCS)) (hCS : ¬ (zCS = (0 : Int32))) (hcT0 : Jvm.Lit.constHeld Z "com/example/relayout/relayout/plan/Transfer" 7) (hcT1 : Jvm.Lit.constHeld Z "com/example/relayout/relayout/plan/Transfer" 22) (hcT2 : Jvm.Lit.constHeld Z "com/example/relayout/relayout/plan/Transfer" 26) (hcH : Jvm.Lit.constHeld Z "com/example/relayout/relayout/plan/TransferEqualsPinLaw" 7) (hcW : Jvm.Lit.compactW.before a0 Z = true) (S_cI : Sta Z Z.heap "java/lang/Integer$IntegerCache" "cache" "[Ljava/lang/Integer;" (.ref wcI)) (B_cI : Bxs Z wcI ccI "java/lang/Integer" "I" 256 (fun j => .int (j - 128))) (S_hi : Sta Z Z.heap "java/lang/Integer$IntegerCache" "high" "I" (.int (127 : Int32))) (Ewa : Exa Z h0 wa "com/example/relayout/relayout/plan/Transfer") (Fwaitem : Fld Z h0 wa "com/example/relayout/relayout/plan/Transfer" "item" "Ljava/lang/String;" (.ref sA)) (Fwafrom : Fld Z h0 wa "com/example/relayout/relayout/plan/Transfer" "from" "Ljava/lang/String;" (.ref sB)) (Fwato : Fld Z h0 wa "com/example/relayout/relayout/plan/Transfer" "to" "Ljava/lang/String;" (.ref sC)) (Ewb : Exa Z h0 wb "com/example/relayout/relayout/plan/Transfer") (Fwbitem : Fld Z h0 wb "com/example/relayout/relayout/plan/Transfer" "item" "Ljava/lang/String;" (.ref sD)) (Fwbfrom : Fld Z h0 wb "com/example/relayout/relayout/plan/Transfer" "from" "Ljava/lang/String;" (.ref sE)) (Fwbto : Fld Z h0 wb "com/example/relayout/relayout/plan/Transfer" "to" "Ljava/lang/String;" (.ref sF)) (EsA : Exa Z h0 sA "java/lang/String") (CsA : Fld Z h0 sA "java/lang/String" "coder" "B" (.int (0 : Int32))) (VsA : Fld Z h0 sA "java/lang/String" "value" "[B" (.ref tA)) (AsA : Arv Z h0 tA kA .byte nA vA (.int 0)) (hCA : own_C zA nA vA) (EsB : Exa Z h0 sB "java/lang/String") (CsB : Fld Z h0 sB "java/lang/String" "coder" "B" (.int (0 : Int32))) (VsB : Fld Z h0 sB "java/lang/String" "value" "[B" (.ref tB)) (AsB : Arv Z h0 tB kB .byte nB vB (.int 0)) (hCB : own_C zB nB vB) (EsC : Exa Z h0 sC "java/lang/String") (CsC : Fld Z h0 sC "java/lang/String" "coder" "B" (.int (0 : Int32))) (VsC : Fld Z h0 sC "java/lang/String" "value" "[B" (.ref tC)) (AsC : Arv Z h0 tC kC .byte nC vC (.int 0)) (hCC : own_C zC nC vC) (EsD : Exa Z h0 sD "java/lang/String") (CsD : Fld Z h0 sD "java/lang/String" "coder" "B" (.int (0 : Int32))) (VsD : Fld Z h0 sD "java/lang/String" "value" "[B" (.ref tD)) (AsD : Arv Z h0 tD kD .byte nD vD (.int 0)) (hCD : own_C zD nD vD) (EsE : Exa Z h0 sE "java/lang/String") (CsE : Fld Z h0 sE "java/lang/String" "coder" "B" (.int (0 : Int32))) (VsE : Fld Z h0 sE "java/lang/String" "value" "[B" (.ref tE)) (AsE : Arv Z h0 tE kE .byte nE vE (.int 0)) (hCE : own_C zE nE vE) (EsF : Exa Z h0 sF "java/lang/String") (CsF : Fld Z h0 sF "java/lang/String" "coder" "B" (.int (0 : Int32))) (VsF : Fld Z h0 sF "java/lang/String" "value" "[B" (.ref tF)) (AsF : Arv Z h0 tF kF .byte nF vF (.int 0)) (hCF : own_C zF nF vF) :
    MetFree l (⟨"com/example/relayout/relayout/plan/Transfer", "equals", "(Ljava/lang/Object;)Z"⟩ : MethodName) (head1 (Jvm.Cond.code (⟨"com/example/relayout/relayout/plan/Transfer", "equals", "(Ljava/lang/Object;)Z"⟩ : MethodName) prog_11_method_5_code 3 (some .boolean) :: ws) ({ frames := 2, cells := 0, slots := 0, locals := 28 } : Room)) (fun aa_ U_ => aa_ = #[(.ref wa), (.ref wb)] ∧ Z.Warmed39 U_.vm ∧ U_.heap = h0) (fun _ _ _ _ _ => True) (fun _ U_ oo_ V_ => ∃ vv_ LL_, oo_ = .returned vv_ ∧ Q_trEq Z zCS wcI ccI wa wb sA tA kA nA vA zA sB tB kB nB vB zB sC tC kC nC vC zC sD tD kD nD vD zD sE tE kE nE vE zE sF tF kF nF vF zF h0 n0 vv_ V_.heap LL_ ∧ FrameEnd U_ oo_ V_ LL_ ({ frames := 2, cells := 0, slots := 0, locals := 28 } : Room).cells ({ frames := 2, cells := 0, slots := 0, locals := 28 } : Room).slots) := by
  refine MetFree.of_bodySF (plainFor_of_name pn_com_example_relayout_relayout_plan_Transfer) hisR ?_
  intro p e s m args below meth c s₁ Bd hml0 hP hK
  obtain ⟨rfl, hZ, hh⟩ := hP
  have hx := Bd.exec
  have hby := Bd.bytes
  have hml : c.maxLocals = 3 := hml0
  have hown : s.vm.findClass "com/example/relayout/relayout/plan/Transfer" = some m.cls := findClass_of_methodNamed Bd.named
  have hnm := (name_of_methodNamed Bd.named Bd.method).1
  have X0 : Stand p l e ({ frames := 2, cells := 0, slots := 0, locals := 28 } : Room) s m #[(.ref wa), (.ref wb)] below meth c s₁ [] 0 0 := Stand.of_body Bd
  have e0 : s₁.heap = h0 := by rw [← hh, Bd.state]; rfl
  have N0 := Fr.nil n0
  have Z0 : n0 ≤ h0.size := O0.1 ▸ O0.2.1
  have hk0 := Nat.zero_le h0.size
  have K0 : Keep h0 h0 [] := Keep.refl _ _
  have R0 : ∀ t, Steps p.tables e below (s₁.setTop (mkF m 0 #[.val (.ref wa), .val (.ref wb), .unset] [])) t → Steps p.tables e below (s₁.setTop (entryFrame m #[(.ref wa), (.ref wb)] 3)) t := fun t k => castTop (ef_trEq m wa wb sA tA kA nA vA zA sB tB kB nB vB zB sC tC kC nC vC zC sD tD kD nD vD zD sE tE kE nE vE zE sF tF kF nF vF zF) k
  obtain ⟨T1, X1, e1, st1⟩ := instY X0 hx hZ hown (hw _ (List.mem_of_getElem? (i := 65) rfl)) e0 (Ins.self Ewb) (g := (mkF m 1 #[.val (.ref wa), .val (.ref wb), .unset] [(.ref wb)])) rfl rfl (hb hby d10_1)
  obtain ⟨T2, X2, e2, st2⟩ := castY X1 hx hZ hown (hw _ (List.mem_of_getElem? (i := 65) rfl)) e1 (Ins.self Ewb) (g := (mkF m 10 #[.val (.ref wa), .val (.ref wb), .unset] [(.ref wb)])) rfl rfl (hb hby d10_10)
  obtain ⟨T3, X3, e3, st3⟩ := getF X2 hx hZ hown (host := "") (Or.inl (hw _ (List.mem_of_getElem? (i := 45) rfl))) Via.refl e2 Fwaitem (g := (mkF m 15 #[.val (.ref wa), .val (.ref wb), .val (.ref wb)] [(.ref wa)])) rfl rfl (hb hby d10_15)
  obtain ⟨T4, X4, e4, st4⟩ := getF X3 hx hZ hown (host := "") (Or.inl (hw _ (List.mem_of_getElem? (i := 45) rfl))) Via.refl e3 Fwbitem (g := (mkF m 19 #[.val (.ref wa), .val (.ref wb), .val (.ref wb)] [(.ref wb), (.ref sA)])) rfl rfl (hb hby d10_19)
  obtain ⟨cq5, kq5, q5a, q5b, q5c⟩ := isOf hZ e4 EsA
  obtain ⟨_, _, ⟨T5, L5, k5, n5⟩, -, X5, ⟨Lc5, hQ5, cl_5, cy_5, cz_5⟩, st5⟩ := X4.virtualBack hx (y := (⟨"java/lang/String", "equals", "(Ljava/lang/Object;)Z"⟩ : MethodName)) (z := (⟨"java/lang/String", "equals", "(Ljava/lang/Object;)Z"⟩ : MethodName)) hown (mvT hZ (hw _ (List.mem_of_getElem? (i := 70) rfl))) (mvT hZ (hw _ (List.mem_of_getElem? (i := 71) rfl))) (notFace_of_selects (args := #[]) (mvT hZ (hw _ (List.mem_of_getElem? (i := 73) rfl)))) (mvT hZ (hw _ (List.mem_of_getElem? (i := 73) rfl))) (mvT hZ (hw _ (List.mem_of_getElem? (i := 72) rfl))) (by decide) (backOf (W := 0) (seq l Z a0 hw [] zCS wcI ccI sA tA kA nA vA zA sD tD kD nD vD zD h0 n0 O0 S_CS hCS hcT0 hcT1 hcT2 hcH hcW S_cI B_cI S_hi   EsA CsA VsA AsA hCA EsD CsD VsD AsD hCD) hZ (hw _ (List.mem_of_getElem? (i := 74) rfl)) (hw _ (List.mem_of_getElem? (i := 9) rfl)) (by decide) (by decide)) q5a q5c (g := (mkF m 22 #[.val (.ref wa), .val (.ref wb), .val (.ref wb)] [(.ref sD), (.ref sA)])) rfl (by rw [hml]; rfl) (Steps.refl _) (argsL := [(.ref sD)]) (rest := []) (lenOf pd_8 rfl) rfl (by show 2 * 0 + _ ≤ _; exact Nat.le_of_eq rfl) (hb hby d10_22) (fun _ _ => ⟨rfl, e4, (by decide : 0 + 0 ≤ _), (by decide : 0 + 0 ≤ _)⟩)
  dsimp only [Pt.U, Pt.locs, Pt.cells, Pt.slots] at X5 cl_5 cy_5 cz_5 st5 hQ5
  rw [cl_5, cy_5, cz_5] at X5
  obtain ⟨rfl, N5q, e5⟩ := hQ5
  have N5 := Fr.app N0 N5q
  have R6 : ∀ t, Steps p.tables e below (T5.setTop (mkF m 25 #[.val (.ref wa), .val (.ref wb), .val (.ref wb)] [(.int (if zA = zD then (1 : Int32) else (0 : Int32)))])) t → Steps p.tables e below (s₁.setTop (entryFrame m #[(.ref wa), (.ref wb)] 3)) t := by
    intro t k
    refine R0 t ?_
    show Steps p.tables e below (s₁.setTop (mkF m 0 #[.val (.ref wa), .val (.ref wb), .unset] [])) t
    refine XS.aloadN X0.here hx rfl (hb hby d10_0) rfl rfl ?_
    show Steps p.tables e below (s₁.setTop (mkF m 1 #[.val (.ref wa), .val (.ref wb), .unset] [(.ref wb)])) t
    refine st1 _ ?_
    show Steps p.tables e below (T1.setTop (mkF m 4 #[.val (.ref wa), .val (.ref wb), .unset] [(.int (1 : Int32))])) t
    refine XS.ifYes X1.here hx rfl (pc0 := 4) (pc' := 9) rfl (hb hby d10_4) rfl ((if0 _ _).trans (feq ((by decide) : ¬ ((1 : Int32) = (0 : Int32)))).2) (by decide) (by decide) ?_
    show Steps p.tables e below (T1.setTop (mkF m 9 #[.val (.ref wa), .val (.ref wb), .unset] [])) t
    refine XS.aloadN X1.here hx rfl (hb hby d10_9) rfl rfl ?_
    show Steps p.tables e below (T1.setTop (mkF m 10 #[.val (.ref wa), .val (.ref wb), .unset] [(.ref wb)])) t
    refine st2 _ ?_
    show Steps p.tables e below (T2.setTop (mkF m 13 #[.val (.ref wa), .val (.ref wb), .unset] [(.ref wb)])) t
    refine XS.astoreN X2.here hx rfl (hb hby d10_13) rfl rfl (l' := #[.val (.ref wa), .val (.ref wb), .val (.ref wb)]) rfl ?_
    show Steps p.tables e below (T2.setTop (mkF m 14 #[.val (.ref wa), .val (.ref wb), .val (.ref wb)] [])) t
    refine XS.aloadN X2.here hx rfl (hb hby d10_14) rfl rfl ?_
    show Steps p.tables e below (T2.setTop (mkF m 15 #[.val (.ref wa), .val (.ref wb), .val (.ref wb)] [(.ref wa)])) t
    refine st3 _ ?_
    show Steps p.tables e below (T3.setTop (mkF m 18 #[.val (.ref wa), .val (.ref wb), .val (.ref wb)] [(.ref sA)])) t
    refine XS.aloadN X3.here hx rfl (hb hby d10_18) rfl rfl ?_
    show Steps p.tables e below (T3.setTop (mkF m 19 #[.val (.ref wa), .val (.ref wb), .val (.ref wb)] [(.ref wb), (.ref sA)])) t
    refine st4 _ ?_
    show Steps p.tables e below (T4.setTop (mkF m 22 #[.val (.ref wa), .val (.ref wb), .val (.ref wb)] [(.ref sD), (.ref sA)])) t
    refine st5.trans ?_
    exact k
  by_cases hzA : zA = zD
  · have R7 := R6
    rw [if_pos hzA] at R7
    obtain ⟨T8, X8, e8, st8⟩ := getF X5 hx hZ hown (host := "") (Or.inl (hw _ (List.mem_of_getElem? (i := 48) rfl))) Via.refl e5 Fwafrom (g := (mkF m 29 #[.val (.ref wa), .val (.ref wb), .val (.ref wb)] [(.ref wa)])) rfl rfl (hb hby d10_29)
    obtain ⟨T9, X9, e9, st9⟩ := getF X8 hx hZ hown (host := "") (Or.inl (hw _ (List.mem_of_getElem? (i := 48) rfl))) Via.refl e8 Fwbfrom (g := (mkF m 33 #[.val (.ref wa), .val (.ref wb), .val (.ref wb)] [(.ref wb), (.ref sB)])) rfl rfl (hb hby d10_33)
    obtain ⟨cq10, kq10, q10a, q10b, q10c⟩ := isOf hZ e9 EsB
    obtain ⟨_, _, ⟨T10, L10, k10, n10⟩, -, X10, ⟨Lc10, hQ10, cl_10, cy_10, cz_10⟩, st10⟩ := X9.virtualBack hx (y := (⟨"java/lang/String", "equals", "(Ljava/lang/Object;)Z"⟩ : MethodName)) (z := (⟨"java/lang/String", "equals", "(Ljava/lang/Object;)Z"⟩ : MethodName)) hown (mvT hZ (hw _ (List.mem_of_getElem? (i := 70) rfl))) (mvT hZ (hw _ (List.mem_of_getElem? (i := 71) rfl))) (notFace_of_selects (args := #[]) (mvT hZ (hw _ (List.mem_of_getElem? (i := 73) rfl)))) (mvT hZ (hw _ (List.mem_of_getElem? (i := 73) rfl))) (mvT hZ (hw _ (List.mem_of_getElem? (i := 72) rfl))) (by decide) (backOf (W := 0) (seq l Z a0 hw [] zCS wcI ccI sB tB kB nB vB zB sE tE kE nE vE zE h0 n0 O0 S_CS hCS hcT0 hcT1 hcT2 hcH hcW S_cI B_cI S_hi   EsB CsB VsB AsB hCB EsE CsE VsE AsE hCE) hZ (hw _ (List.mem_of_getElem? (i := 74) rfl)) (hw _ (List.mem_of_getElem? (i := 9) rfl)) (by decide) (by decide)) q10a q10c (g := (mkF m 36 #[.val (.ref wa), .val (.ref wb), .val (.ref wb)] [(.ref sE), (.ref sB)])) rfl (by rw [hml]; rfl) (Steps.refl _) (argsL := [(.ref sE)]) (rest := []) (lenOf pd_8 rfl) rfl (by show 2 * 0 + _ ≤ _; exact Nat.le_of_eq rfl) (hb hby d10_36) (fun _ _ => ⟨rfl, e9, (by decide : 0 + 0 ≤ _), (by decide : 0 + 0 ≤ _)⟩)
    dsimp only [Pt.U, Pt.locs, Pt.cells, Pt.slots] at X10 cl_10 cy_10 cz_10 st10 hQ10
    rw [cl_10, cy_10, cz_10] at X10
    obtain ⟨rfl, N10q, e10⟩ := hQ10
    have N10 := Fr.app N5 N10q
    have R11 : ∀ t, Steps p.tables e below (T10.setTop (mkF m 39 #[.val (.ref wa), .val (.ref wb), .val (.ref wb)] [(.int (if zB = zE then (1 : Int32) else (0 : Int32)))])) t → Steps p.tables e below (s₁.setTop (entryFrame m #[(.ref wa), (.ref wb)] 3)) t := by
      intro t k
      refine R7 t ?_
      show Steps p.tables e below (T5.setTop (mkF m 25 #[.val (.ref wa), .val (.ref wb), .val (.ref wb)] [(.int (1 : Int32))])) t
      refine XS.ifNo X5.here hx rfl (hb hby d10_25) rfl ((if0 _ _).trans (feq ((by decide) : ¬ ((1 : Int32) = (0 : Int32)))).1) ?_
      show Steps p.tables e below (T5.setTop (mkF m 28 #[.val (.ref wa), .val (.ref wb), .val (.ref wb)] [])) t
      refine XS.aloadN X5.here hx rfl (hb hby d10_28) rfl rfl ?_
      show Steps p.tables e below (T5.setTop (mkF m 29 #[.val (.ref wa), .val (.ref wb), .val (.ref wb)] [(.ref wa)])) t
      refine st8 _ ?_
      show Steps p.tables e below (T8.setTop (mkF m 32 #[.val (.ref wa), .val (.ref wb), .val (.ref wb)] [(.ref sB)])) t
      refine XS.aloadN X8.here hx rfl (hb hby d10_32) rfl rfl ?_
      show Steps p.tables e below (T8.setTop (mkF m 33 #[.val (.ref wa), .val (.ref wb), .val (.ref wb)] [(.ref wb), (.ref sB)])) t
      refine st9 _ ?_
      show Steps p.tables e below (T9.setTop (mkF m 36 #[.val (.ref wa), .val (.ref wb), .val (.ref wb)] [(.ref sE), (.ref sB)])) t
      refine st10.trans ?_
      exact k
    by_cases hzB : zB = zE
    · have R12 := R11
      rw [if_pos hzB] at R12
      obtain ⟨T13, X13, e13, st13⟩ := getF X10 hx hZ hown (host := "") (Or.inl (hw _ (List.mem_of_getElem? (i := 51) rfl))) Via.refl e10 Fwato (g := (mkF m 43 #[.val (.ref wa), .val (.ref wb), .val (.ref wb)] [(.ref wa)])) rfl rfl (hb hby d10_43)
      obtain ⟨T14, X14, e14, st14⟩ := getF X13 hx hZ hown (host := "") (Or.inl (hw _ (List.mem_of_getElem? (i := 51) rfl))) Via.refl e13 Fwbto (g := (mkF m 47 #[.val (.ref wa), .val (.ref wb), .val (.ref wb)] [(.ref wb), (.ref sC)])) rfl rfl (hb hby d10_47)
      obtain ⟨cq15, kq15, q15a, q15b, q15c⟩ := isOf hZ e14 EsC
      obtain ⟨_, _, ⟨T15, L15, k15, n15⟩, -, X15, ⟨Lc15, hQ15, cl_15, cy_15, cz_15⟩, st15⟩ := X14.virtualBack hx (y := (⟨"java/lang/String", "equals", "(Ljava/lang/Object;)Z"⟩ : MethodName)) (z := (⟨"java/lang/String", "equals", "(Ljava/lang/Object;)Z"⟩ : MethodName)) hown (mvT hZ (hw _ (List.mem_of_getElem? (i := 70) rfl))) (mvT hZ (hw _ (List.mem_of_getElem? (i := 71) rfl))) (notFace_of_selects (args := #[]) (mvT hZ (hw _ (List.mem_of_getElem? (i := 73) rfl)))) (mvT hZ (hw _ (List.mem_of_getElem? (i := 73) rfl))) (mvT hZ (hw _ (List.mem_of_getElem? (i := 72) rfl))) (by decide) (backOf (W := 0) (seq l Z a0 hw [] zCS wcI ccI sC tC kC nC vC zC sF tF kF nF vF zF h0 n0 O0 S_CS hCS hcT0 hcT1 hcT2 hcH hcW S_cI B_cI S_hi   EsC CsC VsC AsC hCC EsF CsF VsF AsF hCF) hZ (hw _ (List.mem_of_getElem? (i := 74) rfl)) (hw _ (List.mem_of_getElem? (i := 9) rfl)) (by decide) (by decide)) q15a q15c (g := (mkF m 50 #[.val (.ref wa), .val (.ref wb), .val (.ref wb)] [(.ref sF), (.ref sC)])) rfl (by rw [hml]; rfl) (Steps.refl _) (argsL := [(.ref sF)]) (rest := []) (lenOf pd_8 rfl) rfl (by show 2 * 0 + _ ≤ _; exact Nat.le_of_eq rfl) (hb hby d10_50) (fun _ _ => ⟨rfl, e14, (by decide : 0 + 0 ≤ _), (by decide : 0 + 0 ≤ _)⟩)
      dsimp only [Pt.U, Pt.locs, Pt.cells, Pt.slots] at X15 cl_15 cy_15 cz_15 st15 hQ15
      rw [cl_15, cy_15, cz_15] at X15
      obtain ⟨rfl, N15q, e15⟩ := hQ15
      have N15 := Fr.app N10 N15q
      have R16 : ∀ t, Steps p.tables e below (T15.setTop (mkF m 53 #[.val (.ref wa), .val (.ref wb), .val (.ref wb)] [(.int (if zC = zF then (1 : Int32) else (0 : Int32)))])) t → Steps p.tables e below (s₁.setTop (entryFrame m #[(.ref wa), (.ref wb)] 3)) t := by
        intro t k
        refine R12 t ?_
        show Steps p.tables e below (T10.setTop (mkF m 39 #[.val (.ref wa), .val (.ref wb), .val (.ref wb)] [(.int (1 : Int32))])) t
        refine XS.ifNo X10.here hx rfl (hb hby d10_39) rfl ((if0 _ _).trans (feq ((by decide) : ¬ ((1 : Int32) = (0 : Int32)))).1) ?_
        show Steps p.tables e below (T10.setTop (mkF m 42 #[.val (.ref wa), .val (.ref wb), .val (.ref wb)] [])) t
        refine XS.aloadN X10.here hx rfl (hb hby d10_42) rfl rfl ?_
        show Steps p.tables e below (T10.setTop (mkF m 43 #[.val (.ref wa), .val (.ref wb), .val (.ref wb)] [(.ref wa)])) t
        refine st13 _ ?_
        show Steps p.tables e below (T13.setTop (mkF m 46 #[.val (.ref wa), .val (.ref wb), .val (.ref wb)] [(.ref sC)])) t
        refine XS.aloadN X13.here hx rfl (hb hby d10_46) rfl rfl ?_
        show Steps p.tables e below (T13.setTop (mkF m 47 #[.val (.ref wa), .val (.ref wb), .val (.ref wb)] [(.ref wb), (.ref sC)])) t
        refine st14 _ ?_
        show Steps p.tables e below (T14.setTop (mkF m 50 #[.val (.ref wa), .val (.ref wb), .val (.ref wb)] [(.ref sF), (.ref sC)])) t
        refine st15.trans ?_
        exact k
      by_cases hzC : zC = zF
      · have R17 := R16
        rw [if_pos hzC] at R17
        have R18 : ∀ t, Steps p.tables e below (T15.setTop (mkF m 61 #[.val (.ref wa), .val (.ref wb), .val (.ref wb)] [(.int (1 : Int32))])) t → Steps p.tables e below (s₁.setTop (entryFrame m #[(.ref wa), (.ref wb)] 3)) t := by
          intro t k
          refine R17 t ?_
          show Steps p.tables e below (T15.setTop (mkF m 53 #[.val (.ref wa), .val (.ref wb), .val (.ref wb)] [(.int (1 : Int32))])) t
          refine XS.ifNo X15.here hx rfl (hb hby d10_53) rfl ((if0 _ _).trans (feq ((by decide) : ¬ ((1 : Int32) = (0 : Int32)))).1) ?_
          show Steps p.tables e below (T15.setTop (mkF m 56 #[.val (.ref wa), .val (.ref wb), .val (.ref wb)] [])) t
          refine XS.iconst X15.here hx rfl (hb hby d10_56) ?_
          show Steps p.tables e below (T15.setTop (mkF m 57 #[.val (.ref wa), .val (.ref wb), .val (.ref wb)] [(.int (1 : Int32))])) t
          refine XS.goto X15.here hx rfl (pc0 := 57) (pc' := 61) rfl (hb hby d10_57) (by decide) (by decide) ?_
          exact k
        obtain ⟨fs, hr, hrun, hended, hW, hsame⟩ := X15.leave (v := some (.int (1 : Int32))) (fun h => by rw [Bd.returns] at h; cases h)
        refine ⟨_, _, R18 _ ?_, hrun, hended, _, _, rfl, ?_, ⟨_, rfl⟩, hW, hsame.mono (by decide) (by decide)⟩
        · show Steps p.tables e below (T15.setTop (mkF m 61 #[.val (.ref wa), .val (.ref wb), .val (.ref wb)] [(.int (1 : Int32))])) _
          exact retN X15 hx (t := .boolean) Bd.returns (by simp) (hb hby d10_61) hr
        · show Q_trEq Z zCS wcI ccI wa wb sA tA kA nA vA zA sB tB kB nB vB zB sC tC kC nC vC zC sD tD kD nD vD zD sE tE kE nE vE zE sF tF kF nF vF zF h0 n0 _ T15.heap _
          rw [e15]
          exact ⟨(congrArg (fun z => some (Value.int z)) (own_teqY hzA hzB hzC).symm), N15, rfl⟩
      · have R19 := R16
        rw [if_neg hzC] at R19
        have R20 : ∀ t, Steps p.tables e below (T15.setTop (mkF m 61 #[.val (.ref wa), .val (.ref wb), .val (.ref wb)] [(.int (0 : Int32))])) t → Steps p.tables e below (s₁.setTop (entryFrame m #[(.ref wa), (.ref wb)] 3)) t := by
          intro t k
          refine R19 t ?_
          show Steps p.tables e below (T15.setTop (mkF m 53 #[.val (.ref wa), .val (.ref wb), .val (.ref wb)] [(.int (0 : Int32))])) t
          refine XS.ifYes X15.here hx rfl (pc0 := 53) (pc' := 60) rfl (hb hby d10_53) rfl ((if0 _ _).trans (teq ((by decide) : (0 : Int32) = (0 : Int32))).1) (by decide) (by decide) ?_
          show Steps p.tables e below (T15.setTop (mkF m 60 #[.val (.ref wa), .val (.ref wb), .val (.ref wb)] [])) t
          refine XS.iconst X15.here hx rfl (hb hby d10_60) ?_
          exact k
        obtain ⟨fs, hr, hrun, hended, hW, hsame⟩ := X15.leave (v := some (.int (0 : Int32))) (fun h => by rw [Bd.returns] at h; cases h)
        refine ⟨_, _, R20 _ ?_, hrun, hended, _, _, rfl, ?_, ⟨_, rfl⟩, hW, hsame.mono (by decide) (by decide)⟩
        · show Steps p.tables e below (T15.setTop (mkF m 61 #[.val (.ref wa), .val (.ref wb), .val (.ref wb)] [(.int (0 : Int32))])) _
          exact retN X15 hx (t := .boolean) Bd.returns (by simp) (hb hby d10_61) hr
        · show Q_trEq Z zCS wcI ccI wa wb sA tA kA nA vA zA sB tB kB nB vB zB sC tC kC nC vC zC sD tD kD nD vD zD sE tE kE nE vE zE sF tF kF nF vF zF h0 n0 _ T15.heap _
          rw [e15]
          exact ⟨(congrArg (fun z => some (Value.int z)) (own_teq3 hzA hzB hzC).symm), N15, rfl⟩
    · have R21 := R11
      rw [if_neg hzB] at R21
      have R22 : ∀ t, Steps p.tables e below (T10.setTop (mkF m 61 #[.val (.ref wa), .val (.ref wb), .val (.ref wb)] [(.int (0 : Int32))])) t → Steps p.tables e below (s₁.setTop (entryFrame m #[(.ref wa), (.ref wb)] 3)) t := by
        intro t k
        refine R21 t ?_
        show Steps p.tables e below (T10.setTop (mkF m 39 #[.val (.ref wa), .val (.ref wb), .val (.ref wb)] [(.int (0 : Int32))])) t
        refine XS.ifYes X10.here hx rfl (pc0 := 39) (pc' := 60) rfl (hb hby d10_39) rfl ((if0 _ _).trans (teq ((by decide) : (0 : Int32) = (0 : Int32))).1) (by decide) (by decide) ?_
        show Steps p.tables e below (T10.setTop (mkF m 60 #[.val (.ref wa), .val (.ref wb), .val (.ref wb)] [])) t
        refine XS.iconst X10.here hx rfl (hb hby d10_60) ?_
        exact k
      obtain ⟨fs, hr, hrun, hended, hW, hsame⟩ := X10.leave (v := some (.int (0 : Int32))) (fun h => by rw [Bd.returns] at h; cases h)
      refine ⟨_, _, R22 _ ?_, hrun, hended, _, _, rfl, ?_, ⟨_, rfl⟩, hW, hsame.mono (by decide) (by decide)⟩
      · show Steps p.tables e below (T10.setTop (mkF m 61 #[.val (.ref wa), .val (.ref wb), .val (.ref wb)] [(.int (0 : Int32))])) _
        exact retN X10 hx (t := .boolean) Bd.returns (by simp) (hb hby d10_61) hr
      · show Q_trEq Z zCS wcI ccI wa wb sA tA kA nA vA zA sB tB kB nB vB zB sC tC kC nC vC zC sD tD kD nD vD zD sE tE kE nE vE zE sF tF kF nF vF zF h0 n0 _ T10.heap _
        rw [e10]
        exact ⟨(congrArg (fun z => some (Value.int z)) (own_teq2 hzA hzB).symm), N10, rfl⟩
  · have R23 := R6
    rw [if_neg hzA] at R23
    have R24 : ∀ t, Steps p.tables e below (T5.setTop (mkF m 61 #[.val (.ref wa), .val (.ref wb), .val (.ref wb)] [(.int (0 : Int32))])) t → Steps p.tables e below (s₁.setTop (entryFrame m #[(.ref wa), (.ref wb)] 3)) t := by
      intro t k
      refine R23 t ?_
      show Steps p.tables e below (T5.setTop (mkF m 25 #[.val (.ref wa), .val (.ref wb), .val (.ref wb)] [(.int (0 : Int32))])) t
      refine XS.ifYes X5.here hx rfl (pc0 := 25) (pc' := 60) rfl (hb hby d10_25) rfl ((if0 _ _).trans (teq ((by decide) : (0 : Int32) = (0 : Int32))).1) (by decide) (by decide) ?_
      show Steps p.tables e below (T5.setTop (mkF m 60 #[.val (.ref wa), .val (.ref wb), .val (.ref wb)] [])) t
      refine XS.iconst X5.here hx rfl (hb hby d10_60) ?_
      exact k
    obtain ⟨fs, hr, hrun, hended, hW, hsame⟩ := X5.leave (v := some (.int (0 : Int32))) (fun h => by rw [Bd.returns] at h; cases h)
    refine ⟨_, _, R24 _ ?_, hrun, hended, _, _, rfl, ?_, ⟨_, rfl⟩, hW, hsame.mono (by decide) (by decide)⟩
    · show Steps p.tables e below (T5.setTop (mkF m 61 #[.val (.ref wa), .val (.ref wb), .val (.ref wb)] [(.int (0 : Int32))])) _
      exact retN X5 hx (t := .boolean) Bd.returns (by simp) (hb hby d10_61) hr
    · show Q_trEq Z zCS wcI ccI wa wb sA tA kA nA vA zA sB tB kB nB vB zB sC tC kC nC vC zC sD tD kD nD vD zD sE tE kE nE vE zE sF tF kF nF vF zF h0 n0 _ T5.heap _
      rw [e5]
      exact ⟨(congrArg (fun z => some (Value.int z)) (own_teq1 hzA).symm), N5, rfl⟩
theorem d10_7 : decode prog_11_method_5_code 7 = .ok (.iconst 0, 1) := by decide +kernel
theorem d10_8 : decode prog_11_method_5_code 8 = .ok (.ireturn, 1) := by decide +kernel
theorem ef_teqN (m : MethodId) (wa : Addr) : entryFrame m #[(.ref wa), .null] 3 = mkF m 0 #[.val (.ref wa), .val .null, .unset] [] := by first | (simp [entryFrame, mkF, argsToLocals, Value.category]; done) | rfl
def Q_teqN (Z : State) (zCS : Int32) (wcI : Addr) (ccI : Cell) (wa : Addr) (h0 : Heap) (n0 : Nat) (vv_ : Option Value) (hh_ : Heap) (LL_ : List Loc) : Prop := vv_ = some (.int (0 : Int32)) ∧ (Fr n0 LL_) ∧ (hh_ = h0)
set_option maxRecDepth 65536 in
set_option maxHeartbeats 40000000 in
theorem teqN (l : Launch) (Z : State) (a0 : Array Value) (hw : ∀ d ∈ tables_1, d.before a0 Z = true) (ws : List Jvm.Cond) (zCS : Int32) (wcI : Addr) (ccI : Cell) (wa : Addr) (h0 : Heap) (n0 : Nat) (O0 : Old Z n0 h0) (S_CS : Sta Z Z.heap "java/lang/String" "COMPACT_STRINGS" "Z" (.int zCS)) (hCS : ¬ (zCS = (0 : Int32))) (hcT0 : Jvm.Lit.constHeld Z "com/example/relayout/relayout/plan/Transfer" 7) (hcT1 : Jvm.Lit.constHeld Z "com/example/relayout/relayout/plan/Transfer" 22) (hcT2 : Jvm.Lit.constHeld Z "com/example/relayout/relayout/plan/Transfer" 26) (hcH : Jvm.Lit.constHeld Z "com/example/relayout/relayout/plan/TransferEqualsPinLaw" 7) (hcW : Jvm.Lit.compactW.before a0 Z = true) (S_cI : Sta Z Z.heap "java/lang/Integer$IntegerCache" "cache" "[Ljava/lang/Integer;" (.ref wcI)) (B_cI : Bxs Z wcI ccI "java/lang/Integer" "I" 256 (fun j => .int (j - 128))) (S_hi : Sta Z Z.heap "java/lang/Integer$IntegerCache" "high" "I" (.int (127 : Int32))) :
    MetFree l (⟨"com/example/relayout/relayout/plan/Transfer", "equals", "(Ljava/lang/Object;)Z"⟩ : MethodName) (head1 (Jvm.Cond.code (⟨"com/example/relayout/relayout/plan/Transfer", "equals", "(Ljava/lang/Object;)Z"⟩ : MethodName) prog_11_method_5_code 3 (some .boolean) :: ws) ({ frames := 0, cells := 0, slots := 0, locals := 0 } : Room)) (fun aa_ U_ => aa_ = #[(.ref wa), .null] ∧ Z.Warmed39 U_.vm ∧ U_.heap = h0) (fun _ _ _ _ _ => True) (fun _ U_ oo_ V_ => ∃ vv_ LL_, oo_ = .returned vv_ ∧ Q_teqN Z zCS wcI ccI wa h0 n0 vv_ V_.heap LL_ ∧ FrameEnd U_ oo_ V_ LL_ ({ frames := 0, cells := 0, slots := 0, locals := 0 } : Room).cells ({ frames := 0, cells := 0, slots := 0, locals := 0 } : Room).slots) := by
  refine MetFree.of_bodySF (plainFor_of_name pn_com_example_relayout_relayout_plan_Transfer) hisR ?_
  intro p e s m args below meth c s₁ Bd hml0 hP hK
  obtain ⟨rfl, hZ, hh⟩ := hP
  have hx := Bd.exec
  have hby := Bd.bytes
  have hml : c.maxLocals = 3 := hml0
  have hown : s.vm.findClass "com/example/relayout/relayout/plan/Transfer" = some m.cls := findClass_of_methodNamed Bd.named
  have hnm := (name_of_methodNamed Bd.named Bd.method).1
  have X0 : Stand p l e ({ frames := 0, cells := 0, slots := 0, locals := 0 } : Room) s m #[(.ref wa), .null] below meth c s₁ [] 0 0 := Stand.of_body Bd
  have e0 : s₁.heap = h0 := by rw [← hh, Bd.state]; rfl
  have N0 := Fr.nil n0
  have Z0 : n0 ≤ h0.size := O0.1 ▸ O0.2.1
  have hk0 := Nat.zero_le h0.size
  have K0 : Keep h0 h0 [] := Keep.refl _ _
  have R0 : ∀ t, Steps p.tables e below (s₁.setTop (mkF m 0 #[.val (.ref wa), .val .null, .unset] [])) t → Steps p.tables e below (s₁.setTop (entryFrame m #[(.ref wa), .null] 3)) t := fun t k => castTop (ef_teqN m wa) k
  have R1 : ∀ t, Steps p.tables e below (s₁.setTop (mkF m 8 #[.val (.ref wa), .val .null, .unset] [(.int (0 : Int32))])) t → Steps p.tables e below (s₁.setTop (entryFrame m #[(.ref wa), .null] 3)) t := by
    intro t k
    refine R0 t ?_
    show Steps p.tables e below (s₁.setTop (mkF m 0 #[.val (.ref wa), .val .null, .unset] [])) t
    refine XS.aloadN X0.here hx rfl (hb hby d10_0) rfl rfl ?_
    show Steps p.tables e below (s₁.setTop (mkF m 1 #[.val (.ref wa), .val .null, .unset] [.null])) t
    refine X0.instanceofNull hx (g := (mkF m 1 #[.val (.ref wa), .val .null, .unset] [.null])) rfl rfl (hb hby d10_1) _ ?_
    show Steps p.tables e below (s₁.setTop (mkF m 4 #[.val (.ref wa), .val .null, .unset] [(.int (0 : Int32))])) t
    refine XS.ifNo X0.here hx rfl (hb hby d10_4) rfl ((if0 _ _).trans (teq ((by decide) : (0 : Int32) = (0 : Int32))).2) ?_
    show Steps p.tables e below (s₁.setTop (mkF m 7 #[.val (.ref wa), .val .null, .unset] [])) t
    refine XS.iconst X0.here hx rfl (hb hby d10_7) ?_
    exact k
  obtain ⟨fs, hr, hrun, hended, hW, hsame⟩ := X0.leave (v := some (.int (0 : Int32))) (fun h => by rw [Bd.returns] at h; cases h)
  refine ⟨_, _, R1 _ ?_, hrun, hended, _, _, rfl, ?_, ⟨_, rfl⟩, hW, hsame.mono (by decide) (by decide)⟩
  · show Steps p.tables e below (s₁.setTop (mkF m 8 #[.val (.ref wa), .val .null, .unset] [(.int (0 : Int32))])) _
    exact retN X0 hx (t := .boolean) Bd.returns (by simp) (hb hby d10_8) hr
  · show Q_teqN Z zCS wcI ccI wa h0 n0 _ s₁.heap _
    rw [e0]
    exact ⟨rfl, N0, rfl⟩
theorem ef_teqI (m : MethodId) (wa : Addr) (wb : Addr) : entryFrame m #[(.ref wa), (.ref wb)] 3 = mkF m 0 #[.val (.ref wa), .val (.ref wb), .unset] [] := by first | (simp [entryFrame, mkF, argsToLocals, Value.category]; done) | rfl
def Q_teqI (Z : State) (zCS : Int32) (wcI : Addr) (ccI : Cell) (wa : Addr) (wb : Addr) (h0 : Heap) (n0 : Nat) (vv_ : Option Value) (hh_ : Heap) (LL_ : List Loc) : Prop := vv_ = some (.int (0 : Int32)) ∧ (Fr n0 LL_) ∧ (hh_ = h0)
set_option maxRecDepth 65536 in
set_option maxHeartbeats 40000000 in
theorem teqI (l : Launch) (Z : State) (a0 : Array Value) (hw : ∀ d ∈ tables_1, d.before a0 Z = true) (ws : List Jvm.Cond) (zCS : Int32) (wcI : Addr) (ccI : Cell) (wa : Addr) (wb : Addr) (h0 : Heap) (n0 : Nat) (O0 : Old Z n0 h0) (S_CS : Sta Z Z.heap "java/lang/String" "COMPACT_STRINGS" "Z" (.int zCS)) (hCS : ¬ (zCS = (0 : Int32))) (hcT0 : Jvm.Lit.constHeld Z "com/example/relayout/relayout/plan/Transfer" 7) (hcT1 : Jvm.Lit.constHeld Z "com/example/relayout/relayout/plan/Transfer" 22) (hcT2 : Jvm.Lit.constHeld Z "com/example/relayout/relayout/plan/Transfer" 26) (hcH : Jvm.Lit.constHeld Z "com/example/relayout/relayout/plan/TransferEqualsPinLaw" 7) (hcW : Jvm.Lit.compactW.before a0 Z = true) (S_cI : Sta Z Z.heap "java/lang/Integer$IntegerCache" "cache" "[Ljava/lang/Integer;" (.ref wcI)) (B_cI : Bxs Z wcI ccI "java/lang/Integer" "I" 256 (fun j => .int (j - 128))) (S_hi : Sta Z Z.heap "java/lang/Integer$IntegerCache" "high" "I" (.int (127 : Int32))) (Eb : Exa Z h0 wb "java/lang/Integer") :
    MetFree l (⟨"com/example/relayout/relayout/plan/Transfer", "equals", "(Ljava/lang/Object;)Z"⟩ : MethodName) (head1 (Jvm.Cond.code (⟨"com/example/relayout/relayout/plan/Transfer", "equals", "(Ljava/lang/Object;)Z"⟩ : MethodName) prog_11_method_5_code 3 (some .boolean) :: ws) ({ frames := 0, cells := 0, slots := 0, locals := 0 } : Room)) (fun aa_ U_ => aa_ = #[(.ref wa), (.ref wb)] ∧ Z.Warmed39 U_.vm ∧ U_.heap = h0) (fun _ _ _ _ _ => True) (fun _ U_ oo_ V_ => ∃ vv_ LL_, oo_ = .returned vv_ ∧ Q_teqI Z zCS wcI ccI wa wb h0 n0 vv_ V_.heap LL_ ∧ FrameEnd U_ oo_ V_ LL_ ({ frames := 0, cells := 0, slots := 0, locals := 0 } : Room).cells ({ frames := 0, cells := 0, slots := 0, locals := 0 } : Room).slots) := by
  refine MetFree.of_bodySF (plainFor_of_name pn_com_example_relayout_relayout_plan_Transfer) hisR ?_
  intro p e s m args below meth c s₁ Bd hml0 hP hK
  obtain ⟨rfl, hZ, hh⟩ := hP
  have hx := Bd.exec
  have hby := Bd.bytes
  have hml : c.maxLocals = 3 := hml0
  have hown : s.vm.findClass "com/example/relayout/relayout/plan/Transfer" = some m.cls := findClass_of_methodNamed Bd.named
  have hnm := (name_of_methodNamed Bd.named Bd.method).1
  have X0 : Stand p l e ({ frames := 0, cells := 0, slots := 0, locals := 0 } : Room) s m #[(.ref wa), (.ref wb)] below meth c s₁ [] 0 0 := Stand.of_body Bd
  have e0 : s₁.heap = h0 := by rw [← hh, Bd.state]; rfl
  have N0 := Fr.nil n0
  have Z0 : n0 ≤ h0.size := O0.1 ▸ O0.2.1
  have hk0 := Nat.zero_le h0.size
  have K0 : Keep h0 h0 [] := Keep.refl _ _
  have R0 : ∀ t, Steps p.tables e below (s₁.setTop (mkF m 0 #[.val (.ref wa), .val (.ref wb), .unset] [])) t → Steps p.tables e below (s₁.setTop (entryFrame m #[(.ref wa), (.ref wb)] 3)) t := fun t k => castTop (ef_teqI m wa wb) k
  obtain ⟨T1, X1, e1, st1⟩ := instNo X0 hx hZ hown (hw _ (List.mem_of_getElem? (i := 65) rfl)) e0 Eb (own_nsN (hw _ (List.mem_of_getElem? (i := 66) rfl)) (hw _ (List.mem_of_getElem? (i := 1) rfl)) (NS.step (hw _ (List.mem_of_getElem? (i := 66) rfl)) (NS.step (hw _ (List.mem_of_getElem? (i := 67) rfl)) (own_nsR (hw _ (List.mem_of_getElem? (i := 68) rfl)) (hw _ (List.mem_of_getElem? (i := 1) rfl)) (by decide)) (by decide)) (by decide)) (by decide)) (g := (mkF m 1 #[.val (.ref wa), .val (.ref wb), .unset] [(.ref wb)])) rfl rfl (hb hby d10_1)
  have R2 : ∀ t, Steps p.tables e below (T1.setTop (mkF m 8 #[.val (.ref wa), .val (.ref wb), .unset] [(.int (0 : Int32))])) t → Steps p.tables e below (s₁.setTop (entryFrame m #[(.ref wa), (.ref wb)] 3)) t := by
    intro t k
    refine R0 t ?_
    show Steps p.tables e below (s₁.setTop (mkF m 0 #[.val (.ref wa), .val (.ref wb), .unset] [])) t
    refine XS.aloadN X0.here hx rfl (hb hby d10_0) rfl rfl ?_
    show Steps p.tables e below (s₁.setTop (mkF m 1 #[.val (.ref wa), .val (.ref wb), .unset] [(.ref wb)])) t
    refine st1 _ ?_
    show Steps p.tables e below (T1.setTop (mkF m 4 #[.val (.ref wa), .val (.ref wb), .unset] [(.int (0 : Int32))])) t
    refine XS.ifNo X1.here hx rfl (hb hby d10_4) rfl ((if0 _ _).trans (teq ((by decide) : (0 : Int32) = (0 : Int32))).2) ?_
    show Steps p.tables e below (T1.setTop (mkF m 7 #[.val (.ref wa), .val (.ref wb), .unset] [])) t
    refine XS.iconst X1.here hx rfl (hb hby d10_7) ?_
    exact k
  obtain ⟨fs, hr, hrun, hended, hW, hsame⟩ := X1.leave (v := some (.int (0 : Int32))) (fun h => by rw [Bd.returns] at h; cases h)
  refine ⟨_, _, R2 _ ?_, hrun, hended, _, _, rfl, ?_, ⟨_, rfl⟩, hW, hsame.mono (by decide) (by decide)⟩
  · show Steps p.tables e below (T1.setTop (mkF m 8 #[.val (.ref wa), .val (.ref wb), .unset] [(.int (0 : Int32))])) _
    exact retN X1 hx (t := .boolean) Bd.returns (by simp) (hb hby d10_8) hr
  · show Q_teqI Z zCS wcI ccI wa wb h0 n0 _ T1.heap _
    rw [e1]
    exact ⟨rfl, N0, rfl⟩
theorem pd_9 : parseMethodDescriptor "(I)Ljava/lang/String;" = some ⟨[.int], some (.object "java/lang/String")⟩ := by decide +kernel
theorem pd_10 : parseMethodDescriptor "(Ljava/lang/String;Ljava/lang/String;Ljava/lang/String;)V" = some ⟨[(.object "java/lang/String"), (.object "java/lang/String"), (.object "java/lang/String")], none⟩ := by decide +kernel
theorem pd_11 : parseMethodDescriptor "(I)Ljava/lang/Integer;" = some ⟨[.int], some (.object "java/lang/Integer")⟩ := by decide +kernel
theorem pd_12 : parseMethodDescriptor "(I)I" = some ⟨[.int], some .int⟩ := by decide +kernel
theorem ef_rm0 (m : MethodId) (pa : Int32) (pb : Int32) (pq : Int32) : entryFrame m #[(.int pa), (.int pb), (.int pq)] maxLocals = mkF m 0 #[.val (.int pa), .val (.int pb), .val (.int pq), .unset, .unset, .unset, .unset, .unset, .unset] [] := by first | (simp [entryFrame, mkF, argsToLocals, Value.category, maxLocals]; done) | rfl
def Q_rm0 (Z : State) (zCS : Int32) (wcI : Addr) (ccI : Cell) (pa : Int32) (pb : Int32) (pq : Int32) (h0 : Heap) (n0 : Nat) (vv_ : Option Value) (hh_ : Heap) (LL_ : List Loc) : Prop := vv_ = some (.int (1 : Int32)) ∧ (Fr n0 LL_)
set_option maxRecDepth 65536 in
set_option maxHeartbeats 40000000 in
theorem rm0 (l : Launch) (Z : State) (a0 : Array Value) (hw : ∀ d ∈ tables_1, d.before a0 Z = true) (ws : List Jvm.Cond) (zCS : Int32) (wcI : Addr) (ccI : Cell) (pa : Int32) (pb : Int32) (pq : Int32) (NN : Nat) (h0 : Heap) (n0 : Nat) (O0 : Old Z n0 h0) (S_CS : Sta Z Z.heap "java/lang/String" "COMPACT_STRINGS" "Z" (.int zCS)) (hCS : ¬ (zCS = (0 : Int32))) (hcT0 : Jvm.Lit.constHeld Z "com/example/relayout/relayout/plan/Transfer" 7) (hcT1 : Jvm.Lit.constHeld Z "com/example/relayout/relayout/plan/Transfer" 22) (hcT2 : Jvm.Lit.constHeld Z "com/example/relayout/relayout/plan/Transfer" 26) (hcH : Jvm.Lit.constHeld Z "com/example/relayout/relayout/plan/TransferEqualsPinLaw" 7) (hcW : Jvm.Lit.compactW.before a0 Z = true) (S_cI : Sta Z Z.heap "java/lang/Integer$IntegerCache" "cache" "[Ljava/lang/Integer;" (.ref wcI)) (B_cI : Bxs Z wcI ccI "java/lang/Integer" "I" 256 (fun j => .int (j - 128))) (S_hi : Sta Z Z.heap "java/lang/Integer$IntegerCache" "high" "I" (.int (127 : Int32))) :
    MetFree l x (head1 (Jvm.Cond.code x code maxLocals ret :: ws) room_1) (fun aa_ U_ => aa_ = #[(.int pa), (.int pb), (.int pq)] ∧ (Z.Warmed39 U_.vm ∧ LS Z "com/example/relayout/relayout/plan/TransferEqualsPinLaw" 7 [] U_.vm h0 NN) ∧ U_.heap = h0) (fun _ _ _ _ _ => True) (fun _ U_ oo_ V_ => ∃ vv_ LL_, oo_ = .returned vv_ ∧ Q_rm0 Z zCS wcI ccI pa pb pq h0 n0 vv_ V_.heap LL_ ∧ ReturnedEndW U_ oo_ V_ LL_ room_1.cells room_1.slots) := by
  refine MetFree.of_bodySF (plainFor_of_name pn_com_example_relayout_relayout_plan_TransferEqualsPinLaw) hisR ?_
  intro p e s m args below meth c s₁ Bd hml0 hP hK
  obtain ⟨rfl, ⟨hZ, hL0⟩, hh⟩ := hP
  have hx := Bd.exec
  have hby := Bd.bytes
  have hml : c.maxLocals = 9 := hml0
  have hown : s.vm.findClass "com/example/relayout/relayout/plan/TransferEqualsPinLaw" = some m.cls := findClass_of_methodNamed Bd.named
  have hnm := (name_of_methodNamed Bd.named Bd.method).1
  have hZ0 : Z.Warmed39 (s.setVm s.vm).vm := hZ
  have hown0 : (s.setVm s.vm).vm.findClass "com/example/relayout/relayout/plan/TransferEqualsPinLaw" = some m.cls := hown
  have hS0 : s.Since s.vm 0 := ⟨State.Warmed39.refl s, fun j p h1 h2 => absurd (Array.getElem?_eq_some_iff.mp h2).1 (Nat.not_lt.mpr h1)⟩
  have X0 : Stand p l e room_1 (s.setVm s.vm) m #[(.int pa), (.int pb), (.int pq)] below meth c s₁ [] 0 0 := Stand.of_body Bd
  have e0 : s₁.heap = h0 := by rw [← hh, Bd.state]; rfl
  have N0 := Fr.nil n0
  have Z0 : n0 ≤ h0.size := O0.1 ▸ O0.2.1
  have hk0 := Nat.zero_le h0.size
  have K0 : Keep h0 h0 [] := Keep.refl _ _
  have R0 : ∀ t, Steps p.tables e below (s₁.setTop (mkF m 0 #[.val (.int pa), .val (.int pb), .val (.int pq), .unset, .unset, .unset, .unset, .unset, .unset] [])) t → Steps p.tables e below (s₁.setTop (entryFrame m #[(.int pa), (.int pb), (.int pq)] maxLocals)) t := fun t k => castTop (ef_rm0 m pa pb pq) k
  have R1 : ∀ t, Steps p.tables e below (s₁.setTop (mkF m 7 #[.val (.int pa), .val (.int pb), .val (.int pq), .val (.int (0 : Int32)), .unset, .unset, .unset, .unset, .unset] [(.int (((pq.toUInt32 >>> ((2 : Int32) &&& 31).toUInt32).toInt32) &&& (1 : Int32)))])) t → Steps p.tables e below (s₁.setTop (entryFrame m #[(.int pa), (.int pb), (.int pq)] maxLocals)) t := by
    intro t k
    refine R0 t ?_
    show Steps p.tables e below (s₁.setTop (mkF m 0 #[.val (.int pa), .val (.int pb), .val (.int pq), .unset, .unset, .unset, .unset, .unset, .unset] [])) t
    refine XS.iconst X0.here hx rfl (hb hby at_0) ?_
    show Steps p.tables e below (s₁.setTop (mkF m 1 #[.val (.int pa), .val (.int pb), .val (.int pq), .unset, .unset, .unset, .unset, .unset, .unset] [(.int (0 : Int32))])) t
    refine XS.istoreN X0.here hx rfl (hb hby at_1) rfl (l' := #[.val (.int pa), .val (.int pb), .val (.int pq), .val (.int (0 : Int32)), .unset, .unset, .unset, .unset, .unset]) rfl ?_
    show Steps p.tables e below (s₁.setTop (mkF m 2 #[.val (.int pa), .val (.int pb), .val (.int pq), .val (.int (0 : Int32)), .unset, .unset, .unset, .unset, .unset] [])) t
    refine XS.iloadN X0.here hx rfl (hb hby at_2) rfl ?_
    show Steps p.tables e below (s₁.setTop (mkF m 3 #[.val (.int pa), .val (.int pb), .val (.int pq), .val (.int (0 : Int32)), .unset, .unset, .unset, .unset, .unset] [(.int pq)])) t
    refine XS.iconst X0.here hx rfl (hb hby at_3) ?_
    show Steps p.tables e below (s₁.setTop (mkF m 4 #[.val (.int pa), .val (.int pb), .val (.int pq), .val (.int (0 : Int32)), .unset, .unset, .unset, .unset, .unset] [(.int (2 : Int32)), (.int pq)])) t
    refine XS.iushr X0.here hx rfl (hb hby at_4) rfl ?_
    show Steps p.tables e below (s₁.setTop (mkF m 5 #[.val (.int pa), .val (.int pb), .val (.int pq), .val (.int (0 : Int32)), .unset, .unset, .unset, .unset, .unset] [(.int ((pq.toUInt32 >>> ((2 : Int32) &&& 31).toUInt32).toInt32))])) t
    refine XS.iconst X0.here hx rfl (hb hby at_5) ?_
    show Steps p.tables e below (s₁.setTop (mkF m 6 #[.val (.int pa), .val (.int pb), .val (.int pq), .val (.int (0 : Int32)), .unset, .unset, .unset, .unset, .unset] [(.int (1 : Int32)), (.int ((pq.toUInt32 >>> ((2 : Int32) &&& 31).toUInt32).toInt32))])) t
    refine XS.iand X0.here hx rfl (hb hby at_6) rfl ?_
    exact k
  have R2 : ∀ t, Steps p.tables e below (s₁.setTop (mkF m 16 #[.val (.int pa), .val (.int pb), .val (.int pq), .val (.int (if (((pq.toUInt32 >>> ((2 : Int32) &&& 31).toUInt32).toInt32) &&& (1 : Int32)) = (0 : Int32) then (0 : Int32) else (511 : Int32))), .unset, .unset, .unset, .unset, .unset] [])) t → Steps p.tables e below (s₁.setTop (entryFrame m #[(.int pa), (.int pb), (.int pq)] maxLocals)) t := by
    by_cases hc_2 : (((pq.toUInt32 >>> ((2 : Int32) &&& 31).toUInt32).toInt32) &&& (1 : Int32)) = (0 : Int32)
    · have R3 : ∀ t, Steps p.tables e below (s₁.setTop (mkF m 16 #[.val (.int pa), .val (.int pb), .val (.int pq), .val (.int (0 : Int32)), .unset, .unset, .unset, .unset, .unset] [])) t → Steps p.tables e below (s₁.setTop (entryFrame m #[(.int pa), (.int pb), (.int pq)] maxLocals)) t := by
        intro t k
        refine R1 t ?_
        show Steps p.tables e below (s₁.setTop (mkF m 7 #[.val (.int pa), .val (.int pb), .val (.int pq), .val (.int (0 : Int32)), .unset, .unset, .unset, .unset, .unset] [(.int (((pq.toUInt32 >>> ((2 : Int32) &&& 31).toUInt32).toInt32) &&& (1 : Int32)))])) t
        refine XS.ifYes X0.here hx rfl (pc0 := 7) (pc' := 16) rfl (hb hby at_7) rfl ((if0 _ _).trans (teq (hc_2 : (((pq.toUInt32 >>> ((2 : Int32) &&& 31).toUInt32).toInt32) &&& (1 : Int32)) = (0 : Int32))).1) (by decide) (by decide) ?_
        exact k
      simp only [if_pos hc_2]
      exact R3
    · have R4 : ∀ t, Steps p.tables e below (s₁.setTop (mkF m 16 #[.val (.int pa), .val (.int pb), .val (.int pq), .val (.int (511 : Int32)), .unset, .unset, .unset, .unset, .unset] [])) t → Steps p.tables e below (s₁.setTop (entryFrame m #[(.int pa), (.int pb), (.int pq)] maxLocals)) t := by
        intro t k
        refine R1 t ?_
        show Steps p.tables e below (s₁.setTop (mkF m 7 #[.val (.int pa), .val (.int pb), .val (.int pq), .val (.int (0 : Int32)), .unset, .unset, .unset, .unset, .unset] [(.int (((pq.toUInt32 >>> ((2 : Int32) &&& 31).toUInt32).toInt32) &&& (1 : Int32)))])) t
        refine XS.ifNo X0.here hx rfl (hb hby at_7) rfl ((if0 _ _).trans (feq (hc_2 : ¬ ((((pq.toUInt32 >>> ((2 : Int32) &&& 31).toUInt32).toInt32) &&& (1 : Int32)) = (0 : Int32)))).1) ?_
        show Steps p.tables e below (s₁.setTop (mkF m 10 #[.val (.int pa), .val (.int pb), .val (.int pq), .val (.int (0 : Int32)), .unset, .unset, .unset, .unset, .unset] [])) t
        refine XS.iloadN X0.here hx rfl (hb hby at_10) rfl ?_
        show Steps p.tables e below (s₁.setTop (mkF m 11 #[.val (.int pa), .val (.int pb), .val (.int pq), .val (.int (0 : Int32)), .unset, .unset, .unset, .unset, .unset] [(.int (0 : Int32))])) t
        refine XS.sipush X0.here hx rfl (hb hby at_11) ?_
        show Steps p.tables e below (s₁.setTop (mkF m 14 #[.val (.int pa), .val (.int pb), .val (.int pq), .val (.int (0 : Int32)), .unset, .unset, .unset, .unset, .unset] [(.int (511 : Int32)), (.int (0 : Int32))])) t
        refine XS.ior X0.here hx rfl (hb hby at_14) rfl ?_
        show Steps p.tables e below (s₁.setTop (mkF m 15 #[.val (.int pa), .val (.int pb), .val (.int pq), .val (.int (0 : Int32)), .unset, .unset, .unset, .unset, .unset] [(.int ((0 : Int32) ||| (511 : Int32)))])) t
        rw [show ((0 : Int32) ||| (511 : Int32)) = (511 : Int32) from by decide]
        show Steps p.tables e below (s₁.setTop (mkF m 15 #[.val (.int pa), .val (.int pb), .val (.int pq), .val (.int (0 : Int32)), .unset, .unset, .unset, .unset, .unset] [(.int (511 : Int32))])) t
        refine XS.istoreN X0.here hx rfl (hb hby at_15) rfl (l' := #[.val (.int pa), .val (.int pb), .val (.int pq), .val (.int (511 : Int32)), .unset, .unset, .unset, .unset, .unset]) rfl ?_
        exact k
      simp only [if_neg hc_2]
      exact R4
  obtain ⟨sl0, h_sl0⟩ : ∃ z, z = (if (((pq.toUInt32 >>> ((2 : Int32) &&& 31).toUInt32).toInt32) &&& (1 : Int32)) = (0 : Int32) then (0 : Int32) else (511 : Int32)) := ⟨_, rfl⟩
  rw [← h_sl0] at R2
  have R5 : ∀ t, Steps p.tables e below (s₁.setTop (mkF m 21 #[.val (.int pa), .val (.int pb), .val (.int pq), .val (.int sl0), .unset, .unset, .unset, .unset, .unset] [(.int (((pq.toUInt32 >>> ((3 : Int32) &&& 31).toUInt32).toInt32) &&& (1 : Int32)))])) t → Steps p.tables e below (s₁.setTop (entryFrame m #[(.int pa), (.int pb), (.int pq)] maxLocals)) t := by
    intro t k
    refine R2 t ?_
    show Steps p.tables e below (s₁.setTop (mkF m 16 #[.val (.int pa), .val (.int pb), .val (.int pq), .val (.int sl0), .unset, .unset, .unset, .unset, .unset] [])) t
    refine XS.iloadN X0.here hx rfl (hb hby at_16) rfl ?_
    show Steps p.tables e below (s₁.setTop (mkF m 17 #[.val (.int pa), .val (.int pb), .val (.int pq), .val (.int sl0), .unset, .unset, .unset, .unset, .unset] [(.int pq)])) t
    refine XS.iconst X0.here hx rfl (hb hby at_17) ?_
    show Steps p.tables e below (s₁.setTop (mkF m 18 #[.val (.int pa), .val (.int pb), .val (.int pq), .val (.int sl0), .unset, .unset, .unset, .unset, .unset] [(.int (3 : Int32)), (.int pq)])) t
    refine XS.iushr X0.here hx rfl (hb hby at_18) rfl ?_
    show Steps p.tables e below (s₁.setTop (mkF m 19 #[.val (.int pa), .val (.int pb), .val (.int pq), .val (.int sl0), .unset, .unset, .unset, .unset, .unset] [(.int ((pq.toUInt32 >>> ((3 : Int32) &&& 31).toUInt32).toInt32))])) t
    refine XS.iconst X0.here hx rfl (hb hby at_19) ?_
    show Steps p.tables e below (s₁.setTop (mkF m 20 #[.val (.int pa), .val (.int pb), .val (.int pq), .val (.int sl0), .unset, .unset, .unset, .unset, .unset] [(.int (1 : Int32)), (.int ((pq.toUInt32 >>> ((3 : Int32) &&& 31).toUInt32).toInt32))])) t
    refine XS.iand X0.here hx rfl (hb hby at_20) rfl ?_
    exact k
  have R6 : ∀ t, Steps p.tables e below (s₁.setTop (mkF m 29 #[.val (.int pa), .val (.int pb), .val (.int pq), .val (.int (if (((pq.toUInt32 >>> ((3 : Int32) &&& 31).toUInt32).toInt32) &&& (1 : Int32)) = (0 : Int32) then sl0 else (sl0 ||| (261632 : Int32)))), .unset, .unset, .unset, .unset, .unset] [])) t → Steps p.tables e below (s₁.setTop (entryFrame m #[(.int pa), (.int pb), (.int pq)] maxLocals)) t := by
    by_cases hc_6 : (((pq.toUInt32 >>> ((3 : Int32) &&& 31).toUInt32).toInt32) &&& (1 : Int32)) = (0 : Int32)
    · have R7 : ∀ t, Steps p.tables e below (s₁.setTop (mkF m 29 #[.val (.int pa), .val (.int pb), .val (.int pq), .val (.int sl0), .unset, .unset, .unset, .unset, .unset] [])) t → Steps p.tables e below (s₁.setTop (entryFrame m #[(.int pa), (.int pb), (.int pq)] maxLocals)) t := by
        intro t k
        refine R5 t ?_
        show Steps p.tables e below (s₁.setTop (mkF m 21 #[.val (.int pa), .val (.int pb), .val (.int pq), .val (.int sl0), .unset, .unset, .unset, .unset, .unset] [(.int (((pq.toUInt32 >>> ((3 : Int32) &&& 31).toUInt32).toInt32) &&& (1 : Int32)))])) t
        refine XS.ifYes X0.here hx rfl (pc0 := 21) (pc' := 29) rfl (hb hby at_21) rfl ((if0 _ _).trans (teq (hc_6 : (((pq.toUInt32 >>> ((3 : Int32) &&& 31).toUInt32).toInt32) &&& (1 : Int32)) = (0 : Int32))).1) (by decide) (by decide) ?_
        exact k
      simp only [if_pos hc_6]
      exact R7
    · have R8 : ∀ t, Steps p.tables e below (s₁.setTop (mkF m 29 #[.val (.int pa), .val (.int pb), .val (.int pq), .val (.int (sl0 ||| (261632 : Int32))), .unset, .unset, .unset, .unset, .unset] [])) t → Steps p.tables e below (s₁.setTop (entryFrame m #[(.int pa), (.int pb), (.int pq)] maxLocals)) t := by
        intro t k
        refine R5 t ?_
        show Steps p.tables e below (s₁.setTop (mkF m 21 #[.val (.int pa), .val (.int pb), .val (.int pq), .val (.int sl0), .unset, .unset, .unset, .unset, .unset] [(.int (((pq.toUInt32 >>> ((3 : Int32) &&& 31).toUInt32).toInt32) &&& (1 : Int32)))])) t
        refine XS.ifNo X0.here hx rfl (hb hby at_21) rfl ((if0 _ _).trans (feq (hc_6 : ¬ ((((pq.toUInt32 >>> ((3 : Int32) &&& 31).toUInt32).toInt32) &&& (1 : Int32)) = (0 : Int32)))).1) ?_
        show Steps p.tables e below (s₁.setTop (mkF m 24 #[.val (.int pa), .val (.int pb), .val (.int pq), .val (.int sl0), .unset, .unset, .unset, .unset, .unset] [])) t
        refine XS.iloadN X0.here hx rfl (hb hby at_24) rfl ?_
        show Steps p.tables e below (s₁.setTop (mkF m 25 #[.val (.int pa), .val (.int pb), .val (.int pq), .val (.int sl0), .unset, .unset, .unset, .unset, .unset] [(.int sl0)])) t
        refine X0.ldcInt hx hown0 (mvT hZ0 (hw _ (List.mem_of_getElem? (i := 75) rfl))) (g := (mkF m 25 #[.val (.int pa), .val (.int pb), .val (.int pq), .val (.int sl0), .unset, .unset, .unset, .unset, .unset] [(.int sl0)])) rfl (hb hby at_25) _ ?_
        show Steps p.tables e below (s₁.setTop (mkF m 27 #[.val (.int pa), .val (.int pb), .val (.int pq), .val (.int sl0), .unset, .unset, .unset, .unset, .unset] [(.int (261632 : Int32)), (.int sl0)])) t
        refine XS.ior X0.here hx rfl (hb hby at_27) rfl ?_
        show Steps p.tables e below (s₁.setTop (mkF m 28 #[.val (.int pa), .val (.int pb), .val (.int pq), .val (.int sl0), .unset, .unset, .unset, .unset, .unset] [(.int (sl0 ||| (261632 : Int32)))])) t
        refine XS.istoreN X0.here hx rfl (hb hby at_28) rfl (l' := #[.val (.int pa), .val (.int pb), .val (.int pq), .val (.int (sl0 ||| (261632 : Int32))), .unset, .unset, .unset, .unset, .unset]) rfl ?_
        exact k
      simp only [if_neg hc_6]
      exact R8
  obtain ⟨sl1, h_sl1⟩ : ∃ z, z = (if (((pq.toUInt32 >>> ((3 : Int32) &&& 31).toUInt32).toInt32) &&& (1 : Int32)) = (0 : Int32) then sl0 else (sl0 ||| (261632 : Int32))) := ⟨_, rfl⟩
  rw [← h_sl1] at R6
  have R9 : ∀ t, Steps p.tables e below (s₁.setTop (mkF m 34 #[.val (.int pa), .val (.int pb), .val (.int pq), .val (.int sl1), .unset, .unset, .unset, .unset, .unset] [(.int (((pq.toUInt32 >>> ((4 : Int32) &&& 31).toUInt32).toInt32) &&& (1 : Int32)))])) t → Steps p.tables e below (s₁.setTop (entryFrame m #[(.int pa), (.int pb), (.int pq)] maxLocals)) t := by
    intro t k
    refine R6 t ?_
    show Steps p.tables e below (s₁.setTop (mkF m 29 #[.val (.int pa), .val (.int pb), .val (.int pq), .val (.int sl1), .unset, .unset, .unset, .unset, .unset] [])) t
    refine XS.iloadN X0.here hx rfl (hb hby at_29) rfl ?_
    show Steps p.tables e below (s₁.setTop (mkF m 30 #[.val (.int pa), .val (.int pb), .val (.int pq), .val (.int sl1), .unset, .unset, .unset, .unset, .unset] [(.int pq)])) t
    refine XS.iconst X0.here hx rfl (hb hby at_30) ?_
    show Steps p.tables e below (s₁.setTop (mkF m 31 #[.val (.int pa), .val (.int pb), .val (.int pq), .val (.int sl1), .unset, .unset, .unset, .unset, .unset] [(.int (4 : Int32)), (.int pq)])) t
    refine XS.iushr X0.here hx rfl (hb hby at_31) rfl ?_
    show Steps p.tables e below (s₁.setTop (mkF m 32 #[.val (.int pa), .val (.int pb), .val (.int pq), .val (.int sl1), .unset, .unset, .unset, .unset, .unset] [(.int ((pq.toUInt32 >>> ((4 : Int32) &&& 31).toUInt32).toInt32))])) t
    refine XS.iconst X0.here hx rfl (hb hby at_32) ?_
    show Steps p.tables e below (s₁.setTop (mkF m 33 #[.val (.int pa), .val (.int pb), .val (.int pq), .val (.int sl1), .unset, .unset, .unset, .unset, .unset] [(.int (1 : Int32)), (.int ((pq.toUInt32 >>> ((4 : Int32) &&& 31).toUInt32).toInt32))])) t
    refine XS.iand X0.here hx rfl (hb hby at_33) rfl ?_
    exact k
  have R10 : ∀ t, Steps p.tables e below (s₁.setTop (mkF m 42 #[.val (.int pa), .val (.int pb), .val (.int pq), .val (.int (if (((pq.toUInt32 >>> ((4 : Int32) &&& 31).toUInt32).toInt32) &&& (1 : Int32)) = (0 : Int32) then sl1 else (sl1 ||| (133955584 : Int32)))), .unset, .unset, .unset, .unset, .unset] [])) t → Steps p.tables e below (s₁.setTop (entryFrame m #[(.int pa), (.int pb), (.int pq)] maxLocals)) t := by
    by_cases hc_10 : (((pq.toUInt32 >>> ((4 : Int32) &&& 31).toUInt32).toInt32) &&& (1 : Int32)) = (0 : Int32)
    · have R11 : ∀ t, Steps p.tables e below (s₁.setTop (mkF m 42 #[.val (.int pa), .val (.int pb), .val (.int pq), .val (.int sl1), .unset, .unset, .unset, .unset, .unset] [])) t → Steps p.tables e below (s₁.setTop (entryFrame m #[(.int pa), (.int pb), (.int pq)] maxLocals)) t := by
        intro t k
        refine R9 t ?_
        show Steps p.tables e below (s₁.setTop (mkF m 34 #[.val (.int pa), .val (.int pb), .val (.int pq), .val (.int sl1), .unset, .unset, .unset, .unset, .unset] [(.int (((pq.toUInt32 >>> ((4 : Int32) &&& 31).toUInt32).toInt32) &&& (1 : Int32)))])) t
        refine XS.ifYes X0.here hx rfl (pc0 := 34) (pc' := 42) rfl (hb hby at_34) rfl ((if0 _ _).trans (teq (hc_10 : (((pq.toUInt32 >>> ((4 : Int32) &&& 31).toUInt32).toInt32) &&& (1 : Int32)) = (0 : Int32))).1) (by decide) (by decide) ?_
        exact k
      simp only [if_pos hc_10]
      exact R11
    · have R12 : ∀ t, Steps p.tables e below (s₁.setTop (mkF m 42 #[.val (.int pa), .val (.int pb), .val (.int pq), .val (.int (sl1 ||| (133955584 : Int32))), .unset, .unset, .unset, .unset, .unset] [])) t → Steps p.tables e below (s₁.setTop (entryFrame m #[(.int pa), (.int pb), (.int pq)] maxLocals)) t := by
        intro t k
        refine R9 t ?_
        show Steps p.tables e below (s₁.setTop (mkF m 34 #[.val (.int pa), .val (.int pb), .val (.int pq), .val (.int sl1), .unset, .unset, .unset, .unset, .unset] [(.int (((pq.toUInt32 >>> ((4 : Int32) &&& 31).toUInt32).toInt32) &&& (1 : Int32)))])) t
        refine XS.ifNo X0.here hx rfl (hb hby at_34) rfl ((if0 _ _).trans (feq (hc_10 : ¬ ((((pq.toUInt32 >>> ((4 : Int32) &&& 31).toUInt32).toInt32) &&& (1 : Int32)) = (0 : Int32)))).1) ?_
        show Steps p.tables e below (s₁.setTop (mkF m 37 #[.val (.int pa), .val (.int pb), .val (.int pq), .val (.int sl1), .unset, .unset, .unset, .unset, .unset] [])) t
        refine XS.iloadN X0.here hx rfl (hb hby at_37) rfl ?_
        show Steps p.tables e below (s₁.setTop (mkF m 38 #[.val (.int pa), .val (.int pb), .val (.int pq), .val (.int sl1), .unset, .unset, .unset, .unset, .unset] [(.int sl1)])) t
        refine X0.ldcInt hx hown0 (mvT hZ0 (hw _ (List.mem_of_getElem? (i := 77) rfl))) (g := (mkF m 38 #[.val (.int pa), .val (.int pb), .val (.int pq), .val (.int sl1), .unset, .unset, .unset, .unset, .unset] [(.int sl1)])) rfl (hb hby at_38) _ ?_
        show Steps p.tables e below (s₁.setTop (mkF m 40 #[.val (.int pa), .val (.int pb), .val (.int pq), .val (.int sl1), .unset, .unset, .unset, .unset, .unset] [(.int (133955584 : Int32)), (.int sl1)])) t
        refine XS.ior X0.here hx rfl (hb hby at_40) rfl ?_
        show Steps p.tables e below (s₁.setTop (mkF m 41 #[.val (.int pa), .val (.int pb), .val (.int pq), .val (.int sl1), .unset, .unset, .unset, .unset, .unset] [(.int (sl1 ||| (133955584 : Int32)))])) t
        refine XS.istoreN X0.here hx rfl (hb hby at_41) rfl (l' := #[.val (.int pa), .val (.int pb), .val (.int pq), .val (.int (sl1 ||| (133955584 : Int32))), .unset, .unset, .unset, .unset, .unset]) rfl ?_
        exact k
      simp only [if_neg hc_10]
      exact R12
  obtain ⟨sl2, h_sl2⟩ : ∃ z, z = (if (((pq.toUInt32 >>> ((4 : Int32) &&& 31).toUInt32).toInt32) &&& (1 : Int32)) = (0 : Int32) then sl1 else (sl1 ||| (133955584 : Int32))) := ⟨_, rfl⟩
  rw [← h_sl2] at R10
  obtain ⟨T13, h13, X13, e13, E13, A13, D13, -, st13⟩ := newO X0 hx hZ0 hown0 (hw _ (List.mem_of_getElem? (i := 0) rfl)) (hw _ (List.mem_of_getElem? (i := 1) rfl)) (hw _ (List.mem_of_getElem? (i := 2) rfl)) e0 (g := (mkF m 49 #[.val (.int pa), .val (.int pb), .val (.int pq), .val (.int sl2), .val (.int (pa ^^^ (pb &&& sl2))), .unset, .unset, .unset, .unset] [])) rfl (hb hby at_49) (by decide) (by decide)
  obtain ⟨b13, gg13⟩ : ∃ z, z = h0.size := ⟨_, rfl⟩
  rw [← gg13] at A13 D13 st13
  have g_b13 : n0 ≤ b13 := Nat.le_trans Z0 (Nat.le_of_eq gg13.symm)
  have sz_b13 : h0.size ≤ b13 := Nat.le_trans K0.1 (Nat.le_of_eq gg13.symm)
  have nl_b13 : NN ≤ b13 := Nat.le_trans hL0.1 (Nat.le_of_eq gg13.symm)
  have hL13 := hL0.ext E13
  have Z13 : n0 ≤ h13.size := Nat.le_trans Z0 E13.1
  have K13 : Keep h0 h13 [] := K0.ext E13
  have O13 : Old Z n0 h13 := O0.ext E13
  have hk13 := Nat.le_trans hk0 E13.1
  have F13_item : Fld Z h13 b13 "com/example/relayout/relayout/plan/Transfer" "item" "Ljava/lang/String;" .null := D13 (Or.inr (hw _ (List.mem_of_getElem? (i := 46) rfl))) (ty := (.object "java/lang/String")) (by decide)
  have F13_from : Fld Z h13 b13 "com/example/relayout/relayout/plan/Transfer" "from" "Ljava/lang/String;" .null := D13 (Or.inr (hw _ (List.mem_of_getElem? (i := 49) rfl))) (ty := (.object "java/lang/String")) (by decide)
  have F13_to : Fld Z h13 b13 "com/example/relayout/relayout/plan/Transfer" "to" "Ljava/lang/String;" .null := D13 (Or.inr (hw _ (List.mem_of_getElem? (i := 52) rfl))) (ty := (.object "java/lang/String")) (by decide)
  have R14 : ∀ t, Steps p.tables e below (T13.setTop (mkF m 54 #[.val (.int pa), .val (.int pb), .val (.int pq), .val (.int sl2), .val (.int (pa ^^^ (pb &&& sl2))), .unset, .unset, .unset, .unset] [(.int pa), (.ref b13), (.ref b13)])) t → Steps p.tables e below (s₁.setTop (entryFrame m #[(.int pa), (.int pb), (.int pq)] maxLocals)) t := by
    intro t k
    refine R10 t ?_
    show Steps p.tables e below (s₁.setTop (mkF m 42 #[.val (.int pa), .val (.int pb), .val (.int pq), .val (.int sl2), .unset, .unset, .unset, .unset, .unset] [])) t
    refine XS.iloadN X0.here hx rfl (hb hby at_42) rfl ?_
    show Steps p.tables e below (s₁.setTop (mkF m 43 #[.val (.int pa), .val (.int pb), .val (.int pq), .val (.int sl2), .unset, .unset, .unset, .unset, .unset] [(.int pa)])) t
    refine XS.iloadN X0.here hx rfl (hb hby at_43) rfl ?_
    show Steps p.tables e below (s₁.setTop (mkF m 44 #[.val (.int pa), .val (.int pb), .val (.int pq), .val (.int sl2), .unset, .unset, .unset, .unset, .unset] [(.int pb), (.int pa)])) t
    refine XS.iloadN X0.here hx rfl (hb hby at_44) rfl ?_
    show Steps p.tables e below (s₁.setTop (mkF m 45 #[.val (.int pa), .val (.int pb), .val (.int pq), .val (.int sl2), .unset, .unset, .unset, .unset, .unset] [(.int sl2), (.int pb), (.int pa)])) t
    refine XS.iand X0.here hx rfl (hb hby at_45) rfl ?_
    show Steps p.tables e below (s₁.setTop (mkF m 46 #[.val (.int pa), .val (.int pb), .val (.int pq), .val (.int sl2), .unset, .unset, .unset, .unset, .unset] [(.int (pb &&& sl2)), (.int pa)])) t
    refine XS.ixor X0.here hx rfl (hb hby at_46) rfl ?_
    show Steps p.tables e below (s₁.setTop (mkF m 47 #[.val (.int pa), .val (.int pb), .val (.int pq), .val (.int sl2), .unset, .unset, .unset, .unset, .unset] [(.int (pa ^^^ (pb &&& sl2)))])) t
    refine XS.istore X0.here hx rfl (hb hby at_47) rfl (l' := #[.val (.int pa), .val (.int pb), .val (.int pq), .val (.int sl2), .val (.int (pa ^^^ (pb &&& sl2))), .unset, .unset, .unset, .unset]) rfl ?_
    show Steps p.tables e below (s₁.setTop (mkF m 49 #[.val (.int pa), .val (.int pb), .val (.int pq), .val (.int sl2), .val (.int (pa ^^^ (pb &&& sl2))), .unset, .unset, .unset, .unset] [])) t
    refine st13 _ ?_
    show Steps p.tables e below (T13.setTop (mkF m 52 #[.val (.int pa), .val (.int pb), .val (.int pq), .val (.int sl2), .val (.int (pa ^^^ (pb &&& sl2))), .unset, .unset, .unset, .unset] [(.ref b13)])) t
    refine XS.dup X13.here hx rfl (hb hby at_52) rfl rfl ?_
    show Steps p.tables e below (T13.setTop (mkF m 53 #[.val (.int pa), .val (.int pb), .val (.int pq), .val (.int sl2), .val (.int (pa ^^^ (pb &&& sl2))), .unset, .unset, .unset, .unset] [(.ref b13), (.ref b13)])) t
    refine XS.iloadN X13.here hx rfl (hb hby at_53) rfl ?_
    exact k
  obtain ⟨dd, h_dd⟩ : ∃ z, z = (pa ^^^ (pb &&& sl2)) := ⟨_, rfl⟩
  have R15 := R14
  rw [← h_dd] at R15
  obtain ⟨_, _, ⟨T16, L16, k16, n16⟩, -, X16q, hS16q, hg16q, ⟨Lc16, hQ16, cl_16, cy_16, cz_16⟩, st16⟩ := callSS X13 hx (y := (⟨"com/example/relayout/relayout/plan/TransferEqualsPinLaw", "id", "(I)Ljava/lang/String;"⟩ : MethodName)) hown0 (mvT hZ0 (hw _ (List.mem_of_getElem? (i := 3) rfl))) (mvT hZ0 (hw _ (List.mem_of_getElem? (i := 4) rfl))) (mvT hZ0 (hw _ (List.mem_of_getElem? (i := 5) rfl))) (mvT hZ0 (hw _ (List.mem_of_getElem? (i := 6) rfl))) (by decide) (own_backV (W := 2) (Pv := fun vm_ => LS Z "com/example/relayout/relayout/plan/TransferEqualsPinLaw" 7 [] vm_ h13 NN) (idc l Z a0 hw [] zCS wcI ccI pa [] NN h13 n0 O13 S_CS hCS hcT0 hcT1 hcT2 hcH hcW S_cI B_cI S_hi   ) hZ0 (fun vm_ hW_ => LS.warm (s := s) hL13 hW_) (hw _ (List.mem_of_getElem? (i := 6) rfl)) (hw _ (List.mem_of_getElem? (i := 5) rfl)) (by decide) (by decide)) (g := (mkF m 54 #[.val (.int pa), .val (.int pb), .val (.int pq), .val (.int sl2), .val (.int dd), .unset, .unset, .unset, .unset] [(.int pa), (.ref b13), (.ref b13)])) rfl (by rw [hml]; rfl) (argsL := [(.int pa)]) (rest := [(.ref b13), (.ref b13)]) (lenOf pd_9 rfl) rfl (by show 2 * 0 + _ ≤ _; exact Nat.le_of_eq rfl) (hb hby at_54) (fun _ _ => ⟨rfl, e13, (by decide : 1 + 2 ≤ _), (by decide : 3 + 5 ≤ _)⟩)
  dsimp only [Pt.U, Pt.locs, Pt.cells, Pt.slots] at X16q cl_16 cy_16 cz_16 st16 hQ16 hS16q hg16q
  rw [cl_16, cy_16, cz_16] at X16q
  obtain ⟨X16, hS16, hZ16, hown16⟩ := rebS hS0 (by rw [e13]; exact hk13) X16q hS16q hg16q hZ0 hown0
  have hk16 := Nat.le_refl T16.heap.size
  obtain ⟨b16, tt16, kb16, nn16, vs16, rfl, N16q, K16q, y16_0, y16_1, y16_2, y16_3, y16_4, hL16⟩ := hQ16
  have N16 := Fr.app N0 N16q
  have Z16 : n0 ≤ T16.heap.size := Nat.le_trans Z13 K16q.1
  have K16 : Keep h0 T16.heap [] := K13.trans K16q all0
  have O16 : Old Z n0 T16.heap := O13.keep K16q all0
  have f17 : Exa Z T16.heap b13 "com/example/relayout/relayout/plan/Transfer" := (A13.keep K16q)
  have ne_b13_b16 : b13 ≠ b16 := ne_exa f17 y16_0 (by decide)
  have ne_b13_tt16 : b13 ≠ tt16 := f17.neArv y16_3 (hw _ (List.mem_of_getElem? (i := 1) rfl))
  have ne_b16_tt16 : b16 ≠ tt16 := y16_0.neArv y16_3 (hw _ (List.mem_of_getElem? (i := 17) rfl))
  have CC0 := y16_4
  obtain ⟨_, _, ⟨T18, L18, k18, n18⟩, -, X18q, hS18q, hg18q, ⟨Lc18, hQ18, cl_18, cy_18, cz_18⟩, st18⟩ := callSS X16 hx (y := (⟨"com/example/relayout/relayout/plan/TransferEqualsPinLaw", "id", "(I)Ljava/lang/String;"⟩ : MethodName)) hown16 (mvT hZ16 (hw _ (List.mem_of_getElem? (i := 3) rfl))) (mvT hZ16 (hw _ (List.mem_of_getElem? (i := 4) rfl))) (mvT hZ16 (hw _ (List.mem_of_getElem? (i := 5) rfl))) (mvT hZ16 (hw _ (List.mem_of_getElem? (i := 6) rfl))) (by decide) (own_backV (W := 3) (Pv := fun vm_ => LS Z "com/example/relayout/relayout/plan/TransferEqualsPinLaw" 7 [] vm_ T16.heap T16.heap.size) (idc l Z a0 hw [] zCS wcI ccI ((pa.toUInt32 >>> ((9 : Int32) &&& 31).toUInt32).toInt32) [] T16.heap.size T16.heap n0 O16 S_CS hCS hcT0 hcT1 hcT2 hcH hcW S_cI B_cI S_hi   ) hZ16 (fun vm_ hW_ => LS.warm (s := s) hL16 hW_) (hw _ (List.mem_of_getElem? (i := 6) rfl)) (hw _ (List.mem_of_getElem? (i := 5) rfl)) (by decide) (by decide)) (g := (mkF m 61 #[.val (.int pa), .val (.int pb), .val (.int pq), .val (.int sl2), .val (.int dd), .unset, .unset, .unset, .unset] [(.int ((pa.toUInt32 >>> ((9 : Int32) &&& 31).toUInt32).toInt32)), (.ref b16), (.ref b13), (.ref b13)])) rfl (by rw [hml]; rfl) (argsL := [(.int ((pa.toUInt32 >>> ((9 : Int32) &&& 31).toUInt32).toInt32))]) (rest := [(.ref b16), (.ref b13), (.ref b13)]) (lenOf pd_9 rfl) rfl (by show 2 * 0 + _ ≤ _; exact Nat.le_of_eq rfl) (hb hby at_61) (fun _ _ => ⟨rfl, rfl, (by decide : 3 + 2 ≤ _), (by decide : 8 + 5 ≤ _)⟩)
  dsimp only [Pt.U, Pt.locs, Pt.cells, Pt.slots] at X18q cl_18 cy_18 cz_18 st18 hQ18 hS18q hg18q
  rw [cl_18, cy_18, cz_18] at X18q
  obtain ⟨X18, hS18, hZ18, hown18⟩ := rebS hS16 hk16 X18q hS18q hg18q hZ16 hown16
  have hk18 := Nat.le_refl T18.heap.size
  obtain ⟨b18, tt18, kb18, nn18, vs18, rfl, N18q, K18q, y18_0, y18_1, y18_2, y18_3, y18_4, hL18⟩ := hQ18
  have N18 := Fr.app N16 N18q
  have Z18 : n0 ≤ T18.heap.size := Nat.le_trans Z16 K18q.1
  have K18 : Keep h0 T18.heap [] := K16.trans K18q all0
  have O18 : Old Z n0 T18.heap := O16.keep K18q all0
  have f19 : Exa Z T18.heap b13 "com/example/relayout/relayout/plan/Transfer" := (f17.keep K18q)
  have ne_b13_b18 : b13 ≠ b18 := ne_exa f19 y18_0 (by decide)
  have ne_b13_tt18 : b13 ≠ tt18 := f19.neArv y18_3 (hw _ (List.mem_of_getElem? (i := 1) rfl))
  have f20 : Exa Z T18.heap b16 "java/lang/String" := (y16_0.keep K18q)
  have ne_b16_tt18 : b16 ≠ tt18 := f20.neArv y18_3 (hw _ (List.mem_of_getElem? (i := 17) rfl))
  have ne_b18_tt18 : b18 ≠ tt18 := y18_0.neArv y18_3 (hw _ (List.mem_of_getElem? (i := 17) rfl))
  have CC1 := y18_4
  obtain ⟨_, _, ⟨T21, L21, k21, n21⟩, -, X21q, hS21q, hg21q, ⟨Lc21, hQ21, cl_21, cy_21, cz_21⟩, st21⟩ := callSS X18 hx (y := (⟨"com/example/relayout/relayout/plan/TransferEqualsPinLaw", "id", "(I)Ljava/lang/String;"⟩ : MethodName)) hown18 (mvT hZ18 (hw _ (List.mem_of_getElem? (i := 3) rfl))) (mvT hZ18 (hw _ (List.mem_of_getElem? (i := 4) rfl))) (mvT hZ18 (hw _ (List.mem_of_getElem? (i := 5) rfl))) (mvT hZ18 (hw _ (List.mem_of_getElem? (i := 6) rfl))) (by decide) (own_backV (W := 4) (Pv := fun vm_ => LS Z "com/example/relayout/relayout/plan/TransferEqualsPinLaw" 7 [] vm_ T18.heap T18.heap.size) (idc l Z a0 hw [] zCS wcI ccI ((pa.toUInt32 >>> ((18 : Int32) &&& 31).toUInt32).toInt32) [] T18.heap.size T18.heap n0 O18 S_CS hCS hcT0 hcT1 hcT2 hcH hcW S_cI B_cI S_hi   ) hZ18 (fun vm_ hW_ => LS.warm (s := s) hL18 hW_) (hw _ (List.mem_of_getElem? (i := 6) rfl)) (hw _ (List.mem_of_getElem? (i := 5) rfl)) (by decide) (by decide)) (g := (mkF m 68 #[.val (.int pa), .val (.int pb), .val (.int pq), .val (.int sl2), .val (.int dd), .unset, .unset, .unset, .unset] [(.int ((pa.toUInt32 >>> ((18 : Int32) &&& 31).toUInt32).toInt32)), (.ref b18), (.ref b16), (.ref b13), (.ref b13)])) rfl (by rw [hml]; rfl) (argsL := [(.int ((pa.toUInt32 >>> ((18 : Int32) &&& 31).toUInt32).toInt32))]) (rest := [(.ref b18), (.ref b16), (.ref b13), (.ref b13)]) (lenOf pd_9 rfl) rfl (by show 2 * 0 + _ ≤ _; exact Nat.le_of_eq rfl) (hb hby at_68) (fun _ _ => ⟨rfl, rfl, (by decide : 5 + 2 ≤ _), (by decide : 13 + 5 ≤ _)⟩)
  dsimp only [Pt.U, Pt.locs, Pt.cells, Pt.slots] at X21q cl_21 cy_21 cz_21 st21 hQ21 hS21q hg21q
  rw [cl_21, cy_21, cz_21] at X21q
  obtain ⟨X21, hS21, hZ21, hown21⟩ := rebS hS18 hk18 X21q hS21q hg21q hZ18 hown18
  have hk21 := Nat.le_refl T21.heap.size
  obtain ⟨b21, tt21, kb21, nn21, vs21, rfl, N21q, K21q, y21_0, y21_1, y21_2, y21_3, y21_4, hL21⟩ := hQ21
  have N21 := Fr.app N18 N21q
  have Z21 : n0 ≤ T21.heap.size := Nat.le_trans Z18 K21q.1
  have K21 : Keep h0 T21.heap [] := K18.trans K21q all0
  have O21 : Old Z n0 T21.heap := O18.keep K21q all0
  have f22 : Exa Z T21.heap b13 "com/example/relayout/relayout/plan/Transfer" := (f19.keep K21q)
  have ne_b13_b21 : b13 ≠ b21 := ne_exa f22 y21_0 (by decide)
  have ne_b13_tt21 : b13 ≠ tt21 := f22.neArv y21_3 (hw _ (List.mem_of_getElem? (i := 1) rfl))
  have f23 : Exa Z T21.heap b16 "java/lang/String" := (f20.keep K21q)
  have ne_b16_tt21 : b16 ≠ tt21 := f23.neArv y21_3 (hw _ (List.mem_of_getElem? (i := 17) rfl))
  have f24 : Exa Z T21.heap b18 "java/lang/String" := (y18_0.keep K21q)
  have ne_b18_tt21 : b18 ≠ tt21 := f24.neArv y21_3 (hw _ (List.mem_of_getElem? (i := 17) rfl))
  have ne_b21_tt21 : b21 ≠ tt21 := y21_0.neArv y21_3 (hw _ (List.mem_of_getElem? (i := 17) rfl))
  have CC2 := y21_4
  have f26 : Fld Z T21.heap b13 "com/example/relayout/relayout/plan/Transfer" "item" "Ljava/lang/String;" .null := (((F13_item.keep K16q nin0).keep K18q nin0).keep K21q nin0)
  have f27 : Fld Z T21.heap b13 "com/example/relayout/relayout/plan/Transfer" "from" "Ljava/lang/String;" .null := (((F13_from.keep K16q nin0).keep K18q nin0).keep K21q nin0)
  have f28 : Fld Z T21.heap b13 "com/example/relayout/relayout/plan/Transfer" "to" "Ljava/lang/String;" .null := (((F13_to.keep K16q nin0).keep K18q nin0).keep K21q nin0)
  obtain ⟨_, _, ⟨T25, L25, k25, n25⟩, -, X25q, hS25q, hg25q, ⟨Lc25, hQ25, cl_25, cy_25, cz_25⟩, st25⟩ := X21.specialBackS hx (y := (⟨"com/example/relayout/relayout/plan/Transfer", "<init>", "(Ljava/lang/String;Ljava/lang/String;Ljava/lang/String;)V"⟩ : MethodName)) rfl hown21 (mvT hZ21 (hw _ (List.mem_of_getElem? (i := 33) rfl))) (mvT hZ21 (hw _ (List.mem_of_getElem? (i := 34) rfl))) (mvT hZ21 (hw _ (List.mem_of_getElem? (i := 35) rfl))) (by decide) (own_backV (W := 1) (Pv := fun vm_ => LS Z "com/example/relayout/relayout/plan/TransferEqualsPinLaw" 7 [] vm_ T21.heap T21.heap.size) (tinit l Z a0 hw [] zCS wcI ccI b13 b16 b18 b21 .null .null .null T21.heap.size T21.heap n0 O21 S_CS hCS hcT0 hcT1 hcT2 hcH hcW S_cI B_cI S_hi g_b13  f22 f26 f27 f28 f23 f24 y21_0) hZ21 (fun vm_ hW_ => LS.warm (s := s) hL21 hW_) (hw _ (List.mem_of_getElem? (i := 35) rfl)) (hw _ (List.mem_of_getElem? (i := 2) rfl)) (by decide) (by decide)) (g := (mkF m 71 #[.val (.int pa), .val (.int pb), .val (.int pq), .val (.int sl2), .val (.int dd), .unset, .unset, .unset, .unset] [(.ref b21), (.ref b18), (.ref b16), (.ref b13), (.ref b13)])) rfl (by rw [hml]; rfl) (Steps.refl _) (a := b13) (argsL := [(.ref b16), (.ref b18), (.ref b21)]) (rest := [(.ref b13)]) (lenOf pd_10 rfl) rfl (by show 2 * 0 + _ ≤ _; exact Nat.le_of_eq rfl) (hb hby at_71) (fun _ _ => ⟨rfl, rfl, (by decide : 7 + 6 ≤ _), (by decide : 18 + 52 ≤ _)⟩)
  dsimp only [Pt.U, Pt.locs, Pt.cells, Pt.slots] at X25q cl_25 cy_25 cz_25 st25 hQ25 hS25q hg25q
  rw [cl_25, cy_25, cz_25] at X25q
  obtain ⟨X25, hS25, hZ25, hown25⟩ := rebS hS21 hk21 X25q hS25q hg25q hZ21 hown21
  have hk25 := Nat.le_refl T25.heap.size
  obtain ⟨rfl, N25q, K25q, y25_0, y25_1, y25_2, y25_3, hL25⟩ := hQ25
  have N25 := Fr.app N21 N25q
  have Z25 : n0 ≤ T25.heap.size := Nat.le_trans Z21 K25q.1
  have K25 : Keep h0 T25.heap [] := K21.trans K25q (allS (Or.inr sz_b13) all0)
  have O25 : Old Z n0 T25.heap := O21.keep K25q (allS g_b13 all0)
  obtain ⟨T29, h29, X29, e29, E29, A29, D29, -, st29⟩ := newO X25 hx hZ25 hown25 (hw _ (List.mem_of_getElem? (i := 0) rfl)) (hw _ (List.mem_of_getElem? (i := 1) rfl)) (hw _ (List.mem_of_getElem? (i := 2) rfl)) rfl (g := (mkF m 76 #[.val (.int pa), .val (.int pb), .val (.int pq), .val (.int sl2), .val (.int dd), .val (.ref b13), .unset, .unset, .unset] [])) rfl (hb hby at_76) (by decide) (by decide)
  obtain ⟨b29, gg29⟩ : ∃ z, z = T25.heap.size := ⟨_, rfl⟩
  rw [← gg29] at A29 D29 st29
  have ne_b13_b29 : b13 ≠ b29 := Nat.ne_of_lt (Nat.lt_of_lt_of_le y25_0.lt (Nat.le_of_eq gg29.symm))
  have f30 : Exa Z T25.heap b16 "java/lang/String" := (f23.keep K25q)
  have ne_b16_b29 : b16 ≠ b29 := Nat.ne_of_lt (Nat.lt_of_lt_of_le f30.lt (Nat.le_of_eq gg29.symm))
  have f31 : Arv Z T25.heap tt16 kb16 .byte nn16 vs16 (.int 0) := (((y16_3.keep K18q nin0).keep K21q nin0).keep K25q (ninS (Ne.symm ne_b13_tt16) nin0))
  have ne_tt16_b29 : tt16 ≠ b29 := Nat.ne_of_lt (Nat.lt_of_lt_of_le f31.lt (Nat.le_of_eq gg29.symm))
  have f32 : Exa Z T25.heap b18 "java/lang/String" := (f24.keep K25q)
  have ne_b18_b29 : b18 ≠ b29 := Nat.ne_of_lt (Nat.lt_of_lt_of_le f32.lt (Nat.le_of_eq gg29.symm))
  have f33 : Arv Z T25.heap tt18 kb18 .byte nn18 vs18 (.int 0) := ((y18_3.keep K21q nin0).keep K25q (ninS (Ne.symm ne_b13_tt18) nin0))
  have ne_tt18_b29 : tt18 ≠ b29 := Nat.ne_of_lt (Nat.lt_of_lt_of_le f33.lt (Nat.le_of_eq gg29.symm))
  have f34 : Exa Z T25.heap b21 "java/lang/String" := (y21_0.keep K25q)
  have ne_b21_b29 : b21 ≠ b29 := Nat.ne_of_lt (Nat.lt_of_lt_of_le f34.lt (Nat.le_of_eq gg29.symm))
  have f35 : Arv Z T25.heap tt21 kb21 .byte nn21 vs21 (.int 0) := (y21_3.keep K25q (ninS (Ne.symm ne_b13_tt21) nin0))
  have ne_tt21_b29 : tt21 ≠ b29 := Nat.ne_of_lt (Nat.lt_of_lt_of_le f35.lt (Nat.le_of_eq gg29.symm))
  have g_b29 : n0 ≤ b29 := Nat.le_trans Z25 (Nat.le_of_eq gg29.symm)
  have sz_b29 : h0.size ≤ b29 := Nat.le_trans K25.1 (Nat.le_of_eq gg29.symm)
  have nl_b29 : T25.heap.size ≤ b29 := Nat.le_trans hL25.1 (Nat.le_of_eq gg29.symm)
  have hL29 := hL25.ext E29
  have Z29 : n0 ≤ h29.size := Nat.le_trans Z25 E29.1
  have K29 : Keep h0 h29 [] := K25.ext E29
  have O29 : Old Z n0 h29 := O25.ext E29
  have hk29 := Nat.le_trans hk25 E29.1
  have F29_item : Fld Z h29 b29 "com/example/relayout/relayout/plan/Transfer" "item" "Ljava/lang/String;" .null := D29 (Or.inr (hw _ (List.mem_of_getElem? (i := 46) rfl))) (ty := (.object "java/lang/String")) (by decide)
  have F29_from : Fld Z h29 b29 "com/example/relayout/relayout/plan/Transfer" "from" "Ljava/lang/String;" .null := D29 (Or.inr (hw _ (List.mem_of_getElem? (i := 49) rfl))) (ty := (.object "java/lang/String")) (by decide)
  have F29_to : Fld Z h29 b29 "com/example/relayout/relayout/plan/Transfer" "to" "Ljava/lang/String;" .null := D29 (Or.inr (hw _ (List.mem_of_getElem? (i := 52) rfl))) (ty := (.object "java/lang/String")) (by decide)
  obtain ⟨_, _, ⟨T36, L36, k36, n36⟩, -, X36q, hS36q, hg36q, ⟨Lc36, hQ36, cl_36, cy_36, cz_36⟩, st36⟩ := callSS X29 hx (y := (⟨"com/example/relayout/relayout/plan/TransferEqualsPinLaw", "id", "(I)Ljava/lang/String;"⟩ : MethodName)) hown25 (mvT hZ25 (hw _ (List.mem_of_getElem? (i := 3) rfl))) (mvT hZ25 (hw _ (List.mem_of_getElem? (i := 4) rfl))) (mvT hZ25 (hw _ (List.mem_of_getElem? (i := 5) rfl))) (mvT hZ25 (hw _ (List.mem_of_getElem? (i := 6) rfl))) (by decide) (own_backV (W := 2) (Pv := fun vm_ => LS Z "com/example/relayout/relayout/plan/TransferEqualsPinLaw" 7 ("to" :: ("from" :: ("item" :: []))) vm_ h29 T25.heap.size) (idc l Z a0 hw [] zCS wcI ccI dd ("to" :: ("from" :: ("item" :: []))) T25.heap.size h29 n0 O29 S_CS hCS hcT0 hcT1 hcT2 hcH hcW S_cI B_cI S_hi   ) hZ25 (fun vm_ hW_ => LS.warm (s := s) hL29 hW_) (hw _ (List.mem_of_getElem? (i := 6) rfl)) (hw _ (List.mem_of_getElem? (i := 5) rfl)) (by decide) (by decide)) (g := (mkF m 82 #[.val (.int pa), .val (.int pb), .val (.int pq), .val (.int sl2), .val (.int dd), .val (.ref b13), .unset, .unset, .unset] [(.int dd), (.ref b29), (.ref b29)])) rfl (by rw [hml]; rfl) (argsL := [(.int dd)]) (rest := [(.ref b29), (.ref b29)]) (lenOf pd_9 rfl) rfl (by show 2 * 0 + _ ≤ _; exact Nat.le_of_eq rfl) (hb hby at_82) (fun _ _ => ⟨rfl, e29, (by decide : 14 + 2 ≤ _), (by decide : 73 + 5 ≤ _)⟩)
  dsimp only [Pt.U, Pt.locs, Pt.cells, Pt.slots] at X36q cl_36 cy_36 cz_36 st36 hQ36 hS36q hg36q
  rw [cl_36, cy_36, cz_36] at X36q
  obtain ⟨X36, hS36, hZ36, hown36⟩ := rebS hS25 (by rw [e29]; exact hk29) X36q hS36q hg36q hZ25 hown25
  have hk36 := Nat.le_refl T36.heap.size
  obtain ⟨b36, tt36, kb36, nn36, vs36, rfl, N36q, K36q, y36_0, y36_1, y36_2, y36_3, y36_4, hL36⟩ := hQ36
  have N36 := Fr.app N25 N36q
  have Z36 : n0 ≤ T36.heap.size := Nat.le_trans Z29 K36q.1
  have K36 : Keep h0 T36.heap [] := K29.trans K36q all0
  have O36 : Old Z n0 T36.heap := O29.keep K36q all0
  have f37 : Exa Z T36.heap b13 "com/example/relayout/relayout/plan/Transfer" := ((y25_0.ext E29).keep K36q)
  have ne_b13_b36 : b13 ≠ b36 := ne_exa f37 y36_0 (by decide)
  have f38 : Exa Z T36.heap b29 "com/example/relayout/relayout/plan/Transfer" := (A29.keep K36q)
  have ne_b29_b36 : b29 ≠ b36 := ne_exa f38 y36_0 (by decide)
  have ne_b13_tt36 : b13 ≠ tt36 := f37.neArv y36_3 (hw _ (List.mem_of_getElem? (i := 1) rfl))
  have f39 : Exa Z T36.heap b16 "java/lang/String" := ((f30.ext E29).keep K36q)
  have ne_b16_tt36 : b16 ≠ tt36 := f39.neArv y36_3 (hw _ (List.mem_of_getElem? (i := 17) rfl))
  have f40 : Exa Z T36.heap b18 "java/lang/String" := ((f32.ext E29).keep K36q)
  have ne_b18_tt36 : b18 ≠ tt36 := f40.neArv y36_3 (hw _ (List.mem_of_getElem? (i := 17) rfl))
  have f41 : Exa Z T36.heap b21 "java/lang/String" := ((f34.ext E29).keep K36q)
  have ne_b21_tt36 : b21 ≠ tt36 := f41.neArv y36_3 (hw _ (List.mem_of_getElem? (i := 17) rfl))
  have ne_b29_tt36 : b29 ≠ tt36 := f38.neArv y36_3 (hw _ (List.mem_of_getElem? (i := 1) rfl))
  have ne_b36_tt36 : b36 ≠ tt36 := y36_0.neArv y36_3 (hw _ (List.mem_of_getElem? (i := 17) rfl))
  have CC3 := y36_4
  obtain ⟨_, _, ⟨T42, L42, k42, n42⟩, -, X42q, hS42q, hg42q, ⟨Lc42, hQ42, cl_42, cy_42, cz_42⟩, st42⟩ := callSS X36 hx (y := (⟨"com/example/relayout/relayout/plan/TransferEqualsPinLaw", "id", "(I)Ljava/lang/String;"⟩ : MethodName)) hown36 (mvT hZ36 (hw _ (List.mem_of_getElem? (i := 3) rfl))) (mvT hZ36 (hw _ (List.mem_of_getElem? (i := 4) rfl))) (mvT hZ36 (hw _ (List.mem_of_getElem? (i := 5) rfl))) (mvT hZ36 (hw _ (List.mem_of_getElem? (i := 6) rfl))) (by decide) (own_backV (W := 3) (Pv := fun vm_ => LS Z "com/example/relayout/relayout/plan/TransferEqualsPinLaw" 7 ("to" :: ("from" :: ("item" :: []))) vm_ T36.heap T36.heap.size) (idc l Z a0 hw [] zCS wcI ccI ((dd.toUInt32 >>> ((9 : Int32) &&& 31).toUInt32).toInt32) ("to" :: ("from" :: ("item" :: []))) T36.heap.size T36.heap n0 O36 S_CS hCS hcT0 hcT1 hcT2 hcH hcW S_cI B_cI S_hi   ) hZ36 (fun vm_ hW_ => LS.warm (s := s) hL36 hW_) (hw _ (List.mem_of_getElem? (i := 6) rfl)) (hw _ (List.mem_of_getElem? (i := 5) rfl)) (by decide) (by decide)) (g := (mkF m 90 #[.val (.int pa), .val (.int pb), .val (.int pq), .val (.int sl2), .val (.int dd), .val (.ref b13), .unset, .unset, .unset] [(.int ((dd.toUInt32 >>> ((9 : Int32) &&& 31).toUInt32).toInt32)), (.ref b36), (.ref b29), (.ref b29)])) rfl (by rw [hml]; rfl) (argsL := [(.int ((dd.toUInt32 >>> ((9 : Int32) &&& 31).toUInt32).toInt32))]) (rest := [(.ref b36), (.ref b29), (.ref b29)]) (lenOf pd_9 rfl) rfl (by show 2 * 0 + _ ≤ _; exact Nat.le_of_eq rfl) (hb hby at_90) (fun _ _ => ⟨rfl, rfl, (by decide : 16 + 2 ≤ _), (by decide : 78 + 5 ≤ _)⟩)
  dsimp only [Pt.U, Pt.locs, Pt.cells, Pt.slots] at X42q cl_42 cy_42 cz_42 st42 hQ42 hS42q hg42q
  rw [cl_42, cy_42, cz_42] at X42q
  obtain ⟨X42, hS42, hZ42, hown42⟩ := rebS hS36 hk36 X42q hS42q hg42q hZ36 hown36
  have hk42 := Nat.le_refl T42.heap.size
  obtain ⟨b42, tt42, kb42, nn42, vs42, rfl, N42q, K42q, y42_0, y42_1, y42_2, y42_3, y42_4, hL42⟩ := hQ42
  have N42 := Fr.app N36 N42q
  have Z42 : n0 ≤ T42.heap.size := Nat.le_trans Z36 K42q.1
  have K42 : Keep h0 T42.heap [] := K36.trans K42q all0
  have O42 : Old Z n0 T42.heap := O36.keep K42q all0
  have f43 : Exa Z T42.heap b13 "com/example/relayout/relayout/plan/Transfer" := (f37.keep K42q)
  have ne_b13_b42 : b13 ≠ b42 := ne_exa f43 y42_0 (by decide)
  have f44 : Exa Z T42.heap b29 "com/example/relayout/relayout/plan/Transfer" := (f38.keep K42q)
  have ne_b29_b42 : b29 ≠ b42 := ne_exa f44 y42_0 (by decide)
  have ne_b13_tt42 : b13 ≠ tt42 := f43.neArv y42_3 (hw _ (List.mem_of_getElem? (i := 1) rfl))
  have f45 : Exa Z T42.heap b16 "java/lang/String" := (f39.keep K42q)
  have ne_b16_tt42 : b16 ≠ tt42 := f45.neArv y42_3 (hw _ (List.mem_of_getElem? (i := 17) rfl))
  have f46 : Exa Z T42.heap b18 "java/lang/String" := (f40.keep K42q)
  have ne_b18_tt42 : b18 ≠ tt42 := f46.neArv y42_3 (hw _ (List.mem_of_getElem? (i := 17) rfl))
  have f47 : Exa Z T42.heap b21 "java/lang/String" := (f41.keep K42q)
  have ne_b21_tt42 : b21 ≠ tt42 := f47.neArv y42_3 (hw _ (List.mem_of_getElem? (i := 17) rfl))
  have ne_b29_tt42 : b29 ≠ tt42 := f44.neArv y42_3 (hw _ (List.mem_of_getElem? (i := 1) rfl))
  have f48 : Exa Z T42.heap b36 "java/lang/String" := (y36_0.keep K42q)
  have ne_b36_tt42 : b36 ≠ tt42 := f48.neArv y42_3 (hw _ (List.mem_of_getElem? (i := 17) rfl))
  have ne_b42_tt42 : b42 ≠ tt42 := y42_0.neArv y42_3 (hw _ (List.mem_of_getElem? (i := 17) rfl))
  have CC4 := y42_4
  obtain ⟨_, _, ⟨T49, L49, k49, n49⟩, -, X49q, hS49q, hg49q, ⟨Lc49, hQ49, cl_49, cy_49, cz_49⟩, st49⟩ := callSS X42 hx (y := (⟨"com/example/relayout/relayout/plan/TransferEqualsPinLaw", "id", "(I)Ljava/lang/String;"⟩ : MethodName)) hown42 (mvT hZ42 (hw _ (List.mem_of_getElem? (i := 3) rfl))) (mvT hZ42 (hw _ (List.mem_of_getElem? (i := 4) rfl))) (mvT hZ42 (hw _ (List.mem_of_getElem? (i := 5) rfl))) (mvT hZ42 (hw _ (List.mem_of_getElem? (i := 6) rfl))) (by decide) (own_backV (W := 4) (Pv := fun vm_ => LS Z "com/example/relayout/relayout/plan/TransferEqualsPinLaw" 7 ("to" :: ("from" :: ("item" :: []))) vm_ T42.heap T42.heap.size) (idc l Z a0 hw [] zCS wcI ccI ((dd.toUInt32 >>> ((18 : Int32) &&& 31).toUInt32).toInt32) ("to" :: ("from" :: ("item" :: []))) T42.heap.size T42.heap n0 O42 S_CS hCS hcT0 hcT1 hcT2 hcH hcW S_cI B_cI S_hi   ) hZ42 (fun vm_ hW_ => LS.warm (s := s) hL42 hW_) (hw _ (List.mem_of_getElem? (i := 6) rfl)) (hw _ (List.mem_of_getElem? (i := 5) rfl)) (by decide) (by decide)) (g := (mkF m 98 #[.val (.int pa), .val (.int pb), .val (.int pq), .val (.int sl2), .val (.int dd), .val (.ref b13), .unset, .unset, .unset] [(.int ((dd.toUInt32 >>> ((18 : Int32) &&& 31).toUInt32).toInt32)), (.ref b42), (.ref b36), (.ref b29), (.ref b29)])) rfl (by rw [hml]; rfl) (argsL := [(.int ((dd.toUInt32 >>> ((18 : Int32) &&& 31).toUInt32).toInt32))]) (rest := [(.ref b42), (.ref b36), (.ref b29), (.ref b29)]) (lenOf pd_9 rfl) rfl (by show 2 * 0 + _ ≤ _; exact Nat.le_of_eq rfl) (hb hby at_98) (fun _ _ => ⟨rfl, rfl, (by decide : 18 + 2 ≤ _), (by decide : 83 + 5 ≤ _)⟩)
  dsimp only [Pt.U, Pt.locs, Pt.cells, Pt.slots] at X49q cl_49 cy_49 cz_49 st49 hQ49 hS49q hg49q
  rw [cl_49, cy_49, cz_49] at X49q
  obtain ⟨X49, hS49, hZ49, hown49⟩ := rebS hS42 hk42 X49q hS49q hg49q hZ42 hown42
  have hk49 := Nat.le_refl T49.heap.size
  obtain ⟨b49, tt49, kb49, nn49, vs49, rfl, N49q, K49q, y49_0, y49_1, y49_2, y49_3, y49_4, hL49⟩ := hQ49
  have N49 := Fr.app N42 N49q
  have Z49 : n0 ≤ T49.heap.size := Nat.le_trans Z42 K49q.1
  have K49 : Keep h0 T49.heap [] := K42.trans K49q all0
  have O49 : Old Z n0 T49.heap := O42.keep K49q all0
  have f50 : Exa Z T49.heap b13 "com/example/relayout/relayout/plan/Transfer" := (f43.keep K49q)
  have ne_b13_b49 : b13 ≠ b49 := ne_exa f50 y49_0 (by decide)
  have f51 : Exa Z T49.heap b29 "com/example/relayout/relayout/plan/Transfer" := (f44.keep K49q)
  have ne_b29_b49 : b29 ≠ b49 := ne_exa f51 y49_0 (by decide)
  have ne_b13_tt49 : b13 ≠ tt49 := f50.neArv y49_3 (hw _ (List.mem_of_getElem? (i := 1) rfl))
  have f52 : Exa Z T49.heap b16 "java/lang/String" := (f45.keep K49q)
  have ne_b16_tt49 : b16 ≠ tt49 := f52.neArv y49_3 (hw _ (List.mem_of_getElem? (i := 17) rfl))
  have f53 : Exa Z T49.heap b18 "java/lang/String" := (f46.keep K49q)
  have ne_b18_tt49 : b18 ≠ tt49 := f53.neArv y49_3 (hw _ (List.mem_of_getElem? (i := 17) rfl))
  have f54 : Exa Z T49.heap b21 "java/lang/String" := (f47.keep K49q)
  have ne_b21_tt49 : b21 ≠ tt49 := f54.neArv y49_3 (hw _ (List.mem_of_getElem? (i := 17) rfl))
  have ne_b29_tt49 : b29 ≠ tt49 := f51.neArv y49_3 (hw _ (List.mem_of_getElem? (i := 1) rfl))
  have f55 : Exa Z T49.heap b36 "java/lang/String" := (f48.keep K49q)
  have ne_b36_tt49 : b36 ≠ tt49 := f55.neArv y49_3 (hw _ (List.mem_of_getElem? (i := 17) rfl))
  have f56 : Exa Z T49.heap b42 "java/lang/String" := (y42_0.keep K49q)
  have ne_b42_tt49 : b42 ≠ tt49 := f56.neArv y49_3 (hw _ (List.mem_of_getElem? (i := 17) rfl))
  have ne_b49_tt49 : b49 ≠ tt49 := y49_0.neArv y49_3 (hw _ (List.mem_of_getElem? (i := 17) rfl))
  have CC5 := y49_4
  have f58 : Fld Z T49.heap b29 "com/example/relayout/relayout/plan/Transfer" "item" "Ljava/lang/String;" .null := (((F29_item.keep K36q nin0).keep K42q nin0).keep K49q nin0)
  have f59 : Fld Z T49.heap b29 "com/example/relayout/relayout/plan/Transfer" "from" "Ljava/lang/String;" .null := (((F29_from.keep K36q nin0).keep K42q nin0).keep K49q nin0)
  have f60 : Fld Z T49.heap b29 "com/example/relayout/relayout/plan/Transfer" "to" "Ljava/lang/String;" .null := (((F29_to.keep K36q nin0).keep K42q nin0).keep K49q nin0)
  obtain ⟨_, _, ⟨T57, L57, k57, n57⟩, -, X57q, hS57q, hg57q, ⟨Lc57, hQ57, cl_57, cy_57, cz_57⟩, st57⟩ := X49.specialBackS hx (y := (⟨"com/example/relayout/relayout/plan/Transfer", "<init>", "(Ljava/lang/String;Ljava/lang/String;Ljava/lang/String;)V"⟩ : MethodName)) rfl hown49 (mvT hZ49 (hw _ (List.mem_of_getElem? (i := 33) rfl))) (mvT hZ49 (hw _ (List.mem_of_getElem? (i := 34) rfl))) (mvT hZ49 (hw _ (List.mem_of_getElem? (i := 35) rfl))) (by decide) (backOfS (W := 1) (tinitW l Z a0 hw [] zCS wcI ccI b29 b36 b42 b49 .null .null .null T49.heap n0 O49 S_CS hCS hcT0 hcT1 hcT2 hcH hcW S_cI B_cI S_hi g_b29  f51 f58 f59 f60 f55 f56 y49_0) hZ49 (hw _ (List.mem_of_getElem? (i := 35) rfl)) (hw _ (List.mem_of_getElem? (i := 2) rfl)) (by decide) (by decide)) (g := (mkF m 101 #[.val (.int pa), .val (.int pb), .val (.int pq), .val (.int sl2), .val (.int dd), .val (.ref b13), .unset, .unset, .unset] [(.ref b49), (.ref b42), (.ref b36), (.ref b29), (.ref b29)])) rfl (by rw [hml]; rfl) (Steps.refl _) (a := b29) (argsL := [(.ref b36), (.ref b42), (.ref b49)]) (rest := [(.ref b29)]) (lenOf pd_10 rfl) rfl (by show 2 * 0 + _ ≤ _; exact Nat.le_of_eq rfl) (hb hby at_101) (fun _ _ => ⟨rfl, rfl, (by decide : 20 + 6 ≤ _), (by decide : 88 + 52 ≤ _)⟩)
  dsimp only [Pt.U, Pt.locs, Pt.cells, Pt.slots] at X57q cl_57 cy_57 cz_57 st57 hQ57 hS57q hg57q
  rw [cl_57, cy_57, cz_57] at X57q
  obtain ⟨X57, hS57, hZ57, hown57⟩ := rebS hS49 hk49 X57q hS57q hg57q hZ49 hown49
  have hk57 := Nat.le_refl T57.heap.size
  obtain ⟨rfl, N57q, K57q, y57_0, y57_1, y57_2, y57_3⟩ := hQ57
  have N57 := Fr.app N49 N57q
  have Z57 : n0 ≤ T57.heap.size := Nat.le_trans Z49 K57q.1
  have K57 : Keep h0 T57.heap [] := K49.trans K57q (allS (Or.inr sz_b29) all0)
  have O57 : Old Z n0 T57.heap := O49.keep K57q (allS g_b29 all0)
  have R61 : ∀ t, Steps p.tables e below (T57.setTop (mkF m 114 #[.val (.int pa), .val (.int pb), .val (.int pq), .val (.int sl2), .val (.int dd), .val (.ref b13), .val (.ref b29), .val (.int (pq &&& (3 : Int32))), .unset] [(.int (1 : Int32)), (.int (pq &&& (3 : Int32)))])) t → Steps p.tables e below (s₁.setTop (entryFrame m #[(.int pa), (.int pb), (.int pq)] maxLocals)) t := by
    intro t k
    refine R15 t ?_
    show Steps p.tables e below (T13.setTop (mkF m 54 #[.val (.int pa), .val (.int pb), .val (.int pq), .val (.int sl2), .val (.int dd), .unset, .unset, .unset, .unset] [(.int pa), (.ref b13), (.ref b13)])) t
    refine st16.trans ?_
    show Steps p.tables e below (T16.setTop (mkF m 57 #[.val (.int pa), .val (.int pb), .val (.int pq), .val (.int sl2), .val (.int dd), .unset, .unset, .unset, .unset] [(.ref b16), (.ref b13), (.ref b13)])) t
    refine XS.iloadN X16.here hx rfl (hb hby at_57) rfl ?_
    show Steps p.tables e below (T16.setTop (mkF m 58 #[.val (.int pa), .val (.int pb), .val (.int pq), .val (.int sl2), .val (.int dd), .unset, .unset, .unset, .unset] [(.int pa), (.ref b16), (.ref b13), (.ref b13)])) t
    refine XS.bipush X16.here hx rfl (hb hby at_58) ?_
    show Steps p.tables e below (T16.setTop (mkF m 60 #[.val (.int pa), .val (.int pb), .val (.int pq), .val (.int sl2), .val (.int dd), .unset, .unset, .unset, .unset] [(.int (9 : Int32)), (.int pa), (.ref b16), (.ref b13), (.ref b13)])) t
    refine XS.iushr X16.here hx rfl (hb hby at_60) rfl ?_
    show Steps p.tables e below (T16.setTop (mkF m 61 #[.val (.int pa), .val (.int pb), .val (.int pq), .val (.int sl2), .val (.int dd), .unset, .unset, .unset, .unset] [(.int ((pa.toUInt32 >>> ((9 : Int32) &&& 31).toUInt32).toInt32)), (.ref b16), (.ref b13), (.ref b13)])) t
    refine st18.trans ?_
    show Steps p.tables e below (T18.setTop (mkF m 64 #[.val (.int pa), .val (.int pb), .val (.int pq), .val (.int sl2), .val (.int dd), .unset, .unset, .unset, .unset] [(.ref b18), (.ref b16), (.ref b13), (.ref b13)])) t
    refine XS.iloadN X18.here hx rfl (hb hby at_64) rfl ?_
    show Steps p.tables e below (T18.setTop (mkF m 65 #[.val (.int pa), .val (.int pb), .val (.int pq), .val (.int sl2), .val (.int dd), .unset, .unset, .unset, .unset] [(.int pa), (.ref b18), (.ref b16), (.ref b13), (.ref b13)])) t
    refine XS.bipush X18.here hx rfl (hb hby at_65) ?_
    show Steps p.tables e below (T18.setTop (mkF m 67 #[.val (.int pa), .val (.int pb), .val (.int pq), .val (.int sl2), .val (.int dd), .unset, .unset, .unset, .unset] [(.int (18 : Int32)), (.int pa), (.ref b18), (.ref b16), (.ref b13), (.ref b13)])) t
    refine XS.iushr X18.here hx rfl (hb hby at_67) rfl ?_
    show Steps p.tables e below (T18.setTop (mkF m 68 #[.val (.int pa), .val (.int pb), .val (.int pq), .val (.int sl2), .val (.int dd), .unset, .unset, .unset, .unset] [(.int ((pa.toUInt32 >>> ((18 : Int32) &&& 31).toUInt32).toInt32)), (.ref b18), (.ref b16), (.ref b13), (.ref b13)])) t
    refine st21.trans ?_
    show Steps p.tables e below (T21.setTop (mkF m 71 #[.val (.int pa), .val (.int pb), .val (.int pq), .val (.int sl2), .val (.int dd), .unset, .unset, .unset, .unset] [(.ref b21), (.ref b18), (.ref b16), (.ref b13), (.ref b13)])) t
    refine st25.trans ?_
    show Steps p.tables e below (T25.setTop (mkF m 74 #[.val (.int pa), .val (.int pb), .val (.int pq), .val (.int sl2), .val (.int dd), .unset, .unset, .unset, .unset] [(.ref b13)])) t
    refine XS.astore X25.here hx rfl (hb hby at_74) rfl rfl (l' := #[.val (.int pa), .val (.int pb), .val (.int pq), .val (.int sl2), .val (.int dd), .val (.ref b13), .unset, .unset, .unset]) rfl ?_
    show Steps p.tables e below (T25.setTop (mkF m 76 #[.val (.int pa), .val (.int pb), .val (.int pq), .val (.int sl2), .val (.int dd), .val (.ref b13), .unset, .unset, .unset] [])) t
    refine st29 _ ?_
    show Steps p.tables e below (T29.setTop (mkF m 79 #[.val (.int pa), .val (.int pb), .val (.int pq), .val (.int sl2), .val (.int dd), .val (.ref b13), .unset, .unset, .unset] [(.ref b29)])) t
    refine XS.dup X29.here hx rfl (hb hby at_79) rfl rfl ?_
    show Steps p.tables e below (T29.setTop (mkF m 80 #[.val (.int pa), .val (.int pb), .val (.int pq), .val (.int sl2), .val (.int dd), .val (.ref b13), .unset, .unset, .unset] [(.ref b29), (.ref b29)])) t
    refine XS.iload X29.here hx rfl (hb hby at_80) rfl ?_
    show Steps p.tables e below (T29.setTop (mkF m 82 #[.val (.int pa), .val (.int pb), .val (.int pq), .val (.int sl2), .val (.int dd), .val (.ref b13), .unset, .unset, .unset] [(.int dd), (.ref b29), (.ref b29)])) t
    refine st36.trans ?_
    show Steps p.tables e below (T36.setTop (mkF m 85 #[.val (.int pa), .val (.int pb), .val (.int pq), .val (.int sl2), .val (.int dd), .val (.ref b13), .unset, .unset, .unset] [(.ref b36), (.ref b29), (.ref b29)])) t
    refine XS.iload X36.here hx rfl (hb hby at_85) rfl ?_
    show Steps p.tables e below (T36.setTop (mkF m 87 #[.val (.int pa), .val (.int pb), .val (.int pq), .val (.int sl2), .val (.int dd), .val (.ref b13), .unset, .unset, .unset] [(.int dd), (.ref b36), (.ref b29), (.ref b29)])) t
    refine XS.bipush X36.here hx rfl (hb hby at_87) ?_
    show Steps p.tables e below (T36.setTop (mkF m 89 #[.val (.int pa), .val (.int pb), .val (.int pq), .val (.int sl2), .val (.int dd), .val (.ref b13), .unset, .unset, .unset] [(.int (9 : Int32)), (.int dd), (.ref b36), (.ref b29), (.ref b29)])) t
    refine XS.iushr X36.here hx rfl (hb hby at_89) rfl ?_
    show Steps p.tables e below (T36.setTop (mkF m 90 #[.val (.int pa), .val (.int pb), .val (.int pq), .val (.int sl2), .val (.int dd), .val (.ref b13), .unset, .unset, .unset] [(.int ((dd.toUInt32 >>> ((9 : Int32) &&& 31).toUInt32).toInt32)), (.ref b36), (.ref b29), (.ref b29)])) t
    refine st42.trans ?_
    show Steps p.tables e below (T42.setTop (mkF m 93 #[.val (.int pa), .val (.int pb), .val (.int pq), .val (.int sl2), .val (.int dd), .val (.ref b13), .unset, .unset, .unset] [(.ref b42), (.ref b36), (.ref b29), (.ref b29)])) t
    refine XS.iload X42.here hx rfl (hb hby at_93) rfl ?_
    show Steps p.tables e below (T42.setTop (mkF m 95 #[.val (.int pa), .val (.int pb), .val (.int pq), .val (.int sl2), .val (.int dd), .val (.ref b13), .unset, .unset, .unset] [(.int dd), (.ref b42), (.ref b36), (.ref b29), (.ref b29)])) t
    refine XS.bipush X42.here hx rfl (hb hby at_95) ?_
    show Steps p.tables e below (T42.setTop (mkF m 97 #[.val (.int pa), .val (.int pb), .val (.int pq), .val (.int sl2), .val (.int dd), .val (.ref b13), .unset, .unset, .unset] [(.int (18 : Int32)), (.int dd), (.ref b42), (.ref b36), (.ref b29), (.ref b29)])) t
    refine XS.iushr X42.here hx rfl (hb hby at_97) rfl ?_
    show Steps p.tables e below (T42.setTop (mkF m 98 #[.val (.int pa), .val (.int pb), .val (.int pq), .val (.int sl2), .val (.int dd), .val (.ref b13), .unset, .unset, .unset] [(.int ((dd.toUInt32 >>> ((18 : Int32) &&& 31).toUInt32).toInt32)), (.ref b42), (.ref b36), (.ref b29), (.ref b29)])) t
    refine st49.trans ?_
    show Steps p.tables e below (T49.setTop (mkF m 101 #[.val (.int pa), .val (.int pb), .val (.int pq), .val (.int sl2), .val (.int dd), .val (.ref b13), .unset, .unset, .unset] [(.ref b49), (.ref b42), (.ref b36), (.ref b29), (.ref b29)])) t
    refine st57.trans ?_
    show Steps p.tables e below (T57.setTop (mkF m 104 #[.val (.int pa), .val (.int pb), .val (.int pq), .val (.int sl2), .val (.int dd), .val (.ref b13), .unset, .unset, .unset] [(.ref b29)])) t
    refine XS.astore X57.here hx rfl (hb hby at_104) rfl rfl (l' := #[.val (.int pa), .val (.int pb), .val (.int pq), .val (.int sl2), .val (.int dd), .val (.ref b13), .val (.ref b29), .unset, .unset]) rfl ?_
    show Steps p.tables e below (T57.setTop (mkF m 106 #[.val (.int pa), .val (.int pb), .val (.int pq), .val (.int sl2), .val (.int dd), .val (.ref b13), .val (.ref b29), .unset, .unset] [])) t
    refine XS.iloadN X57.here hx rfl (hb hby at_106) rfl ?_
    show Steps p.tables e below (T57.setTop (mkF m 107 #[.val (.int pa), .val (.int pb), .val (.int pq), .val (.int sl2), .val (.int dd), .val (.ref b13), .val (.ref b29), .unset, .unset] [(.int pq)])) t
    refine XS.iconst X57.here hx rfl (hb hby at_107) ?_
    show Steps p.tables e below (T57.setTop (mkF m 108 #[.val (.int pa), .val (.int pb), .val (.int pq), .val (.int sl2), .val (.int dd), .val (.ref b13), .val (.ref b29), .unset, .unset] [(.int (3 : Int32)), (.int pq)])) t
    refine XS.iand X57.here hx rfl (hb hby at_108) rfl ?_
    show Steps p.tables e below (T57.setTop (mkF m 109 #[.val (.int pa), .val (.int pb), .val (.int pq), .val (.int sl2), .val (.int dd), .val (.ref b13), .val (.ref b29), .unset, .unset] [(.int (pq &&& (3 : Int32)))])) t
    refine XS.istore X57.here hx rfl (hb hby at_109) rfl (l' := #[.val (.int pa), .val (.int pb), .val (.int pq), .val (.int sl2), .val (.int dd), .val (.ref b13), .val (.ref b29), .val (.int (pq &&& (3 : Int32))), .unset]) rfl ?_
    show Steps p.tables e below (T57.setTop (mkF m 111 #[.val (.int pa), .val (.int pb), .val (.int pq), .val (.int sl2), .val (.int dd), .val (.ref b13), .val (.ref b29), .val (.int (pq &&& (3 : Int32))), .unset] [])) t
    refine XS.iload X57.here hx rfl (hb hby at_111) rfl ?_
    show Steps p.tables e below (T57.setTop (mkF m 113 #[.val (.int pa), .val (.int pb), .val (.int pq), .val (.int sl2), .val (.int dd), .val (.ref b13), .val (.ref b29), .val (.int (pq &&& (3 : Int32))), .unset] [(.int (pq &&& (3 : Int32)))])) t
    refine XS.iconst X57.here hx rfl (hb hby at_113) ?_
    exact k
  by_cases hm1 : (pq &&& (3 : Int32)) = (1 : Int32)
  · have f63 : Exa Z T57.heap b13 "com/example/relayout/relayout/plan/Transfer" := (f50.keep K57q)
    obtain ⟨cq62, kq62, q62a, q62b, q62c⟩ := isOf hZ57 rfl f63
    obtain ⟨_, _, ⟨T62, L62, k62, n62⟩, -, X62, ⟨Lc62, hQ62, cl_62, cy_62, cz_62⟩, st62⟩ := X57.virtualBack hx (y := (⟨"com/example/relayout/relayout/plan/Transfer", "equals", "(Ljava/lang/Object;)Z"⟩ : MethodName)) (z := (⟨"com/example/relayout/relayout/plan/Transfer", "equals", "(Ljava/lang/Object;)Z"⟩ : MethodName)) hown57 (mvT hZ57 (hw _ (List.mem_of_getElem? (i := 60) rfl))) (mvT hZ57 (hw _ (List.mem_of_getElem? (i := 61) rfl))) (notFace_of_selects (args := #[]) (mvT hZ57 (hw _ (List.mem_of_getElem? (i := 63) rfl)))) (mvT hZ57 (hw _ (List.mem_of_getElem? (i := 63) rfl))) (mvT hZ57 (hw _ (List.mem_of_getElem? (i := 62) rfl))) (by decide) (backOf (W := 0) (teqN l Z a0 hw [] zCS wcI ccI b13 T57.heap n0 O57 S_CS hCS hcT0 hcT1 hcT2 hcH hcW S_cI B_cI S_hi   ) hZ57 (hw _ (List.mem_of_getElem? (i := 64) rfl)) (hw _ (List.mem_of_getElem? (i := 2) rfl)) (by decide) (by decide)) q62a q62c (g := (mkF m 120 #[.val (.int pa), .val (.int pb), .val (.int pq), .val (.int sl2), .val (.int dd), .val (.ref b13), .val (.ref b29), .val (.int (pq &&& (3 : Int32))), .unset] [.null, (.ref b13)])) rfl (by rw [hml]; rfl) (Steps.refl _) (argsL := [.null]) (rest := []) (lenOf pd_8 rfl) rfl (by show 2 * 0 + _ ≤ _; exact Nat.le_of_eq rfl) (hb hby at_120) (fun _ _ => ⟨rfl, rfl, (by decide : 26 + 0 ≤ _), (by decide : 140 + 0 ≤ _)⟩)
    dsimp only [Pt.U, Pt.locs, Pt.cells, Pt.slots] at X62 cl_62 cy_62 cz_62 st62 hQ62
    rw [cl_62, cy_62, cz_62] at X62
    obtain ⟨rfl, N62q, e62⟩ := hQ62
    have N62 := Fr.app N57 N62q
    have R64 : ∀ t, Steps p.tables e below (T62.setTop (mkF m 131 #[.val (.int pa), .val (.int pb), .val (.int pq), .val (.int sl2), .val (.int dd), .val (.ref b13), .val (.ref b29), .val (.int (pq &&& (3 : Int32))), .unset] [(.int (1 : Int32))])) t → Steps p.tables e below (s₁.setTop (entryFrame m #[(.int pa), (.int pb), (.int pq)] maxLocals)) t := by
      intro t k
      refine R61 t ?_
      show Steps p.tables e below (T57.setTop (mkF m 114 #[.val (.int pa), .val (.int pb), .val (.int pq), .val (.int sl2), .val (.int dd), .val (.ref b13), .val (.ref b29), .val (.int (pq &&& (3 : Int32))), .unset] [(.int (1 : Int32)), (.int (pq &&& (3 : Int32)))])) t
      refine XS.icmpNo X57.here hx rfl (hb hby at_114) rfl (teq (hm1 : (pq &&& (3 : Int32)) = (1 : Int32))).2 ?_
      show Steps p.tables e below (T57.setTop (mkF m 117 #[.val (.int pa), .val (.int pb), .val (.int pq), .val (.int sl2), .val (.int dd), .val (.ref b13), .val (.ref b29), .val (.int (pq &&& (3 : Int32))), .unset] [])) t
      refine XS.aload X57.here hx rfl (hb hby at_117) rfl rfl ?_
      show Steps p.tables e below (T57.setTop (mkF m 119 #[.val (.int pa), .val (.int pb), .val (.int pq), .val (.int sl2), .val (.int dd), .val (.ref b13), .val (.ref b29), .val (.int (pq &&& (3 : Int32))), .unset] [(.ref b13)])) t
      refine XS.aconstNull X57.here hx rfl (hb hby at_119) ?_
      show Steps p.tables e below (T57.setTop (mkF m 120 #[.val (.int pa), .val (.int pb), .val (.int pq), .val (.int sl2), .val (.int dd), .val (.ref b13), .val (.ref b29), .val (.int (pq &&& (3 : Int32))), .unset] [.null, (.ref b13)])) t
      refine st62.trans ?_
      show Steps p.tables e below (T62.setTop (mkF m 123 #[.val (.int pa), .val (.int pb), .val (.int pq), .val (.int sl2), .val (.int dd), .val (.ref b13), .val (.ref b29), .val (.int (pq &&& (3 : Int32))), .unset] [(.int (0 : Int32))])) t
      refine XS.ifNo X62.here hx rfl (hb hby at_123) rfl ((if0 _ _).trans (teq ((by decide) : (0 : Int32) = (0 : Int32))).2) ?_
      show Steps p.tables e below (T62.setTop (mkF m 126 #[.val (.int pa), .val (.int pb), .val (.int pq), .val (.int sl2), .val (.int dd), .val (.ref b13), .val (.ref b29), .val (.int (pq &&& (3 : Int32))), .unset] [])) t
      refine XS.iconst X62.here hx rfl (hb hby at_126) ?_
      show Steps p.tables e below (T62.setTop (mkF m 127 #[.val (.int pa), .val (.int pb), .val (.int pq), .val (.int sl2), .val (.int dd), .val (.ref b13), .val (.ref b29), .val (.int (pq &&& (3 : Int32))), .unset] [(.int (1 : Int32))])) t
      refine XS.goto X62.here hx rfl (pc0 := 127) (pc' := 131) rfl (hb hby at_127) (by decide) (by decide) ?_
      exact k
    obtain ⟨fs, hr, hrun, hended, hRW⟩ := X62.leaveW hS57 (by rw [e62]; exact hk57) (v := some (.int (1 : Int32))) (fun h => by rw [Bd.returns] at h; cases h)
    refine ⟨_, _, R64 _ ?_, hrun, hended, _, _, rfl, ?_, hRW.1, hRW.2.1, hRW.2.2.1, hRW.2.2.2.mono (by decide) (by decide)⟩
    · show Steps p.tables e below (T62.setTop (mkF m 131 #[.val (.int pa), .val (.int pb), .val (.int pq), .val (.int sl2), .val (.int dd), .val (.ref b13), .val (.ref b29), .val (.int (pq &&& (3 : Int32))), .unset] [(.int (1 : Int32))])) _
      exact retN X62 hx (t := .boolean) Bd.returns (by simp) (hb hby at_131) hr
    · show Q_rm0 Z zCS wcI ccI pa pb pq h0 n0 _ T62.heap _
      rw [e62]
      exact ⟨rfl, N62⟩
  · have R65 : ∀ t, Steps p.tables e below (T57.setTop (mkF m 135 #[.val (.int pa), .val (.int pb), .val (.int pq), .val (.int sl2), .val (.int dd), .val (.ref b13), .val (.ref b29), .val (.int (pq &&& (3 : Int32))), .unset] [(.int (2 : Int32)), (.int (pq &&& (3 : Int32)))])) t → Steps p.tables e below (s₁.setTop (entryFrame m #[(.int pa), (.int pb), (.int pq)] maxLocals)) t := by
      intro t k
      refine R61 t ?_
      show Steps p.tables e below (T57.setTop (mkF m 114 #[.val (.int pa), .val (.int pb), .val (.int pq), .val (.int sl2), .val (.int dd), .val (.ref b13), .val (.ref b29), .val (.int (pq &&& (3 : Int32))), .unset] [(.int (1 : Int32)), (.int (pq &&& (3 : Int32)))])) t
      refine XS.icmpYes X57.here hx rfl (pc0 := 114) (pc' := 132) rfl (hb hby at_114) rfl (feq (hm1 : ¬ ((pq &&& (3 : Int32)) = (1 : Int32)))).2 (by decide) (by decide) ?_
      show Steps p.tables e below (T57.setTop (mkF m 132 #[.val (.int pa), .val (.int pb), .val (.int pq), .val (.int sl2), .val (.int dd), .val (.ref b13), .val (.ref b29), .val (.int (pq &&& (3 : Int32))), .unset] [])) t
      refine XS.iload X57.here hx rfl (hb hby at_132) rfl ?_
      show Steps p.tables e below (T57.setTop (mkF m 134 #[.val (.int pa), .val (.int pb), .val (.int pq), .val (.int sl2), .val (.int dd), .val (.ref b13), .val (.ref b29), .val (.int (pq &&& (3 : Int32))), .unset] [(.int (pq &&& (3 : Int32)))])) t
      refine XS.iconst X57.here hx rfl (hb hby at_134) ?_
      exact k
    by_cases hm2 : (pq &&& (3 : Int32)) = (2 : Int32)
    · obtain ⟨_, _, ⟨T66, L66, k66, n66⟩, -, X66, ⟨Lc66, hQ66, cl_66, cy_66, cz_66⟩, st66⟩ := Jvm.LawKit.callS X57 hx (y := (⟨"java/lang/Integer", "valueOf", "(I)Ljava/lang/Integer;"⟩ : MethodName)) hown57 (mvT hZ57 (hw _ (List.mem_of_getElem? (i := 53) rfl))) (mvT hZ57 (hw _ (List.mem_of_getElem? (i := 54) rfl))) (mvT hZ57 (hw _ (List.mem_of_getElem? (i := 55) rfl))) (mvT hZ57 (hw _ (List.mem_of_getElem? (i := 56) rfl))) (by decide) (backOf (W := 0) (valueOfI l Z a0 hw [] zCS wcI ccI pa T57.heap n0 O57 S_CS hCS hcT0 hcT1 hcT2 hcH hcW S_cI B_cI S_hi   ) hZ57 (hw _ (List.mem_of_getElem? (i := 56) rfl)) (hw _ (List.mem_of_getElem? (i := 55) rfl)) (by decide) (by decide)) (g := (mkF m 139 #[.val (.int pa), .val (.int pb), .val (.int pq), .val (.int sl2), .val (.int dd), .val (.ref b13), .val (.ref b29), .val (.int (pq &&& (3 : Int32))), .unset] [(.int pa)])) rfl (by rw [hml]; rfl) (argsL := [(.int pa)]) (rest := []) (lenOf pd_11 rfl) rfl (by show 2 * 0 + _ ≤ _; exact Nat.le_of_eq rfl) (hb hby at_139) (fun _ _ => ⟨rfl, rfl, (by decide : 26 + 1 ≤ _), (by decide : 140 + 1 ≤ _)⟩)
      dsimp only [Pt.U, Pt.locs, Pt.cells, Pt.slots] at X66 cl_66 cy_66 cz_66 st66 hQ66
      rw [cl_66, cy_66, cz_66] at X66
      obtain ⟨b66, rfl, N66q, K66q, y66_0⟩ := hQ66
      have N66 := Fr.app N57 N66q
      have Z66 : n0 ≤ T66.heap.size := Nat.le_trans Z57 K66q.1
      have K66 : Keep h0 T66.heap [] := K57.trans K66q all0
      have O66 : Old Z n0 T66.heap := O57.keep K66q all0
      have hk66 := Nat.le_trans hk57 K66q.1
      have f67 : Exa Z T66.heap b13 "com/example/relayout/relayout/plan/Transfer" := ((f50.keep K57q).keep K66q)
      have ne_b13_b66 : b13 ≠ b66 := ne_exa f67 y66_0 (by decide)
      have f68 : Exa Z T66.heap b16 "java/lang/String" := ((f52.keep K57q).keep K66q)
      have ne_b16_b66 : b16 ≠ b66 := ne_exa f68 y66_0 (by decide)
      have f69 : Exa Z T66.heap b18 "java/lang/String" := ((f53.keep K57q).keep K66q)
      have ne_b18_b66 : b18 ≠ b66 := ne_exa f69 y66_0 (by decide)
      have f70 : Exa Z T66.heap b21 "java/lang/String" := ((f54.keep K57q).keep K66q)
      have ne_b21_b66 : b21 ≠ b66 := ne_exa f70 y66_0 (by decide)
      have f71 : Exa Z T66.heap b29 "com/example/relayout/relayout/plan/Transfer" := (y57_0.keep K66q)
      have ne_b29_b66 : b29 ≠ b66 := ne_exa f71 y66_0 (by decide)
      have f72 : Exa Z T66.heap b36 "java/lang/String" := ((f55.keep K57q).keep K66q)
      have ne_b36_b66 : b36 ≠ b66 := ne_exa f72 y66_0 (by decide)
      have f73 : Exa Z T66.heap b42 "java/lang/String" := ((f56.keep K57q).keep K66q)
      have ne_b42_b66 : b42 ≠ b66 := ne_exa f73 y66_0 (by decide)
      have f74 : Exa Z T66.heap b49 "java/lang/String" := ((y49_0.keep K57q).keep K66q)
      have ne_b49_b66 : b49 ≠ b66 := ne_exa f74 y66_0 (by decide)
      obtain ⟨cq75, kq75, q75a, q75b, q75c⟩ := isOf hZ57 rfl f67
      obtain ⟨_, _, ⟨T75, L75, k75, n75⟩, -, X75, ⟨Lc75, hQ75, cl_75, cy_75, cz_75⟩, st75⟩ := X66.virtualBack hx (y := (⟨"com/example/relayout/relayout/plan/Transfer", "equals", "(Ljava/lang/Object;)Z"⟩ : MethodName)) (z := (⟨"com/example/relayout/relayout/plan/Transfer", "equals", "(Ljava/lang/Object;)Z"⟩ : MethodName)) hown57 (mvT hZ57 (hw _ (List.mem_of_getElem? (i := 60) rfl))) (mvT hZ57 (hw _ (List.mem_of_getElem? (i := 61) rfl))) (notFace_of_selects (args := #[]) (mvT hZ57 (hw _ (List.mem_of_getElem? (i := 63) rfl)))) (mvT hZ57 (hw _ (List.mem_of_getElem? (i := 63) rfl))) (mvT hZ57 (hw _ (List.mem_of_getElem? (i := 62) rfl))) (by decide) (backOf (W := 0) (teqI l Z a0 hw [] zCS wcI ccI b13 b66 T66.heap n0 O66 S_CS hCS hcT0 hcT1 hcT2 hcH hcW S_cI B_cI S_hi   y66_0) hZ57 (hw _ (List.mem_of_getElem? (i := 64) rfl)) (hw _ (List.mem_of_getElem? (i := 2) rfl)) (by decide) (by decide)) q75a q75c (g := (mkF m 148 #[.val (.int pa), .val (.int pb), .val (.int pq), .val (.int sl2), .val (.int dd), .val (.ref b13), .val (.ref b29), .val (.int (pq &&& (3 : Int32))), .val (.ref b66)] [(.ref b66), (.ref b13)])) rfl (by rw [hml]; rfl) (Steps.refl _) (argsL := [(.ref b66)]) (rest := []) (lenOf pd_8 rfl) rfl (by show 2 * 0 + _ ≤ _; exact Nat.le_of_eq rfl) (hb hby at_148) (fun _ _ => ⟨rfl, rfl, (by decide : 27 + 0 ≤ _), (by decide : 141 + 0 ≤ _)⟩)
      dsimp only [Pt.U, Pt.locs, Pt.cells, Pt.slots] at X75 cl_75 cy_75 cz_75 st75 hQ75
      rw [cl_75, cy_75, cz_75] at X75
      obtain ⟨rfl, N75q, e75⟩ := hQ75
      have N75 := Fr.app N66 N75q
      have R76 : ∀ t, Steps p.tables e below (T75.setTop (mkF m 159 #[.val (.int pa), .val (.int pb), .val (.int pq), .val (.int sl2), .val (.int dd), .val (.ref b13), .val (.ref b29), .val (.int (pq &&& (3 : Int32))), .val (.ref b66)] [(.int (1 : Int32))])) t → Steps p.tables e below (s₁.setTop (entryFrame m #[(.int pa), (.int pb), (.int pq)] maxLocals)) t := by
        intro t k
        refine R65 t ?_
        show Steps p.tables e below (T57.setTop (mkF m 135 #[.val (.int pa), .val (.int pb), .val (.int pq), .val (.int sl2), .val (.int dd), .val (.ref b13), .val (.ref b29), .val (.int (pq &&& (3 : Int32))), .unset] [(.int (2 : Int32)), (.int (pq &&& (3 : Int32)))])) t
        refine XS.icmpNo X57.here hx rfl (hb hby at_135) rfl (teq (hm2 : (pq &&& (3 : Int32)) = (2 : Int32))).2 ?_
        show Steps p.tables e below (T57.setTop (mkF m 138 #[.val (.int pa), .val (.int pb), .val (.int pq), .val (.int sl2), .val (.int dd), .val (.ref b13), .val (.ref b29), .val (.int (pq &&& (3 : Int32))), .unset] [])) t
        refine XS.iloadN X57.here hx rfl (hb hby at_138) rfl ?_
        show Steps p.tables e below (T57.setTop (mkF m 139 #[.val (.int pa), .val (.int pb), .val (.int pq), .val (.int sl2), .val (.int dd), .val (.ref b13), .val (.ref b29), .val (.int (pq &&& (3 : Int32))), .unset] [(.int pa)])) t
        refine st66 _ ?_
        show Steps p.tables e below (T66.setTop (mkF m 142 #[.val (.int pa), .val (.int pb), .val (.int pq), .val (.int sl2), .val (.int dd), .val (.ref b13), .val (.ref b29), .val (.int (pq &&& (3 : Int32))), .unset] [(.ref b66)])) t
        refine XS.astore X66.here hx rfl (hb hby at_142) rfl rfl (l' := #[.val (.int pa), .val (.int pb), .val (.int pq), .val (.int sl2), .val (.int dd), .val (.ref b13), .val (.ref b29), .val (.int (pq &&& (3 : Int32))), .val (.ref b66)]) rfl ?_
        show Steps p.tables e below (T66.setTop (mkF m 144 #[.val (.int pa), .val (.int pb), .val (.int pq), .val (.int sl2), .val (.int dd), .val (.ref b13), .val (.ref b29), .val (.int (pq &&& (3 : Int32))), .val (.ref b66)] [])) t
        refine XS.aload X66.here hx rfl (hb hby at_144) rfl rfl ?_
        show Steps p.tables e below (T66.setTop (mkF m 146 #[.val (.int pa), .val (.int pb), .val (.int pq), .val (.int sl2), .val (.int dd), .val (.ref b13), .val (.ref b29), .val (.int (pq &&& (3 : Int32))), .val (.ref b66)] [(.ref b13)])) t
        refine XS.aload X66.here hx rfl (hb hby at_146) rfl rfl ?_
        show Steps p.tables e below (T66.setTop (mkF m 148 #[.val (.int pa), .val (.int pb), .val (.int pq), .val (.int sl2), .val (.int dd), .val (.ref b13), .val (.ref b29), .val (.int (pq &&& (3 : Int32))), .val (.ref b66)] [(.ref b66), (.ref b13)])) t
        refine st75.trans ?_
        show Steps p.tables e below (T75.setTop (mkF m 151 #[.val (.int pa), .val (.int pb), .val (.int pq), .val (.int sl2), .val (.int dd), .val (.ref b13), .val (.ref b29), .val (.int (pq &&& (3 : Int32))), .val (.ref b66)] [(.int (0 : Int32))])) t
        refine XS.ifNo X75.here hx rfl (hb hby at_151) rfl ((if0 _ _).trans (teq ((by decide) : (0 : Int32) = (0 : Int32))).2) ?_
        show Steps p.tables e below (T75.setTop (mkF m 154 #[.val (.int pa), .val (.int pb), .val (.int pq), .val (.int sl2), .val (.int dd), .val (.ref b13), .val (.ref b29), .val (.int (pq &&& (3 : Int32))), .val (.ref b66)] [])) t
        refine XS.iconst X75.here hx rfl (hb hby at_154) ?_
        show Steps p.tables e below (T75.setTop (mkF m 155 #[.val (.int pa), .val (.int pb), .val (.int pq), .val (.int sl2), .val (.int dd), .val (.ref b13), .val (.ref b29), .val (.int (pq &&& (3 : Int32))), .val (.ref b66)] [(.int (1 : Int32))])) t
        refine XS.goto X75.here hx rfl (pc0 := 155) (pc' := 159) rfl (hb hby at_155) (by decide) (by decide) ?_
        exact k
      obtain ⟨fs, hr, hrun, hended, hRW⟩ := X75.leaveW hS57 (by rw [e75]; exact hk66) (v := some (.int (1 : Int32))) (fun h => by rw [Bd.returns] at h; cases h)
      refine ⟨_, _, R76 _ ?_, hrun, hended, _, _, rfl, ?_, hRW.1, hRW.2.1, hRW.2.2.1, hRW.2.2.2.mono (by decide) (by decide)⟩
      · show Steps p.tables e below (T75.setTop (mkF m 159 #[.val (.int pa), .val (.int pb), .val (.int pq), .val (.int sl2), .val (.int dd), .val (.ref b13), .val (.ref b29), .val (.int (pq &&& (3 : Int32))), .val (.ref b66)] [(.int (1 : Int32))])) _
        exact retN X75 hx (t := .boolean) Bd.returns (by simp) (hb hby at_159) hr
      · show Q_rm0 Z zCS wcI ccI pa pb pq h0 n0 _ T75.heap _
        rw [e75]
        exact ⟨rfl, N75⟩
    · have R77 : ∀ t, Steps p.tables e below (T57.setTop (mkF m 163 #[.val (.int pa), .val (.int pb), .val (.int pq), .val (.int sl2), .val (.int dd), .val (.ref b13), .val (.ref b29), .val (.int (pq &&& (3 : Int32))), .unset] [(.int (3 : Int32)), (.int (pq &&& (3 : Int32)))])) t → Steps p.tables e below (s₁.setTop (entryFrame m #[(.int pa), (.int pb), (.int pq)] maxLocals)) t := by
        intro t k
        refine R65 t ?_
        show Steps p.tables e below (T57.setTop (mkF m 135 #[.val (.int pa), .val (.int pb), .val (.int pq), .val (.int sl2), .val (.int dd), .val (.ref b13), .val (.ref b29), .val (.int (pq &&& (3 : Int32))), .unset] [(.int (2 : Int32)), (.int (pq &&& (3 : Int32)))])) t
        refine XS.icmpYes X57.here hx rfl (pc0 := 135) (pc' := 160) rfl (hb hby at_135) rfl (feq (hm2 : ¬ ((pq &&& (3 : Int32)) = (2 : Int32)))).2 (by decide) (by decide) ?_
        show Steps p.tables e below (T57.setTop (mkF m 160 #[.val (.int pa), .val (.int pb), .val (.int pq), .val (.int sl2), .val (.int dd), .val (.ref b13), .val (.ref b29), .val (.int (pq &&& (3 : Int32))), .unset] [])) t
        refine XS.iload X57.here hx rfl (hb hby at_160) rfl ?_
        show Steps p.tables e below (T57.setTop (mkF m 162 #[.val (.int pa), .val (.int pb), .val (.int pq), .val (.int sl2), .val (.int dd), .val (.ref b13), .val (.ref b29), .val (.int (pq &&& (3 : Int32))), .unset] [(.int (pq &&& (3 : Int32)))])) t
        refine XS.iconst X57.here hx rfl (hb hby at_162) ?_
        exact k
      by_cases hm3 : (pq &&& (3 : Int32)) = (3 : Int32)
      · have f79 : Exa Z T57.heap b13 "com/example/relayout/relayout/plan/Transfer" := (f50.keep K57q)
        have f80 : Fld Z T57.heap b13 "com/example/relayout/relayout/plan/Transfer" "item" "Ljava/lang/String;" (.ref b16) := (((((y25_1.ext E29).keep K36q nin0).keep K42q nin0).keep K49q nin0).keep K57q (ninS ne_b13_b29 nin0))
        have f81 : Fld Z T57.heap b13 "com/example/relayout/relayout/plan/Transfer" "from" "Ljava/lang/String;" (.ref b18) := (((((y25_2.ext E29).keep K36q nin0).keep K42q nin0).keep K49q nin0).keep K57q (ninS ne_b13_b29 nin0))
        have f82 : Fld Z T57.heap b13 "com/example/relayout/relayout/plan/Transfer" "to" "Ljava/lang/String;" (.ref b21) := (((((y25_3.ext E29).keep K36q nin0).keep K42q nin0).keep K49q nin0).keep K57q (ninS ne_b13_b29 nin0))
        have f83 : Exa Z T57.heap b16 "java/lang/String" := (f52.keep K57q)
        have f84 : Fld Z T57.heap b16 "java/lang/String" "coder" "B" (.int (0 : Int32)) := ((((((((y16_1.keep K18q nin0).keep K21q nin0).keep K25q (ninS (Ne.symm ne_b13_b16) nin0)).ext E29).keep K36q nin0).keep K42q nin0).keep K49q nin0).keep K57q (ninS ne_b16_b29 nin0))
        have f85 : Fld Z T57.heap b16 "java/lang/String" "value" "[B" (.ref tt16) := ((((((((y16_2.keep K18q nin0).keep K21q nin0).keep K25q (ninS (Ne.symm ne_b13_b16) nin0)).ext E29).keep K36q nin0).keep K42q nin0).keep K49q nin0).keep K57q (ninS ne_b16_b29 nin0))
        have f86 : Arv Z T57.heap tt16 kb16 .byte nn16 vs16 (.int 0) := (((((f31.ext E29).keep K36q nin0).keep K42q nin0).keep K49q nin0).keep K57q (ninS ne_tt16_b29 nin0))
        have f87 : Exa Z T57.heap b18 "java/lang/String" := (f53.keep K57q)
        have f88 : Fld Z T57.heap b18 "java/lang/String" "coder" "B" (.int (0 : Int32)) := (((((((y18_1.keep K21q nin0).keep K25q (ninS (Ne.symm ne_b13_b18) nin0)).ext E29).keep K36q nin0).keep K42q nin0).keep K49q nin0).keep K57q (ninS ne_b18_b29 nin0))
        have f89 : Fld Z T57.heap b18 "java/lang/String" "value" "[B" (.ref tt18) := (((((((y18_2.keep K21q nin0).keep K25q (ninS (Ne.symm ne_b13_b18) nin0)).ext E29).keep K36q nin0).keep K42q nin0).keep K49q nin0).keep K57q (ninS ne_b18_b29 nin0))
        have f90 : Arv Z T57.heap tt18 kb18 .byte nn18 vs18 (.int 0) := (((((f33.ext E29).keep K36q nin0).keep K42q nin0).keep K49q nin0).keep K57q (ninS ne_tt18_b29 nin0))
        have f91 : Exa Z T57.heap b21 "java/lang/String" := (f54.keep K57q)
        have f92 : Fld Z T57.heap b21 "java/lang/String" "coder" "B" (.int (0 : Int32)) := ((((((y21_1.keep K25q (ninS (Ne.symm ne_b13_b21) nin0)).ext E29).keep K36q nin0).keep K42q nin0).keep K49q nin0).keep K57q (ninS ne_b21_b29 nin0))
        have f93 : Fld Z T57.heap b21 "java/lang/String" "value" "[B" (.ref tt21) := ((((((y21_2.keep K25q (ninS (Ne.symm ne_b13_b21) nin0)).ext E29).keep K36q nin0).keep K42q nin0).keep K49q nin0).keep K57q (ninS ne_b21_b29 nin0))
        have f94 : Arv Z T57.heap tt21 kb21 .byte nn21 vs21 (.int 0) := (((((f35.ext E29).keep K36q nin0).keep K42q nin0).keep K49q nin0).keep K57q (ninS ne_tt21_b29 nin0))
        obtain ⟨cq78, kq78, q78a, q78b, q78c⟩ := isOf hZ57 rfl f79
        obtain ⟨_, _, ⟨T78, L78, k78, n78⟩, -, X78, ⟨Lc78, hQ78, cl_78, cy_78, cz_78⟩, st78⟩ := X57.virtualBack hx (y := (⟨"com/example/relayout/relayout/plan/Transfer", "equals", "(Ljava/lang/Object;)Z"⟩ : MethodName)) (z := (⟨"com/example/relayout/relayout/plan/Transfer", "equals", "(Ljava/lang/Object;)Z"⟩ : MethodName)) hown57 (mvT hZ57 (hw _ (List.mem_of_getElem? (i := 60) rfl))) (mvT hZ57 (hw _ (List.mem_of_getElem? (i := 61) rfl))) (notFace_of_selects (args := #[]) (mvT hZ57 (hw _ (List.mem_of_getElem? (i := 63) rfl)))) (mvT hZ57 (hw _ (List.mem_of_getElem? (i := 63) rfl))) (mvT hZ57 (hw _ (List.mem_of_getElem? (i := 62) rfl))) (by decide) (backOf (W := 0) (trEq l Z a0 hw [] zCS wcI ccI b13 b13 b16 tt16 kb16 nn16 vs16 (own_key pa) b18 tt18 kb18 nn18 vs18 (own_key ((pa.toUInt32 >>> ((9 : Int32) &&& 31).toUInt32).toInt32)) b21 tt21 kb21 nn21 vs21 (own_key ((pa.toUInt32 >>> ((18 : Int32) &&& 31).toUInt32).toInt32)) b16 tt16 kb16 nn16 vs16 (own_key pa) b18 tt18 kb18 nn18 vs18 (own_key ((pa.toUInt32 >>> ((9 : Int32) &&& 31).toUInt32).toInt32)) b21 tt21 kb21 nn21 vs21 (own_key ((pa.toUInt32 >>> ((18 : Int32) &&& 31).toUInt32).toInt32)) T57.heap n0 O57 S_CS hCS hcT0 hcT1 hcT2 hcH hcW S_cI B_cI S_hi   f79 f80 f81 f82 f79 f80 f81 f82 f83 f84 f85 f86 CC0 f87 f88 f89 f90 CC1 f91 f92 f93 f94 CC2 f83 f84 f85 f86 CC0 f87 f88 f89 f90 CC1 f91 f92 f93 f94 CC2) hZ57 (hw _ (List.mem_of_getElem? (i := 64) rfl)) (hw _ (List.mem_of_getElem? (i := 2) rfl)) (by decide) (by decide)) q78a q78c (g := (mkF m 170 #[.val (.int pa), .val (.int pb), .val (.int pq), .val (.int sl2), .val (.int dd), .val (.ref b13), .val (.ref b29), .val (.int (pq &&& (3 : Int32))), .unset] [(.ref b13), (.ref b13)])) rfl (by rw [hml]; rfl) (Steps.refl _) (argsL := [(.ref b13)]) (rest := []) (lenOf pd_8 rfl) rfl (by show 2 * 0 + _ ≤ _; exact Nat.le_of_eq rfl) (hb hby at_170) (fun _ _ => ⟨rfl, rfl, (by decide : 26 + 0 ≤ _), (by decide : 140 + 0 ≤ _)⟩)
        dsimp only [Pt.U, Pt.locs, Pt.cells, Pt.slots] at X78 cl_78 cy_78 cz_78 st78 hQ78
        rw [cl_78, cy_78, cz_78] at X78
        obtain ⟨rfl, N78q, e78⟩ := hQ78
        have N78 := Fr.app N57 N78q
        have R95 : ∀ t, Steps p.tables e below (T78.setTop (mkF m 173 #[.val (.int pa), .val (.int pb), .val (.int pq), .val (.int sl2), .val (.int dd), .val (.ref b13), .val (.ref b29), .val (.int (pq &&& (3 : Int32))), .unset] [(.int (own_teq (own_key pa) (own_key pa) (own_key ((pa.toUInt32 >>> ((9 : Int32) &&& 31).toUInt32).toInt32)) (own_key ((pa.toUInt32 >>> ((9 : Int32) &&& 31).toUInt32).toInt32)) (own_key ((pa.toUInt32 >>> ((18 : Int32) &&& 31).toUInt32).toInt32)) (own_key ((pa.toUInt32 >>> ((18 : Int32) &&& 31).toUInt32).toInt32))))])) t → Steps p.tables e below (s₁.setTop (entryFrame m #[(.int pa), (.int pb), (.int pq)] maxLocals)) t := by
          intro t k
          refine R77 t ?_
          show Steps p.tables e below (T57.setTop (mkF m 163 #[.val (.int pa), .val (.int pb), .val (.int pq), .val (.int sl2), .val (.int dd), .val (.ref b13), .val (.ref b29), .val (.int (pq &&& (3 : Int32))), .unset] [(.int (3 : Int32)), (.int (pq &&& (3 : Int32)))])) t
          refine XS.icmpNo X57.here hx rfl (hb hby at_163) rfl (teq (hm3 : (pq &&& (3 : Int32)) = (3 : Int32))).2 ?_
          show Steps p.tables e below (T57.setTop (mkF m 166 #[.val (.int pa), .val (.int pb), .val (.int pq), .val (.int sl2), .val (.int dd), .val (.ref b13), .val (.ref b29), .val (.int (pq &&& (3 : Int32))), .unset] [])) t
          refine XS.aload X57.here hx rfl (hb hby at_166) rfl rfl ?_
          show Steps p.tables e below (T57.setTop (mkF m 168 #[.val (.int pa), .val (.int pb), .val (.int pq), .val (.int sl2), .val (.int dd), .val (.ref b13), .val (.ref b29), .val (.int (pq &&& (3 : Int32))), .unset] [(.ref b13)])) t
          refine XS.aload X57.here hx rfl (hb hby at_168) rfl rfl ?_
          show Steps p.tables e below (T57.setTop (mkF m 170 #[.val (.int pa), .val (.int pb), .val (.int pq), .val (.int sl2), .val (.int dd), .val (.ref b13), .val (.ref b29), .val (.int (pq &&& (3 : Int32))), .unset] [(.ref b13), (.ref b13)])) t
          refine st78.trans ?_
          exact k
        have R96 := R95
        rw [(own_teqY (rfl : (own_key pa) = (own_key pa)) (rfl : (own_key ((pa.toUInt32 >>> ((9 : Int32) &&& 31).toUInt32).toInt32)) = (own_key ((pa.toUInt32 >>> ((9 : Int32) &&& 31).toUInt32).toInt32))) (rfl : (own_key ((pa.toUInt32 >>> ((18 : Int32) &&& 31).toUInt32).toInt32)) = (own_key ((pa.toUInt32 >>> ((18 : Int32) &&& 31).toUInt32).toInt32))))] at R96
        obtain ⟨fs, hr, hrun, hended, hRW⟩ := X78.leaveW hS57 (by rw [e78]; exact hk57) (v := some (.int (1 : Int32))) (fun h => by rw [Bd.returns] at h; cases h)
        refine ⟨_, _, R96 _ ?_, hrun, hended, _, _, rfl, ?_, hRW.1, hRW.2.1, hRW.2.2.1, hRW.2.2.2.mono (by decide) (by decide)⟩
        · show Steps p.tables e below (T78.setTop (mkF m 173 #[.val (.int pa), .val (.int pb), .val (.int pq), .val (.int sl2), .val (.int dd), .val (.ref b13), .val (.ref b29), .val (.int (pq &&& (3 : Int32))), .unset] [(.int (1 : Int32))])) _
          exact retN X78 hx (t := .boolean) Bd.returns (by simp) (hb hby at_173) hr
        · show Q_rm0 Z zCS wcI ccI pa pb pq h0 n0 _ T78.heap _
          rw [e78]
          exact ⟨rfl, N78⟩
      · obtain ⟨_, _, ⟨T97, L97, k97, n97⟩, -, X97, ⟨Lc97, hQ97, cl_97, cy_97, cz_97⟩, st97⟩ := Jvm.LawKit.callS X57 hx (y := (⟨"com/example/relayout/relayout/plan/TransferEqualsPinLaw", "key", "(I)I"⟩ : MethodName)) hown57 (mvT hZ57 (hw _ (List.mem_of_getElem? (i := 78) rfl))) (mvT hZ57 (hw _ (List.mem_of_getElem? (i := 79) rfl))) (mvT hZ57 (hw _ (List.mem_of_getElem? (i := 5) rfl))) (mvT hZ57 (hw _ (List.mem_of_getElem? (i := 80) rfl))) (by decide) (backOf (W := 0) (keyc l Z a0 hw [] zCS wcI ccI pa T57.heap n0 O57 S_CS hCS hcT0 hcT1 hcT2 hcH hcW S_cI B_cI S_hi   ) hZ57 (hw _ (List.mem_of_getElem? (i := 80) rfl)) (hw _ (List.mem_of_getElem? (i := 5) rfl)) (by decide) (by decide)) (g := (mkF m 175 #[.val (.int pa), .val (.int pb), .val (.int pq), .val (.int sl2), .val (.int dd), .val (.ref b13), .val (.ref b29), .val (.int (pq &&& (3 : Int32))), .unset] [(.int pa)])) rfl (by rw [hml]; rfl) (argsL := [(.int pa)]) (rest := []) (lenOf pd_12 rfl) rfl (by show 2 * 0 + _ ≤ _; exact Nat.le_of_eq rfl) (hb hby at_175) (fun _ _ => ⟨rfl, rfl, (by decide : 26 + 0 ≤ _), (by decide : 140 + 0 ≤ _)⟩)
        dsimp only [Pt.U, Pt.locs, Pt.cells, Pt.slots] at X97 cl_97 cy_97 cz_97 st97 hQ97
        rw [cl_97, cy_97, cz_97] at X97
        obtain ⟨rfl, N97q, e97⟩ := hQ97
        have N97 := Fr.app N57 N97q
        obtain ⟨_, _, ⟨T98, L98, k98, n98⟩, -, X98, ⟨Lc98, hQ98, cl_98, cy_98, cz_98⟩, st98⟩ := Jvm.LawKit.callS X97 hx (y := (⟨"com/example/relayout/relayout/plan/TransferEqualsPinLaw", "key", "(I)I"⟩ : MethodName)) hown57 (mvT hZ57 (hw _ (List.mem_of_getElem? (i := 78) rfl))) (mvT hZ57 (hw _ (List.mem_of_getElem? (i := 79) rfl))) (mvT hZ57 (hw _ (List.mem_of_getElem? (i := 5) rfl))) (mvT hZ57 (hw _ (List.mem_of_getElem? (i := 80) rfl))) (by decide) (backOf (W := 1) (keyc l Z a0 hw [] zCS wcI ccI dd T57.heap n0 O57 S_CS hCS hcT0 hcT1 hcT2 hcH hcW S_cI B_cI S_hi   ) hZ57 (hw _ (List.mem_of_getElem? (i := 80) rfl)) (hw _ (List.mem_of_getElem? (i := 5) rfl)) (by decide) (by decide)) (g := (mkF m 180 #[.val (.int pa), .val (.int pb), .val (.int pq), .val (.int sl2), .val (.int dd), .val (.ref b13), .val (.ref b29), .val (.int (pq &&& (3 : Int32))), .unset] [(.int dd), (.int (own_key pa))])) rfl (by rw [hml]; rfl) (argsL := [(.int dd)]) (rest := [(.int (own_key pa))]) (lenOf pd_12 rfl) rfl (by show 2 * 0 + _ ≤ _; exact Nat.le_of_eq rfl) (hb hby at_180) (fun _ _ => ⟨rfl, e97, (by decide : 26 + 0 ≤ _), (by decide : 140 + 0 ≤ _)⟩)
        dsimp only [Pt.U, Pt.locs, Pt.cells, Pt.slots] at X98 cl_98 cy_98 cz_98 st98 hQ98
        rw [cl_98, cy_98, cz_98] at X98
        obtain ⟨rfl, N98q, e98⟩ := hQ98
        have N98 := Fr.app N97 N98q
        have R99 : ∀ t, Steps p.tables e below (T98.setTop (mkF m 183 #[.val (.int pa), .val (.int pb), .val (.int pq), .val (.int sl2), .val (.int dd), .val (.ref b13), .val (.ref b29), .val (.int (pq &&& (3 : Int32))), .unset] [(.int (own_key dd)), (.int (own_key pa))])) t → Steps p.tables e below (s₁.setTop (entryFrame m #[(.int pa), (.int pb), (.int pq)] maxLocals)) t := by
          intro t k
          refine R77 t ?_
          show Steps p.tables e below (T57.setTop (mkF m 163 #[.val (.int pa), .val (.int pb), .val (.int pq), .val (.int sl2), .val (.int dd), .val (.ref b13), .val (.ref b29), .val (.int (pq &&& (3 : Int32))), .unset] [(.int (3 : Int32)), (.int (pq &&& (3 : Int32)))])) t
          refine XS.icmpYes X57.here hx rfl (pc0 := 163) (pc' := 174) rfl (hb hby at_163) rfl (feq (hm3 : ¬ ((pq &&& (3 : Int32)) = (3 : Int32)))).2 (by decide) (by decide) ?_
          show Steps p.tables e below (T57.setTop (mkF m 174 #[.val (.int pa), .val (.int pb), .val (.int pq), .val (.int sl2), .val (.int dd), .val (.ref b13), .val (.ref b29), .val (.int (pq &&& (3 : Int32))), .unset] [])) t
          refine XS.iloadN X57.here hx rfl (hb hby at_174) rfl ?_
          show Steps p.tables e below (T57.setTop (mkF m 175 #[.val (.int pa), .val (.int pb), .val (.int pq), .val (.int sl2), .val (.int dd), .val (.ref b13), .val (.ref b29), .val (.int (pq &&& (3 : Int32))), .unset] [(.int pa)])) t
          refine st97 _ ?_
          show Steps p.tables e below (T97.setTop (mkF m 178 #[.val (.int pa), .val (.int pb), .val (.int pq), .val (.int sl2), .val (.int dd), .val (.ref b13), .val (.ref b29), .val (.int (pq &&& (3 : Int32))), .unset] [(.int (own_key pa))])) t
          refine XS.iload X97.here hx rfl (hb hby at_178) rfl ?_
          show Steps p.tables e below (T97.setTop (mkF m 180 #[.val (.int pa), .val (.int pb), .val (.int pq), .val (.int sl2), .val (.int dd), .val (.ref b13), .val (.ref b29), .val (.int (pq &&& (3 : Int32))), .unset] [(.int dd), (.int (own_key pa))])) t
          refine st98 _ ?_
          exact k
        by_cases hk0_ : (own_key pa) = (own_key dd)
        · obtain ⟨_, _, ⟨T100, L100, k100, n100⟩, -, X100, ⟨Lc100, hQ100, cl_100, cy_100, cz_100⟩, st100⟩ := Jvm.LawKit.callS X98 hx (y := (⟨"com/example/relayout/relayout/plan/TransferEqualsPinLaw", "key", "(I)I"⟩ : MethodName)) hown57 (mvT hZ57 (hw _ (List.mem_of_getElem? (i := 78) rfl))) (mvT hZ57 (hw _ (List.mem_of_getElem? (i := 79) rfl))) (mvT hZ57 (hw _ (List.mem_of_getElem? (i := 5) rfl))) (mvT hZ57 (hw _ (List.mem_of_getElem? (i := 80) rfl))) (by decide) (backOf (W := 0) (keyc l Z a0 hw [] zCS wcI ccI ((pa.toUInt32 >>> ((9 : Int32) &&& 31).toUInt32).toInt32) T57.heap n0 O57 S_CS hCS hcT0 hcT1 hcT2 hcH hcW S_cI B_cI S_hi   ) hZ57 (hw _ (List.mem_of_getElem? (i := 80) rfl)) (hw _ (List.mem_of_getElem? (i := 5) rfl)) (by decide) (by decide)) (g := (mkF m 190 #[.val (.int pa), .val (.int pb), .val (.int pq), .val (.int sl2), .val (.int dd), .val (.ref b13), .val (.ref b29), .val (.int (pq &&& (3 : Int32))), .unset] [(.int ((pa.toUInt32 >>> ((9 : Int32) &&& 31).toUInt32).toInt32))])) rfl (by rw [hml]; rfl) (argsL := [(.int ((pa.toUInt32 >>> ((9 : Int32) &&& 31).toUInt32).toInt32))]) (rest := []) (lenOf pd_12 rfl) rfl (by show 2 * 0 + _ ≤ _; exact Nat.le_of_eq rfl) (hb hby at_190) (fun _ _ => ⟨rfl, e98, (by decide : 26 + 0 ≤ _), (by decide : 140 + 0 ≤ _)⟩)
          dsimp only [Pt.U, Pt.locs, Pt.cells, Pt.slots] at X100 cl_100 cy_100 cz_100 st100 hQ100
          rw [cl_100, cy_100, cz_100] at X100
          obtain ⟨rfl, N100q, e100⟩ := hQ100
          have N100 := Fr.app N98 N100q
          obtain ⟨_, _, ⟨T101, L101, k101, n101⟩, -, X101, ⟨Lc101, hQ101, cl_101, cy_101, cz_101⟩, st101⟩ := Jvm.LawKit.callS X100 hx (y := (⟨"com/example/relayout/relayout/plan/TransferEqualsPinLaw", "key", "(I)I"⟩ : MethodName)) hown57 (mvT hZ57 (hw _ (List.mem_of_getElem? (i := 78) rfl))) (mvT hZ57 (hw _ (List.mem_of_getElem? (i := 79) rfl))) (mvT hZ57 (hw _ (List.mem_of_getElem? (i := 5) rfl))) (mvT hZ57 (hw _ (List.mem_of_getElem? (i := 80) rfl))) (by decide) (backOf (W := 1) (keyc l Z a0 hw [] zCS wcI ccI ((dd.toUInt32 >>> ((9 : Int32) &&& 31).toUInt32).toInt32) T57.heap n0 O57 S_CS hCS hcT0 hcT1 hcT2 hcH hcW S_cI B_cI S_hi   ) hZ57 (hw _ (List.mem_of_getElem? (i := 80) rfl)) (hw _ (List.mem_of_getElem? (i := 5) rfl)) (by decide) (by decide)) (g := (mkF m 198 #[.val (.int pa), .val (.int pb), .val (.int pq), .val (.int sl2), .val (.int dd), .val (.ref b13), .val (.ref b29), .val (.int (pq &&& (3 : Int32))), .unset] [(.int ((dd.toUInt32 >>> ((9 : Int32) &&& 31).toUInt32).toInt32)), (.int (own_key ((pa.toUInt32 >>> ((9 : Int32) &&& 31).toUInt32).toInt32)))])) rfl (by rw [hml]; rfl) (argsL := [(.int ((dd.toUInt32 >>> ((9 : Int32) &&& 31).toUInt32).toInt32))]) (rest := [(.int (own_key ((pa.toUInt32 >>> ((9 : Int32) &&& 31).toUInt32).toInt32)))]) (lenOf pd_12 rfl) rfl (by show 2 * 0 + _ ≤ _; exact Nat.le_of_eq rfl) (hb hby at_198) (fun _ _ => ⟨rfl, e100, (by decide : 26 + 0 ≤ _), (by decide : 140 + 0 ≤ _)⟩)
          dsimp only [Pt.U, Pt.locs, Pt.cells, Pt.slots] at X101 cl_101 cy_101 cz_101 st101 hQ101
          rw [cl_101, cy_101, cz_101] at X101
          obtain ⟨rfl, N101q, e101⟩ := hQ101
          have N101 := Fr.app N100 N101q
          have R102 : ∀ t, Steps p.tables e below (T101.setTop (mkF m 201 #[.val (.int pa), .val (.int pb), .val (.int pq), .val (.int sl2), .val (.int dd), .val (.ref b13), .val (.ref b29), .val (.int (pq &&& (3 : Int32))), .unset] [(.int (own_key ((dd.toUInt32 >>> ((9 : Int32) &&& 31).toUInt32).toInt32))), (.int (own_key ((pa.toUInt32 >>> ((9 : Int32) &&& 31).toUInt32).toInt32)))])) t → Steps p.tables e below (s₁.setTop (entryFrame m #[(.int pa), (.int pb), (.int pq)] maxLocals)) t := by
            intro t k
            refine R99 t ?_
            show Steps p.tables e below (T98.setTop (mkF m 183 #[.val (.int pa), .val (.int pb), .val (.int pq), .val (.int sl2), .val (.int dd), .val (.ref b13), .val (.ref b29), .val (.int (pq &&& (3 : Int32))), .unset] [(.int (own_key dd)), (.int (own_key pa))])) t
            refine XS.icmpNo X98.here hx rfl (hb hby at_183) rfl (teq (hk0_ : (own_key pa) = (own_key dd))).2 ?_
            show Steps p.tables e below (T98.setTop (mkF m 186 #[.val (.int pa), .val (.int pb), .val (.int pq), .val (.int sl2), .val (.int dd), .val (.ref b13), .val (.ref b29), .val (.int (pq &&& (3 : Int32))), .unset] [])) t
            refine XS.iloadN X98.here hx rfl (hb hby at_186) rfl ?_
            show Steps p.tables e below (T98.setTop (mkF m 187 #[.val (.int pa), .val (.int pb), .val (.int pq), .val (.int sl2), .val (.int dd), .val (.ref b13), .val (.ref b29), .val (.int (pq &&& (3 : Int32))), .unset] [(.int pa)])) t
            refine XS.bipush X98.here hx rfl (hb hby at_187) ?_
            show Steps p.tables e below (T98.setTop (mkF m 189 #[.val (.int pa), .val (.int pb), .val (.int pq), .val (.int sl2), .val (.int dd), .val (.ref b13), .val (.ref b29), .val (.int (pq &&& (3 : Int32))), .unset] [(.int (9 : Int32)), (.int pa)])) t
            refine XS.iushr X98.here hx rfl (hb hby at_189) rfl ?_
            show Steps p.tables e below (T98.setTop (mkF m 190 #[.val (.int pa), .val (.int pb), .val (.int pq), .val (.int sl2), .val (.int dd), .val (.ref b13), .val (.ref b29), .val (.int (pq &&& (3 : Int32))), .unset] [(.int ((pa.toUInt32 >>> ((9 : Int32) &&& 31).toUInt32).toInt32))])) t
            refine st100 _ ?_
            show Steps p.tables e below (T100.setTop (mkF m 193 #[.val (.int pa), .val (.int pb), .val (.int pq), .val (.int sl2), .val (.int dd), .val (.ref b13), .val (.ref b29), .val (.int (pq &&& (3 : Int32))), .unset] [(.int (own_key ((pa.toUInt32 >>> ((9 : Int32) &&& 31).toUInt32).toInt32)))])) t
            refine XS.iload X100.here hx rfl (hb hby at_193) rfl ?_
            show Steps p.tables e below (T100.setTop (mkF m 195 #[.val (.int pa), .val (.int pb), .val (.int pq), .val (.int sl2), .val (.int dd), .val (.ref b13), .val (.ref b29), .val (.int (pq &&& (3 : Int32))), .unset] [(.int dd), (.int (own_key ((pa.toUInt32 >>> ((9 : Int32) &&& 31).toUInt32).toInt32)))])) t
            refine XS.bipush X100.here hx rfl (hb hby at_195) ?_
            show Steps p.tables e below (T100.setTop (mkF m 197 #[.val (.int pa), .val (.int pb), .val (.int pq), .val (.int sl2), .val (.int dd), .val (.ref b13), .val (.ref b29), .val (.int (pq &&& (3 : Int32))), .unset] [(.int (9 : Int32)), (.int dd), (.int (own_key ((pa.toUInt32 >>> ((9 : Int32) &&& 31).toUInt32).toInt32)))])) t
            refine XS.iushr X100.here hx rfl (hb hby at_197) rfl ?_
            show Steps p.tables e below (T100.setTop (mkF m 198 #[.val (.int pa), .val (.int pb), .val (.int pq), .val (.int sl2), .val (.int dd), .val (.ref b13), .val (.ref b29), .val (.int (pq &&& (3 : Int32))), .unset] [(.int ((dd.toUInt32 >>> ((9 : Int32) &&& 31).toUInt32).toInt32)), (.int (own_key ((pa.toUInt32 >>> ((9 : Int32) &&& 31).toUInt32).toInt32)))])) t
            refine st101 _ ?_
            exact k
          by_cases hk1_ : (own_key ((pa.toUInt32 >>> ((9 : Int32) &&& 31).toUInt32).toInt32)) = (own_key ((dd.toUInt32 >>> ((9 : Int32) &&& 31).toUInt32).toInt32))
          · obtain ⟨_, _, ⟨T103, L103, k103, n103⟩, -, X103, ⟨Lc103, hQ103, cl_103, cy_103, cz_103⟩, st103⟩ := Jvm.LawKit.callS X101 hx (y := (⟨"com/example/relayout/relayout/plan/TransferEqualsPinLaw", "key", "(I)I"⟩ : MethodName)) hown57 (mvT hZ57 (hw _ (List.mem_of_getElem? (i := 78) rfl))) (mvT hZ57 (hw _ (List.mem_of_getElem? (i := 79) rfl))) (mvT hZ57 (hw _ (List.mem_of_getElem? (i := 5) rfl))) (mvT hZ57 (hw _ (List.mem_of_getElem? (i := 80) rfl))) (by decide) (backOf (W := 0) (keyc l Z a0 hw [] zCS wcI ccI ((pa.toUInt32 >>> ((18 : Int32) &&& 31).toUInt32).toInt32) T57.heap n0 O57 S_CS hCS hcT0 hcT1 hcT2 hcH hcW S_cI B_cI S_hi   ) hZ57 (hw _ (List.mem_of_getElem? (i := 80) rfl)) (hw _ (List.mem_of_getElem? (i := 5) rfl)) (by decide) (by decide)) (g := (mkF m 208 #[.val (.int pa), .val (.int pb), .val (.int pq), .val (.int sl2), .val (.int dd), .val (.ref b13), .val (.ref b29), .val (.int (pq &&& (3 : Int32))), .unset] [(.int ((pa.toUInt32 >>> ((18 : Int32) &&& 31).toUInt32).toInt32))])) rfl (by rw [hml]; rfl) (argsL := [(.int ((pa.toUInt32 >>> ((18 : Int32) &&& 31).toUInt32).toInt32))]) (rest := []) (lenOf pd_12 rfl) rfl (by show 2 * 0 + _ ≤ _; exact Nat.le_of_eq rfl) (hb hby at_208) (fun _ _ => ⟨rfl, e101, (by decide : 26 + 0 ≤ _), (by decide : 140 + 0 ≤ _)⟩)
            dsimp only [Pt.U, Pt.locs, Pt.cells, Pt.slots] at X103 cl_103 cy_103 cz_103 st103 hQ103
            rw [cl_103, cy_103, cz_103] at X103
            obtain ⟨rfl, N103q, e103⟩ := hQ103
            have N103 := Fr.app N101 N103q
            obtain ⟨_, _, ⟨T104, L104, k104, n104⟩, -, X104, ⟨Lc104, hQ104, cl_104, cy_104, cz_104⟩, st104⟩ := Jvm.LawKit.callS X103 hx (y := (⟨"com/example/relayout/relayout/plan/TransferEqualsPinLaw", "key", "(I)I"⟩ : MethodName)) hown57 (mvT hZ57 (hw _ (List.mem_of_getElem? (i := 78) rfl))) (mvT hZ57 (hw _ (List.mem_of_getElem? (i := 79) rfl))) (mvT hZ57 (hw _ (List.mem_of_getElem? (i := 5) rfl))) (mvT hZ57 (hw _ (List.mem_of_getElem? (i := 80) rfl))) (by decide) (backOf (W := 1) (keyc l Z a0 hw [] zCS wcI ccI ((dd.toUInt32 >>> ((18 : Int32) &&& 31).toUInt32).toInt32) T57.heap n0 O57 S_CS hCS hcT0 hcT1 hcT2 hcH hcW S_cI B_cI S_hi   ) hZ57 (hw _ (List.mem_of_getElem? (i := 80) rfl)) (hw _ (List.mem_of_getElem? (i := 5) rfl)) (by decide) (by decide)) (g := (mkF m 216 #[.val (.int pa), .val (.int pb), .val (.int pq), .val (.int sl2), .val (.int dd), .val (.ref b13), .val (.ref b29), .val (.int (pq &&& (3 : Int32))), .unset] [(.int ((dd.toUInt32 >>> ((18 : Int32) &&& 31).toUInt32).toInt32)), (.int (own_key ((pa.toUInt32 >>> ((18 : Int32) &&& 31).toUInt32).toInt32)))])) rfl (by rw [hml]; rfl) (argsL := [(.int ((dd.toUInt32 >>> ((18 : Int32) &&& 31).toUInt32).toInt32))]) (rest := [(.int (own_key ((pa.toUInt32 >>> ((18 : Int32) &&& 31).toUInt32).toInt32)))]) (lenOf pd_12 rfl) rfl (by show 2 * 0 + _ ≤ _; exact Nat.le_of_eq rfl) (hb hby at_216) (fun _ _ => ⟨rfl, e103, (by decide : 26 + 0 ≤ _), (by decide : 140 + 0 ≤ _)⟩)
            dsimp only [Pt.U, Pt.locs, Pt.cells, Pt.slots] at X104 cl_104 cy_104 cz_104 st104 hQ104
            rw [cl_104, cy_104, cz_104] at X104
            obtain ⟨rfl, N104q, e104⟩ := hQ104
            have N104 := Fr.app N103 N104q
            have R105 : ∀ t, Steps p.tables e below (T104.setTop (mkF m 219 #[.val (.int pa), .val (.int pb), .val (.int pq), .val (.int sl2), .val (.int dd), .val (.ref b13), .val (.ref b29), .val (.int (pq &&& (3 : Int32))), .unset] [(.int (own_key ((dd.toUInt32 >>> ((18 : Int32) &&& 31).toUInt32).toInt32))), (.int (own_key ((pa.toUInt32 >>> ((18 : Int32) &&& 31).toUInt32).toInt32)))])) t → Steps p.tables e below (s₁.setTop (entryFrame m #[(.int pa), (.int pb), (.int pq)] maxLocals)) t := by
              intro t k
              refine R102 t ?_
              show Steps p.tables e below (T101.setTop (mkF m 201 #[.val (.int pa), .val (.int pb), .val (.int pq), .val (.int sl2), .val (.int dd), .val (.ref b13), .val (.ref b29), .val (.int (pq &&& (3 : Int32))), .unset] [(.int (own_key ((dd.toUInt32 >>> ((9 : Int32) &&& 31).toUInt32).toInt32))), (.int (own_key ((pa.toUInt32 >>> ((9 : Int32) &&& 31).toUInt32).toInt32)))])) t
              refine XS.icmpNo X101.here hx rfl (hb hby at_201) rfl (teq (hk1_ : (own_key ((pa.toUInt32 >>> ((9 : Int32) &&& 31).toUInt32).toInt32)) = (own_key ((dd.toUInt32 >>> ((9 : Int32) &&& 31).toUInt32).toInt32)))).2 ?_
              show Steps p.tables e below (T101.setTop (mkF m 204 #[.val (.int pa), .val (.int pb), .val (.int pq), .val (.int sl2), .val (.int dd), .val (.ref b13), .val (.ref b29), .val (.int (pq &&& (3 : Int32))), .unset] [])) t
              refine XS.iloadN X101.here hx rfl (hb hby at_204) rfl ?_
              show Steps p.tables e below (T101.setTop (mkF m 205 #[.val (.int pa), .val (.int pb), .val (.int pq), .val (.int sl2), .val (.int dd), .val (.ref b13), .val (.ref b29), .val (.int (pq &&& (3 : Int32))), .unset] [(.int pa)])) t
              refine XS.bipush X101.here hx rfl (hb hby at_205) ?_
              show Steps p.tables e below (T101.setTop (mkF m 207 #[.val (.int pa), .val (.int pb), .val (.int pq), .val (.int sl2), .val (.int dd), .val (.ref b13), .val (.ref b29), .val (.int (pq &&& (3 : Int32))), .unset] [(.int (18 : Int32)), (.int pa)])) t
              refine XS.iushr X101.here hx rfl (hb hby at_207) rfl ?_
              show Steps p.tables e below (T101.setTop (mkF m 208 #[.val (.int pa), .val (.int pb), .val (.int pq), .val (.int sl2), .val (.int dd), .val (.ref b13), .val (.ref b29), .val (.int (pq &&& (3 : Int32))), .unset] [(.int ((pa.toUInt32 >>> ((18 : Int32) &&& 31).toUInt32).toInt32))])) t
              refine st103 _ ?_
              show Steps p.tables e below (T103.setTop (mkF m 211 #[.val (.int pa), .val (.int pb), .val (.int pq), .val (.int sl2), .val (.int dd), .val (.ref b13), .val (.ref b29), .val (.int (pq &&& (3 : Int32))), .unset] [(.int (own_key ((pa.toUInt32 >>> ((18 : Int32) &&& 31).toUInt32).toInt32)))])) t
              refine XS.iload X103.here hx rfl (hb hby at_211) rfl ?_
              show Steps p.tables e below (T103.setTop (mkF m 213 #[.val (.int pa), .val (.int pb), .val (.int pq), .val (.int sl2), .val (.int dd), .val (.ref b13), .val (.ref b29), .val (.int (pq &&& (3 : Int32))), .unset] [(.int dd), (.int (own_key ((pa.toUInt32 >>> ((18 : Int32) &&& 31).toUInt32).toInt32)))])) t
              refine XS.bipush X103.here hx rfl (hb hby at_213) ?_
              show Steps p.tables e below (T103.setTop (mkF m 215 #[.val (.int pa), .val (.int pb), .val (.int pq), .val (.int sl2), .val (.int dd), .val (.ref b13), .val (.ref b29), .val (.int (pq &&& (3 : Int32))), .unset] [(.int (18 : Int32)), (.int dd), (.int (own_key ((pa.toUInt32 >>> ((18 : Int32) &&& 31).toUInt32).toInt32)))])) t
              refine XS.iushr X103.here hx rfl (hb hby at_215) rfl ?_
              show Steps p.tables e below (T103.setTop (mkF m 216 #[.val (.int pa), .val (.int pb), .val (.int pq), .val (.int sl2), .val (.int dd), .val (.ref b13), .val (.ref b29), .val (.int (pq &&& (3 : Int32))), .unset] [(.int ((dd.toUInt32 >>> ((18 : Int32) &&& 31).toUInt32).toInt32)), (.int (own_key ((pa.toUInt32 >>> ((18 : Int32) &&& 31).toUInt32).toInt32)))])) t
              refine st104 _ ?_
              exact k
            by_cases hk2_ : (own_key ((pa.toUInt32 >>> ((18 : Int32) &&& 31).toUInt32).toInt32)) = (own_key ((dd.toUInt32 >>> ((18 : Int32) &&& 31).toUInt32).toInt32))
            · have f107 : Exa Z T57.heap b13 "com/example/relayout/relayout/plan/Transfer" := (f50.keep K57q)
              have f108 : Fld Z T57.heap b13 "com/example/relayout/relayout/plan/Transfer" "item" "Ljava/lang/String;" (.ref b16) := (((((y25_1.ext E29).keep K36q nin0).keep K42q nin0).keep K49q nin0).keep K57q (ninS ne_b13_b29 nin0))
              have f109 : Fld Z T57.heap b13 "com/example/relayout/relayout/plan/Transfer" "from" "Ljava/lang/String;" (.ref b18) := (((((y25_2.ext E29).keep K36q nin0).keep K42q nin0).keep K49q nin0).keep K57q (ninS ne_b13_b29 nin0))
              have f110 : Fld Z T57.heap b13 "com/example/relayout/relayout/plan/Transfer" "to" "Ljava/lang/String;" (.ref b21) := (((((y25_3.ext E29).keep K36q nin0).keep K42q nin0).keep K49q nin0).keep K57q (ninS ne_b13_b29 nin0))
              have f111 : Exa Z T57.heap b16 "java/lang/String" := (f52.keep K57q)
              have f112 : Fld Z T57.heap b16 "java/lang/String" "coder" "B" (.int (0 : Int32)) := ((((((((y16_1.keep K18q nin0).keep K21q nin0).keep K25q (ninS (Ne.symm ne_b13_b16) nin0)).ext E29).keep K36q nin0).keep K42q nin0).keep K49q nin0).keep K57q (ninS ne_b16_b29 nin0))
              have f113 : Fld Z T57.heap b16 "java/lang/String" "value" "[B" (.ref tt16) := ((((((((y16_2.keep K18q nin0).keep K21q nin0).keep K25q (ninS (Ne.symm ne_b13_b16) nin0)).ext E29).keep K36q nin0).keep K42q nin0).keep K49q nin0).keep K57q (ninS ne_b16_b29 nin0))
              have f114 : Arv Z T57.heap tt16 kb16 .byte nn16 vs16 (.int 0) := (((((f31.ext E29).keep K36q nin0).keep K42q nin0).keep K49q nin0).keep K57q (ninS ne_tt16_b29 nin0))
              have f115 : Exa Z T57.heap b18 "java/lang/String" := (f53.keep K57q)
              have f116 : Fld Z T57.heap b18 "java/lang/String" "coder" "B" (.int (0 : Int32)) := (((((((y18_1.keep K21q nin0).keep K25q (ninS (Ne.symm ne_b13_b18) nin0)).ext E29).keep K36q nin0).keep K42q nin0).keep K49q nin0).keep K57q (ninS ne_b18_b29 nin0))
              have f117 : Fld Z T57.heap b18 "java/lang/String" "value" "[B" (.ref tt18) := (((((((y18_2.keep K21q nin0).keep K25q (ninS (Ne.symm ne_b13_b18) nin0)).ext E29).keep K36q nin0).keep K42q nin0).keep K49q nin0).keep K57q (ninS ne_b18_b29 nin0))
              have f118 : Arv Z T57.heap tt18 kb18 .byte nn18 vs18 (.int 0) := (((((f33.ext E29).keep K36q nin0).keep K42q nin0).keep K49q nin0).keep K57q (ninS ne_tt18_b29 nin0))
              have f119 : Exa Z T57.heap b21 "java/lang/String" := (f54.keep K57q)
              have f120 : Fld Z T57.heap b21 "java/lang/String" "coder" "B" (.int (0 : Int32)) := ((((((y21_1.keep K25q (ninS (Ne.symm ne_b13_b21) nin0)).ext E29).keep K36q nin0).keep K42q nin0).keep K49q nin0).keep K57q (ninS ne_b21_b29 nin0))
              have f121 : Fld Z T57.heap b21 "java/lang/String" "value" "[B" (.ref tt21) := ((((((y21_2.keep K25q (ninS (Ne.symm ne_b13_b21) nin0)).ext E29).keep K36q nin0).keep K42q nin0).keep K49q nin0).keep K57q (ninS ne_b21_b29 nin0))
              have f122 : Arv Z T57.heap tt21 kb21 .byte nn21 vs21 (.int 0) := (((((f35.ext E29).keep K36q nin0).keep K42q nin0).keep K49q nin0).keep K57q (ninS ne_tt21_b29 nin0))
              have f123 : Exa Z T57.heap b36 "java/lang/String" := (f55.keep K57q)
              have f124 : Fld Z T57.heap b36 "java/lang/String" "coder" "B" (.int (0 : Int32)) := (((y36_1.keep K42q nin0).keep K49q nin0).keep K57q (ninS (Ne.symm ne_b29_b36) nin0))
              have f125 : Fld Z T57.heap b36 "java/lang/String" "value" "[B" (.ref tt36) := (((y36_2.keep K42q nin0).keep K49q nin0).keep K57q (ninS (Ne.symm ne_b29_b36) nin0))
              have f126 : Arv Z T57.heap tt36 kb36 .byte nn36 vs36 (.int 0) := (((y36_3.keep K42q nin0).keep K49q nin0).keep K57q (ninS (Ne.symm ne_b29_tt36) nin0))
              have f127 : Exa Z T57.heap b42 "java/lang/String" := (f56.keep K57q)
              have f128 : Fld Z T57.heap b42 "java/lang/String" "coder" "B" (.int (0 : Int32)) := ((y42_1.keep K49q nin0).keep K57q (ninS (Ne.symm ne_b29_b42) nin0))
              have f129 : Fld Z T57.heap b42 "java/lang/String" "value" "[B" (.ref tt42) := ((y42_2.keep K49q nin0).keep K57q (ninS (Ne.symm ne_b29_b42) nin0))
              have f130 : Arv Z T57.heap tt42 kb42 .byte nn42 vs42 (.int 0) := ((y42_3.keep K49q nin0).keep K57q (ninS (Ne.symm ne_b29_tt42) nin0))
              have f131 : Exa Z T57.heap b49 "java/lang/String" := (y49_0.keep K57q)
              have f132 : Fld Z T57.heap b49 "java/lang/String" "coder" "B" (.int (0 : Int32)) := (y49_1.keep K57q (ninS (Ne.symm ne_b29_b49) nin0))
              have f133 : Fld Z T57.heap b49 "java/lang/String" "value" "[B" (.ref tt49) := (y49_2.keep K57q (ninS (Ne.symm ne_b29_b49) nin0))
              have f134 : Arv Z T57.heap tt49 kb49 .byte nn49 vs49 (.int 0) := (y49_3.keep K57q (ninS (Ne.symm ne_b29_tt49) nin0))
              obtain ⟨cq106, kq106, q106a, q106b, q106c⟩ := isOf hZ57 e104 f107
              obtain ⟨_, _, ⟨T106, L106, k106, n106⟩, -, X106, ⟨Lc106, hQ106, cl_106, cy_106, cz_106⟩, st106⟩ := X104.virtualBack hx (y := (⟨"com/example/relayout/relayout/plan/Transfer", "equals", "(Ljava/lang/Object;)Z"⟩ : MethodName)) (z := (⟨"com/example/relayout/relayout/plan/Transfer", "equals", "(Ljava/lang/Object;)Z"⟩ : MethodName)) hown57 (mvT hZ57 (hw _ (List.mem_of_getElem? (i := 60) rfl))) (mvT hZ57 (hw _ (List.mem_of_getElem? (i := 61) rfl))) (notFace_of_selects (args := #[]) (mvT hZ57 (hw _ (List.mem_of_getElem? (i := 63) rfl)))) (mvT hZ57 (hw _ (List.mem_of_getElem? (i := 63) rfl))) (mvT hZ57 (hw _ (List.mem_of_getElem? (i := 62) rfl))) (by decide) (backOf (W := 0) (trEq l Z a0 hw [] zCS wcI ccI b13 b29 b16 tt16 kb16 nn16 vs16 (own_key pa) b18 tt18 kb18 nn18 vs18 (own_key ((pa.toUInt32 >>> ((9 : Int32) &&& 31).toUInt32).toInt32)) b21 tt21 kb21 nn21 vs21 (own_key ((pa.toUInt32 >>> ((18 : Int32) &&& 31).toUInt32).toInt32)) b36 tt36 kb36 nn36 vs36 (own_key dd) b42 tt42 kb42 nn42 vs42 (own_key ((dd.toUInt32 >>> ((9 : Int32) &&& 31).toUInt32).toInt32)) b49 tt49 kb49 nn49 vs49 (own_key ((dd.toUInt32 >>> ((18 : Int32) &&& 31).toUInt32).toInt32)) T57.heap n0 O57 S_CS hCS hcT0 hcT1 hcT2 hcH hcW S_cI B_cI S_hi   f107 f108 f109 f110 y57_0 y57_1 y57_2 y57_3 f111 f112 f113 f114 CC0 f115 f116 f117 f118 CC1 f119 f120 f121 f122 CC2 f123 f124 f125 f126 CC3 f127 f128 f129 f130 CC4 f131 f132 f133 f134 CC5) hZ57 (hw _ (List.mem_of_getElem? (i := 64) rfl)) (hw _ (List.mem_of_getElem? (i := 2) rfl)) (by decide) (by decide)) q106a q106c (g := (mkF m 233 #[.val (.int pa), .val (.int pb), .val (.int pq), .val (.int sl2), .val (.int dd), .val (.ref b13), .val (.ref b29), .val (.int (pq &&& (3 : Int32))), .val (.int (1 : Int32))] [(.ref b29), (.ref b13)])) rfl (by rw [hml]; rfl) (Steps.refl _) (argsL := [(.ref b29)]) (rest := []) (lenOf pd_8 rfl) rfl (by show 2 * 0 + _ ≤ _; exact Nat.le_of_eq rfl) (hb hby at_233) (fun _ _ => ⟨rfl, e104, (by decide : 26 + 0 ≤ _), (by decide : 140 + 0 ≤ _)⟩)
              dsimp only [Pt.U, Pt.locs, Pt.cells, Pt.slots] at X106 cl_106 cy_106 cz_106 st106 hQ106
              rw [cl_106, cy_106, cz_106] at X106
              obtain ⟨rfl, N106q, e106⟩ := hQ106
              have N106 := Fr.app N104 N106q
              have R135 : ∀ t, Steps p.tables e below (T106.setTop (mkF m 236 #[.val (.int pa), .val (.int pb), .val (.int pq), .val (.int sl2), .val (.int dd), .val (.ref b13), .val (.ref b29), .val (.int (pq &&& (3 : Int32))), .val (.int (1 : Int32))] [(.int (own_teq (own_key pa) (own_key dd) (own_key ((pa.toUInt32 >>> ((9 : Int32) &&& 31).toUInt32).toInt32)) (own_key ((dd.toUInt32 >>> ((9 : Int32) &&& 31).toUInt32).toInt32)) (own_key ((pa.toUInt32 >>> ((18 : Int32) &&& 31).toUInt32).toInt32)) (own_key ((dd.toUInt32 >>> ((18 : Int32) &&& 31).toUInt32).toInt32))))])) t → Steps p.tables e below (s₁.setTop (entryFrame m #[(.int pa), (.int pb), (.int pq)] maxLocals)) t := by
                intro t k
                refine R105 t ?_
                show Steps p.tables e below (T104.setTop (mkF m 219 #[.val (.int pa), .val (.int pb), .val (.int pq), .val (.int sl2), .val (.int dd), .val (.ref b13), .val (.ref b29), .val (.int (pq &&& (3 : Int32))), .unset] [(.int (own_key ((dd.toUInt32 >>> ((18 : Int32) &&& 31).toUInt32).toInt32))), (.int (own_key ((pa.toUInt32 >>> ((18 : Int32) &&& 31).toUInt32).toInt32)))])) t
                refine XS.icmpNo X104.here hx rfl (hb hby at_219) rfl (teq (hk2_ : (own_key ((pa.toUInt32 >>> ((18 : Int32) &&& 31).toUInt32).toInt32)) = (own_key ((dd.toUInt32 >>> ((18 : Int32) &&& 31).toUInt32).toInt32)))).2 ?_
                show Steps p.tables e below (T104.setTop (mkF m 222 #[.val (.int pa), .val (.int pb), .val (.int pq), .val (.int sl2), .val (.int dd), .val (.ref b13), .val (.ref b29), .val (.int (pq &&& (3 : Int32))), .unset] [])) t
                refine XS.iconst X104.here hx rfl (hb hby at_222) ?_
                show Steps p.tables e below (T104.setTop (mkF m 223 #[.val (.int pa), .val (.int pb), .val (.int pq), .val (.int sl2), .val (.int dd), .val (.ref b13), .val (.ref b29), .val (.int (pq &&& (3 : Int32))), .unset] [(.int (1 : Int32))])) t
                refine XS.goto X104.here hx rfl (pc0 := 223) (pc' := 227) rfl (hb hby at_223) (by decide) (by decide) ?_
                show Steps p.tables e below (T104.setTop (mkF m 227 #[.val (.int pa), .val (.int pb), .val (.int pq), .val (.int sl2), .val (.int dd), .val (.ref b13), .val (.ref b29), .val (.int (pq &&& (3 : Int32))), .unset] [(.int (1 : Int32))])) t
                refine XS.istore X104.here hx rfl (hb hby at_227) rfl (l' := #[.val (.int pa), .val (.int pb), .val (.int pq), .val (.int sl2), .val (.int dd), .val (.ref b13), .val (.ref b29), .val (.int (pq &&& (3 : Int32))), .val (.int (1 : Int32))]) rfl ?_
                show Steps p.tables e below (T104.setTop (mkF m 229 #[.val (.int pa), .val (.int pb), .val (.int pq), .val (.int sl2), .val (.int dd), .val (.ref b13), .val (.ref b29), .val (.int (pq &&& (3 : Int32))), .val (.int (1 : Int32))] [])) t
                refine XS.aload X104.here hx rfl (hb hby at_229) rfl rfl ?_
                show Steps p.tables e below (T104.setTop (mkF m 231 #[.val (.int pa), .val (.int pb), .val (.int pq), .val (.int sl2), .val (.int dd), .val (.ref b13), .val (.ref b29), .val (.int (pq &&& (3 : Int32))), .val (.int (1 : Int32))] [(.ref b13)])) t
                refine XS.aload X104.here hx rfl (hb hby at_231) rfl rfl ?_
                show Steps p.tables e below (T104.setTop (mkF m 233 #[.val (.int pa), .val (.int pb), .val (.int pq), .val (.int sl2), .val (.int dd), .val (.ref b13), .val (.ref b29), .val (.int (pq &&& (3 : Int32))), .val (.int (1 : Int32))] [(.ref b29), (.ref b13)])) t
                refine st106.trans ?_
                exact k
              have R136 := R135
              rw [(own_teqY hk0_ hk1_ hk2_)] at R136
              obtain ⟨cq137, kq137, q137a, q137b, q137c⟩ := isOf hZ57 e106 y57_0
              obtain ⟨_, _, ⟨T137, L137, k137, n137⟩, -, X137, ⟨Lc137, hQ137, cl_137, cy_137, cz_137⟩, st137⟩ := X106.virtualBack hx (y := (⟨"com/example/relayout/relayout/plan/Transfer", "equals", "(Ljava/lang/Object;)Z"⟩ : MethodName)) (z := (⟨"com/example/relayout/relayout/plan/Transfer", "equals", "(Ljava/lang/Object;)Z"⟩ : MethodName)) hown57 (mvT hZ57 (hw _ (List.mem_of_getElem? (i := 60) rfl))) (mvT hZ57 (hw _ (List.mem_of_getElem? (i := 61) rfl))) (notFace_of_selects (args := #[]) (mvT hZ57 (hw _ (List.mem_of_getElem? (i := 63) rfl)))) (mvT hZ57 (hw _ (List.mem_of_getElem? (i := 63) rfl))) (mvT hZ57 (hw _ (List.mem_of_getElem? (i := 62) rfl))) (by decide) (backOf (W := 0) (trEq l Z a0 hw [] zCS wcI ccI b29 b13 b36 tt36 kb36 nn36 vs36 (own_key dd) b42 tt42 kb42 nn42 vs42 (own_key ((dd.toUInt32 >>> ((9 : Int32) &&& 31).toUInt32).toInt32)) b49 tt49 kb49 nn49 vs49 (own_key ((dd.toUInt32 >>> ((18 : Int32) &&& 31).toUInt32).toInt32)) b16 tt16 kb16 nn16 vs16 (own_key pa) b18 tt18 kb18 nn18 vs18 (own_key ((pa.toUInt32 >>> ((9 : Int32) &&& 31).toUInt32).toInt32)) b21 tt21 kb21 nn21 vs21 (own_key ((pa.toUInt32 >>> ((18 : Int32) &&& 31).toUInt32).toInt32)) T57.heap n0 O57 S_CS hCS hcT0 hcT1 hcT2 hcH hcW S_cI B_cI S_hi   y57_0 y57_1 y57_2 y57_3 f107 f108 f109 f110 f123 f124 f125 f126 CC3 f127 f128 f129 f130 CC4 f131 f132 f133 f134 CC5 f111 f112 f113 f114 CC0 f115 f116 f117 f118 CC1 f119 f120 f121 f122 CC2) hZ57 (hw _ (List.mem_of_getElem? (i := 64) rfl)) (hw _ (List.mem_of_getElem? (i := 2) rfl)) (by decide) (by decide)) q137a q137c (g := (mkF m 245 #[.val (.int pa), .val (.int pb), .val (.int pq), .val (.int sl2), .val (.int dd), .val (.ref b13), .val (.ref b29), .val (.int (pq &&& (3 : Int32))), .val (.int (1 : Int32))] [(.ref b13), (.ref b29)])) rfl (by rw [hml]; rfl) (Steps.refl _) (argsL := [(.ref b13)]) (rest := []) (lenOf pd_8 rfl) rfl (by show 2 * 0 + _ ≤ _; exact Nat.le_of_eq rfl) (hb hby at_245) (fun _ _ => ⟨rfl, e106, (by decide : 26 + 0 ≤ _), (by decide : 140 + 0 ≤ _)⟩)
              dsimp only [Pt.U, Pt.locs, Pt.cells, Pt.slots] at X137 cl_137 cy_137 cz_137 st137 hQ137
              rw [cl_137, cy_137, cz_137] at X137
              obtain ⟨rfl, N137q, e137⟩ := hQ137
              have N137 := Fr.app N106 N137q
              have R138 : ∀ t, Steps p.tables e below (T137.setTop (mkF m 248 #[.val (.int pa), .val (.int pb), .val (.int pq), .val (.int sl2), .val (.int dd), .val (.ref b13), .val (.ref b29), .val (.int (pq &&& (3 : Int32))), .val (.int (1 : Int32))] [(.int (own_teq (own_key dd) (own_key pa) (own_key ((dd.toUInt32 >>> ((9 : Int32) &&& 31).toUInt32).toInt32)) (own_key ((pa.toUInt32 >>> ((9 : Int32) &&& 31).toUInt32).toInt32)) (own_key ((dd.toUInt32 >>> ((18 : Int32) &&& 31).toUInt32).toInt32)) (own_key ((pa.toUInt32 >>> ((18 : Int32) &&& 31).toUInt32).toInt32))))])) t → Steps p.tables e below (s₁.setTop (entryFrame m #[(.int pa), (.int pb), (.int pq)] maxLocals)) t := by
                intro t k
                refine R136 t ?_
                show Steps p.tables e below (T106.setTop (mkF m 236 #[.val (.int pa), .val (.int pb), .val (.int pq), .val (.int sl2), .val (.int dd), .val (.ref b13), .val (.ref b29), .val (.int (pq &&& (3 : Int32))), .val (.int (1 : Int32))] [(.int (1 : Int32))])) t
                refine XS.iload X106.here hx rfl (hb hby at_236) rfl ?_
                show Steps p.tables e below (T106.setTop (mkF m 238 #[.val (.int pa), .val (.int pb), .val (.int pq), .val (.int sl2), .val (.int dd), .val (.ref b13), .val (.ref b29), .val (.int (pq &&& (3 : Int32))), .val (.int (1 : Int32))] [(.int (1 : Int32)), (.int (1 : Int32))])) t
                refine XS.icmpNo X106.here hx rfl (hb hby at_238) rfl (teq ((by decide) : (1 : Int32) = (1 : Int32))).2 ?_
                show Steps p.tables e below (T106.setTop (mkF m 241 #[.val (.int pa), .val (.int pb), .val (.int pq), .val (.int sl2), .val (.int dd), .val (.ref b13), .val (.ref b29), .val (.int (pq &&& (3 : Int32))), .val (.int (1 : Int32))] [])) t
                refine XS.aload X106.here hx rfl (hb hby at_241) rfl rfl ?_
                show Steps p.tables e below (T106.setTop (mkF m 243 #[.val (.int pa), .val (.int pb), .val (.int pq), .val (.int sl2), .val (.int dd), .val (.ref b13), .val (.ref b29), .val (.int (pq &&& (3 : Int32))), .val (.int (1 : Int32))] [(.ref b29)])) t
                refine XS.aload X106.here hx rfl (hb hby at_243) rfl rfl ?_
                show Steps p.tables e below (T106.setTop (mkF m 245 #[.val (.int pa), .val (.int pb), .val (.int pq), .val (.int sl2), .val (.int dd), .val (.ref b13), .val (.ref b29), .val (.int (pq &&& (3 : Int32))), .val (.int (1 : Int32))] [(.ref b13), (.ref b29)])) t
                refine st137.trans ?_
                exact k
              have R139 := R138
              rw [(own_teqY hk0_.symm hk1_.symm hk2_.symm)] at R139
              have R140 : ∀ t, Steps p.tables e below (T137.setTop (mkF m 258 #[.val (.int pa), .val (.int pb), .val (.int pq), .val (.int sl2), .val (.int dd), .val (.ref b13), .val (.ref b29), .val (.int (pq &&& (3 : Int32))), .val (.int (1 : Int32))] [(.int (1 : Int32))])) t → Steps p.tables e below (s₁.setTop (entryFrame m #[(.int pa), (.int pb), (.int pq)] maxLocals)) t := by
                intro t k
                refine R139 t ?_
                show Steps p.tables e below (T137.setTop (mkF m 248 #[.val (.int pa), .val (.int pb), .val (.int pq), .val (.int sl2), .val (.int dd), .val (.ref b13), .val (.ref b29), .val (.int (pq &&& (3 : Int32))), .val (.int (1 : Int32))] [(.int (1 : Int32))])) t
                refine XS.iload X137.here hx rfl (hb hby at_248) rfl ?_
                show Steps p.tables e below (T137.setTop (mkF m 250 #[.val (.int pa), .val (.int pb), .val (.int pq), .val (.int sl2), .val (.int dd), .val (.ref b13), .val (.ref b29), .val (.int (pq &&& (3 : Int32))), .val (.int (1 : Int32))] [(.int (1 : Int32)), (.int (1 : Int32))])) t
                refine XS.icmpNo X137.here hx rfl (hb hby at_250) rfl (teq ((by decide) : (1 : Int32) = (1 : Int32))).2 ?_
                show Steps p.tables e below (T137.setTop (mkF m 253 #[.val (.int pa), .val (.int pb), .val (.int pq), .val (.int sl2), .val (.int dd), .val (.ref b13), .val (.ref b29), .val (.int (pq &&& (3 : Int32))), .val (.int (1 : Int32))] [])) t
                refine XS.iconst X137.here hx rfl (hb hby at_253) ?_
                show Steps p.tables e below (T137.setTop (mkF m 254 #[.val (.int pa), .val (.int pb), .val (.int pq), .val (.int sl2), .val (.int dd), .val (.ref b13), .val (.ref b29), .val (.int (pq &&& (3 : Int32))), .val (.int (1 : Int32))] [(.int (1 : Int32))])) t
                refine XS.goto X137.here hx rfl (pc0 := 254) (pc' := 258) rfl (hb hby at_254) (by decide) (by decide) ?_
                exact k
              obtain ⟨fs, hr, hrun, hended, hRW⟩ := X137.leaveW hS57 (by rw [e137]; exact hk57) (v := some (.int (1 : Int32))) (fun h => by rw [Bd.returns] at h; cases h)
              refine ⟨_, _, R140 _ ?_, hrun, hended, _, _, rfl, ?_, hRW.1, hRW.2.1, hRW.2.2.1, hRW.2.2.2.mono (by decide) (by decide)⟩
              · show Steps p.tables e below (T137.setTop (mkF m 258 #[.val (.int pa), .val (.int pb), .val (.int pq), .val (.int sl2), .val (.int dd), .val (.ref b13), .val (.ref b29), .val (.int (pq &&& (3 : Int32))), .val (.int (1 : Int32))] [(.int (1 : Int32))])) _
                exact retN X137 hx (t := .boolean) Bd.returns (by simp) (hb hby at_258) hr
              · show Q_rm0 Z zCS wcI ccI pa pb pq h0 n0 _ T137.heap _
                rw [e137]
                exact ⟨rfl, N137⟩
            · have f142 : Exa Z T57.heap b13 "com/example/relayout/relayout/plan/Transfer" := (f50.keep K57q)
              have f143 : Fld Z T57.heap b13 "com/example/relayout/relayout/plan/Transfer" "item" "Ljava/lang/String;" (.ref b16) := (((((y25_1.ext E29).keep K36q nin0).keep K42q nin0).keep K49q nin0).keep K57q (ninS ne_b13_b29 nin0))
              have f144 : Fld Z T57.heap b13 "com/example/relayout/relayout/plan/Transfer" "from" "Ljava/lang/String;" (.ref b18) := (((((y25_2.ext E29).keep K36q nin0).keep K42q nin0).keep K49q nin0).keep K57q (ninS ne_b13_b29 nin0))
              have f145 : Fld Z T57.heap b13 "com/example/relayout/relayout/plan/Transfer" "to" "Ljava/lang/String;" (.ref b21) := (((((y25_3.ext E29).keep K36q nin0).keep K42q nin0).keep K49q nin0).keep K57q (ninS ne_b13_b29 nin0))
              have f146 : Exa Z T57.heap b16 "java/lang/String" := (f52.keep K57q)
              have f147 : Fld Z T57.heap b16 "java/lang/String" "coder" "B" (.int (0 : Int32)) := ((((((((y16_1.keep K18q nin0).keep K21q nin0).keep K25q (ninS (Ne.symm ne_b13_b16) nin0)).ext E29).keep K36q nin0).keep K42q nin0).keep K49q nin0).keep K57q (ninS ne_b16_b29 nin0))
              have f148 : Fld Z T57.heap b16 "java/lang/String" "value" "[B" (.ref tt16) := ((((((((y16_2.keep K18q nin0).keep K21q nin0).keep K25q (ninS (Ne.symm ne_b13_b16) nin0)).ext E29).keep K36q nin0).keep K42q nin0).keep K49q nin0).keep K57q (ninS ne_b16_b29 nin0))
              have f149 : Arv Z T57.heap tt16 kb16 .byte nn16 vs16 (.int 0) := (((((f31.ext E29).keep K36q nin0).keep K42q nin0).keep K49q nin0).keep K57q (ninS ne_tt16_b29 nin0))
              have f150 : Exa Z T57.heap b18 "java/lang/String" := (f53.keep K57q)
              have f151 : Fld Z T57.heap b18 "java/lang/String" "coder" "B" (.int (0 : Int32)) := (((((((y18_1.keep K21q nin0).keep K25q (ninS (Ne.symm ne_b13_b18) nin0)).ext E29).keep K36q nin0).keep K42q nin0).keep K49q nin0).keep K57q (ninS ne_b18_b29 nin0))
              have f152 : Fld Z T57.heap b18 "java/lang/String" "value" "[B" (.ref tt18) := (((((((y18_2.keep K21q nin0).keep K25q (ninS (Ne.symm ne_b13_b18) nin0)).ext E29).keep K36q nin0).keep K42q nin0).keep K49q nin0).keep K57q (ninS ne_b18_b29 nin0))
              have f153 : Arv Z T57.heap tt18 kb18 .byte nn18 vs18 (.int 0) := (((((f33.ext E29).keep K36q nin0).keep K42q nin0).keep K49q nin0).keep K57q (ninS ne_tt18_b29 nin0))
              have f154 : Exa Z T57.heap b21 "java/lang/String" := (f54.keep K57q)
              have f155 : Fld Z T57.heap b21 "java/lang/String" "coder" "B" (.int (0 : Int32)) := ((((((y21_1.keep K25q (ninS (Ne.symm ne_b13_b21) nin0)).ext E29).keep K36q nin0).keep K42q nin0).keep K49q nin0).keep K57q (ninS ne_b21_b29 nin0))
              have f156 : Fld Z T57.heap b21 "java/lang/String" "value" "[B" (.ref tt21) := ((((((y21_2.keep K25q (ninS (Ne.symm ne_b13_b21) nin0)).ext E29).keep K36q nin0).keep K42q nin0).keep K49q nin0).keep K57q (ninS ne_b21_b29 nin0))
              have f157 : Arv Z T57.heap tt21 kb21 .byte nn21 vs21 (.int 0) := (((((f35.ext E29).keep K36q nin0).keep K42q nin0).keep K49q nin0).keep K57q (ninS ne_tt21_b29 nin0))
              have f158 : Exa Z T57.heap b36 "java/lang/String" := (f55.keep K57q)
              have f159 : Fld Z T57.heap b36 "java/lang/String" "coder" "B" (.int (0 : Int32)) := (((y36_1.keep K42q nin0).keep K49q nin0).keep K57q (ninS (Ne.symm ne_b29_b36) nin0))
              have f160 : Fld Z T57.heap b36 "java/lang/String" "value" "[B" (.ref tt36) := (((y36_2.keep K42q nin0).keep K49q nin0).keep K57q (ninS (Ne.symm ne_b29_b36) nin0))
              have f161 : Arv Z T57.heap tt36 kb36 .byte nn36 vs36 (.int 0) := (((y36_3.keep K42q nin0).keep K49q nin0).keep K57q (ninS (Ne.symm ne_b29_tt36) nin0))
              have f162 : Exa Z T57.heap b42 "java/lang/String" := (f56.keep K57q)
              have f163 : Fld Z T57.heap b42 "java/lang/String" "coder" "B" (.int (0 : Int32)) := ((y42_1.keep K49q nin0).keep K57q (ninS (Ne.symm ne_b29_b42) nin0))
              have f164 : Fld Z T57.heap b42 "java/lang/String" "value" "[B" (.ref tt42) := ((y42_2.keep K49q nin0).keep K57q (ninS (Ne.symm ne_b29_b42) nin0))
              have f165 : Arv Z T57.heap tt42 kb42 .byte nn42 vs42 (.int 0) := ((y42_3.keep K49q nin0).keep K57q (ninS (Ne.symm ne_b29_tt42) nin0))
              have f166 : Exa Z T57.heap b49 "java/lang/String" := (y49_0.keep K57q)
              have f167 : Fld Z T57.heap b49 "java/lang/String" "coder" "B" (.int (0 : Int32)) := (y49_1.keep K57q (ninS (Ne.symm ne_b29_b49) nin0))
              have f168 : Fld Z T57.heap b49 "java/lang/String" "value" "[B" (.ref tt49) := (y49_2.keep K57q (ninS (Ne.symm ne_b29_b49) nin0))
              have f169 : Arv Z T57.heap tt49 kb49 .byte nn49 vs49 (.int 0) := (y49_3.keep K57q (ninS (Ne.symm ne_b29_tt49) nin0))
              obtain ⟨cq141, kq141, q141a, q141b, q141c⟩ := isOf hZ57 e104 f142
              obtain ⟨_, _, ⟨T141, L141, k141, n141⟩, -, X141, ⟨Lc141, hQ141, cl_141, cy_141, cz_141⟩, st141⟩ := X104.virtualBack hx (y := (⟨"com/example/relayout/relayout/plan/Transfer", "equals", "(Ljava/lang/Object;)Z"⟩ : MethodName)) (z := (⟨"com/example/relayout/relayout/plan/Transfer", "equals", "(Ljava/lang/Object;)Z"⟩ : MethodName)) hown57 (mvT hZ57 (hw _ (List.mem_of_getElem? (i := 60) rfl))) (mvT hZ57 (hw _ (List.mem_of_getElem? (i := 61) rfl))) (notFace_of_selects (args := #[]) (mvT hZ57 (hw _ (List.mem_of_getElem? (i := 63) rfl)))) (mvT hZ57 (hw _ (List.mem_of_getElem? (i := 63) rfl))) (mvT hZ57 (hw _ (List.mem_of_getElem? (i := 62) rfl))) (by decide) (backOf (W := 0) (trEq l Z a0 hw [] zCS wcI ccI b13 b29 b16 tt16 kb16 nn16 vs16 (own_key pa) b18 tt18 kb18 nn18 vs18 (own_key ((pa.toUInt32 >>> ((9 : Int32) &&& 31).toUInt32).toInt32)) b21 tt21 kb21 nn21 vs21 (own_key ((pa.toUInt32 >>> ((18 : Int32) &&& 31).toUInt32).toInt32)) b36 tt36 kb36 nn36 vs36 (own_key dd) b42 tt42 kb42 nn42 vs42 (own_key ((dd.toUInt32 >>> ((9 : Int32) &&& 31).toUInt32).toInt32)) b49 tt49 kb49 nn49 vs49 (own_key ((dd.toUInt32 >>> ((18 : Int32) &&& 31).toUInt32).toInt32)) T57.heap n0 O57 S_CS hCS hcT0 hcT1 hcT2 hcH hcW S_cI B_cI S_hi   f142 f143 f144 f145 y57_0 y57_1 y57_2 y57_3 f146 f147 f148 f149 CC0 f150 f151 f152 f153 CC1 f154 f155 f156 f157 CC2 f158 f159 f160 f161 CC3 f162 f163 f164 f165 CC4 f166 f167 f168 f169 CC5) hZ57 (hw _ (List.mem_of_getElem? (i := 64) rfl)) (hw _ (List.mem_of_getElem? (i := 2) rfl)) (by decide) (by decide)) q141a q141c (g := (mkF m 233 #[.val (.int pa), .val (.int pb), .val (.int pq), .val (.int sl2), .val (.int dd), .val (.ref b13), .val (.ref b29), .val (.int (pq &&& (3 : Int32))), .val (.int (0 : Int32))] [(.ref b29), (.ref b13)])) rfl (by rw [hml]; rfl) (Steps.refl _) (argsL := [(.ref b29)]) (rest := []) (lenOf pd_8 rfl) rfl (by show 2 * 0 + _ ≤ _; exact Nat.le_of_eq rfl) (hb hby at_233) (fun _ _ => ⟨rfl, e104, (by decide : 26 + 0 ≤ _), (by decide : 140 + 0 ≤ _)⟩)
              dsimp only [Pt.U, Pt.locs, Pt.cells, Pt.slots] at X141 cl_141 cy_141 cz_141 st141 hQ141
              rw [cl_141, cy_141, cz_141] at X141
              obtain ⟨rfl, N141q, e141⟩ := hQ141
              have N141 := Fr.app N104 N141q
              have R170 : ∀ t, Steps p.tables e below (T141.setTop (mkF m 236 #[.val (.int pa), .val (.int pb), .val (.int pq), .val (.int sl2), .val (.int dd), .val (.ref b13), .val (.ref b29), .val (.int (pq &&& (3 : Int32))), .val (.int (0 : Int32))] [(.int (own_teq (own_key pa) (own_key dd) (own_key ((pa.toUInt32 >>> ((9 : Int32) &&& 31).toUInt32).toInt32)) (own_key ((dd.toUInt32 >>> ((9 : Int32) &&& 31).toUInt32).toInt32)) (own_key ((pa.toUInt32 >>> ((18 : Int32) &&& 31).toUInt32).toInt32)) (own_key ((dd.toUInt32 >>> ((18 : Int32) &&& 31).toUInt32).toInt32))))])) t → Steps p.tables e below (s₁.setTop (entryFrame m #[(.int pa), (.int pb), (.int pq)] maxLocals)) t := by
                intro t k
                refine R105 t ?_
                show Steps p.tables e below (T104.setTop (mkF m 219 #[.val (.int pa), .val (.int pb), .val (.int pq), .val (.int sl2), .val (.int dd), .val (.ref b13), .val (.ref b29), .val (.int (pq &&& (3 : Int32))), .unset] [(.int (own_key ((dd.toUInt32 >>> ((18 : Int32) &&& 31).toUInt32).toInt32))), (.int (own_key ((pa.toUInt32 >>> ((18 : Int32) &&& 31).toUInt32).toInt32)))])) t
                refine XS.icmpYes X104.here hx rfl (pc0 := 219) (pc' := 226) rfl (hb hby at_219) rfl (feq (hk2_ : ¬ ((own_key ((pa.toUInt32 >>> ((18 : Int32) &&& 31).toUInt32).toInt32)) = (own_key ((dd.toUInt32 >>> ((18 : Int32) &&& 31).toUInt32).toInt32))))).2 (by decide) (by decide) ?_
                show Steps p.tables e below (T104.setTop (mkF m 226 #[.val (.int pa), .val (.int pb), .val (.int pq), .val (.int sl2), .val (.int dd), .val (.ref b13), .val (.ref b29), .val (.int (pq &&& (3 : Int32))), .unset] [])) t
                refine XS.iconst X104.here hx rfl (hb hby at_226) ?_
                show Steps p.tables e below (T104.setTop (mkF m 227 #[.val (.int pa), .val (.int pb), .val (.int pq), .val (.int sl2), .val (.int dd), .val (.ref b13), .val (.ref b29), .val (.int (pq &&& (3 : Int32))), .unset] [(.int (0 : Int32))])) t
                refine XS.istore X104.here hx rfl (hb hby at_227) rfl (l' := #[.val (.int pa), .val (.int pb), .val (.int pq), .val (.int sl2), .val (.int dd), .val (.ref b13), .val (.ref b29), .val (.int (pq &&& (3 : Int32))), .val (.int (0 : Int32))]) rfl ?_
                show Steps p.tables e below (T104.setTop (mkF m 229 #[.val (.int pa), .val (.int pb), .val (.int pq), .val (.int sl2), .val (.int dd), .val (.ref b13), .val (.ref b29), .val (.int (pq &&& (3 : Int32))), .val (.int (0 : Int32))] [])) t
                refine XS.aload X104.here hx rfl (hb hby at_229) rfl rfl ?_
                show Steps p.tables e below (T104.setTop (mkF m 231 #[.val (.int pa), .val (.int pb), .val (.int pq), .val (.int sl2), .val (.int dd), .val (.ref b13), .val (.ref b29), .val (.int (pq &&& (3 : Int32))), .val (.int (0 : Int32))] [(.ref b13)])) t
                refine XS.aload X104.here hx rfl (hb hby at_231) rfl rfl ?_
                show Steps p.tables e below (T104.setTop (mkF m 233 #[.val (.int pa), .val (.int pb), .val (.int pq), .val (.int sl2), .val (.int dd), .val (.ref b13), .val (.ref b29), .val (.int (pq &&& (3 : Int32))), .val (.int (0 : Int32))] [(.ref b29), (.ref b13)])) t
                refine st141.trans ?_
                exact k
              have R171 := R170
              rw [(own_teq3 hk0_ hk1_ hk2_)] at R171
              obtain ⟨cq172, kq172, q172a, q172b, q172c⟩ := isOf hZ57 e141 y57_0
              obtain ⟨_, _, ⟨T172, L172, k172, n172⟩, -, X172, ⟨Lc172, hQ172, cl_172, cy_172, cz_172⟩, st172⟩ := X141.virtualBack hx (y := (⟨"com/example/relayout/relayout/plan/Transfer", "equals", "(Ljava/lang/Object;)Z"⟩ : MethodName)) (z := (⟨"com/example/relayout/relayout/plan/Transfer", "equals", "(Ljava/lang/Object;)Z"⟩ : MethodName)) hown57 (mvT hZ57 (hw _ (List.mem_of_getElem? (i := 60) rfl))) (mvT hZ57 (hw _ (List.mem_of_getElem? (i := 61) rfl))) (notFace_of_selects (args := #[]) (mvT hZ57 (hw _ (List.mem_of_getElem? (i := 63) rfl)))) (mvT hZ57 (hw _ (List.mem_of_getElem? (i := 63) rfl))) (mvT hZ57 (hw _ (List.mem_of_getElem? (i := 62) rfl))) (by decide) (backOf (W := 0) (trEq l Z a0 hw [] zCS wcI ccI b29 b13 b36 tt36 kb36 nn36 vs36 (own_key dd) b42 tt42 kb42 nn42 vs42 (own_key ((dd.toUInt32 >>> ((9 : Int32) &&& 31).toUInt32).toInt32)) b49 tt49 kb49 nn49 vs49 (own_key ((dd.toUInt32 >>> ((18 : Int32) &&& 31).toUInt32).toInt32)) b16 tt16 kb16 nn16 vs16 (own_key pa) b18 tt18 kb18 nn18 vs18 (own_key ((pa.toUInt32 >>> ((9 : Int32) &&& 31).toUInt32).toInt32)) b21 tt21 kb21 nn21 vs21 (own_key ((pa.toUInt32 >>> ((18 : Int32) &&& 31).toUInt32).toInt32)) T57.heap n0 O57 S_CS hCS hcT0 hcT1 hcT2 hcH hcW S_cI B_cI S_hi   y57_0 y57_1 y57_2 y57_3 f142 f143 f144 f145 f158 f159 f160 f161 CC3 f162 f163 f164 f165 CC4 f166 f167 f168 f169 CC5 f146 f147 f148 f149 CC0 f150 f151 f152 f153 CC1 f154 f155 f156 f157 CC2) hZ57 (hw _ (List.mem_of_getElem? (i := 64) rfl)) (hw _ (List.mem_of_getElem? (i := 2) rfl)) (by decide) (by decide)) q172a q172c (g := (mkF m 245 #[.val (.int pa), .val (.int pb), .val (.int pq), .val (.int sl2), .val (.int dd), .val (.ref b13), .val (.ref b29), .val (.int (pq &&& (3 : Int32))), .val (.int (0 : Int32))] [(.ref b13), (.ref b29)])) rfl (by rw [hml]; rfl) (Steps.refl _) (argsL := [(.ref b13)]) (rest := []) (lenOf pd_8 rfl) rfl (by show 2 * 0 + _ ≤ _; exact Nat.le_of_eq rfl) (hb hby at_245) (fun _ _ => ⟨rfl, e141, (by decide : 26 + 0 ≤ _), (by decide : 140 + 0 ≤ _)⟩)
              dsimp only [Pt.U, Pt.locs, Pt.cells, Pt.slots] at X172 cl_172 cy_172 cz_172 st172 hQ172
              rw [cl_172, cy_172, cz_172] at X172
              obtain ⟨rfl, N172q, e172⟩ := hQ172
              have N172 := Fr.app N141 N172q
              have R173 : ∀ t, Steps p.tables e below (T172.setTop (mkF m 248 #[.val (.int pa), .val (.int pb), .val (.int pq), .val (.int sl2), .val (.int dd), .val (.ref b13), .val (.ref b29), .val (.int (pq &&& (3 : Int32))), .val (.int (0 : Int32))] [(.int (own_teq (own_key dd) (own_key pa) (own_key ((dd.toUInt32 >>> ((9 : Int32) &&& 31).toUInt32).toInt32)) (own_key ((pa.toUInt32 >>> ((9 : Int32) &&& 31).toUInt32).toInt32)) (own_key ((dd.toUInt32 >>> ((18 : Int32) &&& 31).toUInt32).toInt32)) (own_key ((pa.toUInt32 >>> ((18 : Int32) &&& 31).toUInt32).toInt32))))])) t → Steps p.tables e below (s₁.setTop (entryFrame m #[(.int pa), (.int pb), (.int pq)] maxLocals)) t := by
                intro t k
                refine R171 t ?_
                show Steps p.tables e below (T141.setTop (mkF m 236 #[.val (.int pa), .val (.int pb), .val (.int pq), .val (.int sl2), .val (.int dd), .val (.ref b13), .val (.ref b29), .val (.int (pq &&& (3 : Int32))), .val (.int (0 : Int32))] [(.int (0 : Int32))])) t
                refine XS.iload X141.here hx rfl (hb hby at_236) rfl ?_
                show Steps p.tables e below (T141.setTop (mkF m 238 #[.val (.int pa), .val (.int pb), .val (.int pq), .val (.int sl2), .val (.int dd), .val (.ref b13), .val (.ref b29), .val (.int (pq &&& (3 : Int32))), .val (.int (0 : Int32))] [(.int (0 : Int32)), (.int (0 : Int32))])) t
                refine XS.icmpNo X141.here hx rfl (hb hby at_238) rfl (teq ((by decide) : (0 : Int32) = (0 : Int32))).2 ?_
                show Steps p.tables e below (T141.setTop (mkF m 241 #[.val (.int pa), .val (.int pb), .val (.int pq), .val (.int sl2), .val (.int dd), .val (.ref b13), .val (.ref b29), .val (.int (pq &&& (3 : Int32))), .val (.int (0 : Int32))] [])) t
                refine XS.aload X141.here hx rfl (hb hby at_241) rfl rfl ?_
                show Steps p.tables e below (T141.setTop (mkF m 243 #[.val (.int pa), .val (.int pb), .val (.int pq), .val (.int sl2), .val (.int dd), .val (.ref b13), .val (.ref b29), .val (.int (pq &&& (3 : Int32))), .val (.int (0 : Int32))] [(.ref b29)])) t
                refine XS.aload X141.here hx rfl (hb hby at_243) rfl rfl ?_
                show Steps p.tables e below (T141.setTop (mkF m 245 #[.val (.int pa), .val (.int pb), .val (.int pq), .val (.int sl2), .val (.int dd), .val (.ref b13), .val (.ref b29), .val (.int (pq &&& (3 : Int32))), .val (.int (0 : Int32))] [(.ref b13), (.ref b29)])) t
                refine st172.trans ?_
                exact k
              have R174 := R173
              rw [(own_teq3 hk0_.symm hk1_.symm (fun e => hk2_ e.symm))] at R174
              have R175 : ∀ t, Steps p.tables e below (T172.setTop (mkF m 258 #[.val (.int pa), .val (.int pb), .val (.int pq), .val (.int sl2), .val (.int dd), .val (.ref b13), .val (.ref b29), .val (.int (pq &&& (3 : Int32))), .val (.int (0 : Int32))] [(.int (1 : Int32))])) t → Steps p.tables e below (s₁.setTop (entryFrame m #[(.int pa), (.int pb), (.int pq)] maxLocals)) t := by
                intro t k
                refine R174 t ?_
                show Steps p.tables e below (T172.setTop (mkF m 248 #[.val (.int pa), .val (.int pb), .val (.int pq), .val (.int sl2), .val (.int dd), .val (.ref b13), .val (.ref b29), .val (.int (pq &&& (3 : Int32))), .val (.int (0 : Int32))] [(.int (0 : Int32))])) t
                refine XS.iload X172.here hx rfl (hb hby at_248) rfl ?_
                show Steps p.tables e below (T172.setTop (mkF m 250 #[.val (.int pa), .val (.int pb), .val (.int pq), .val (.int sl2), .val (.int dd), .val (.ref b13), .val (.ref b29), .val (.int (pq &&& (3 : Int32))), .val (.int (0 : Int32))] [(.int (0 : Int32)), (.int (0 : Int32))])) t
                refine XS.icmpNo X172.here hx rfl (hb hby at_250) rfl (teq ((by decide) : (0 : Int32) = (0 : Int32))).2 ?_
                show Steps p.tables e below (T172.setTop (mkF m 253 #[.val (.int pa), .val (.int pb), .val (.int pq), .val (.int sl2), .val (.int dd), .val (.ref b13), .val (.ref b29), .val (.int (pq &&& (3 : Int32))), .val (.int (0 : Int32))] [])) t
                refine XS.iconst X172.here hx rfl (hb hby at_253) ?_
                show Steps p.tables e below (T172.setTop (mkF m 254 #[.val (.int pa), .val (.int pb), .val (.int pq), .val (.int sl2), .val (.int dd), .val (.ref b13), .val (.ref b29), .val (.int (pq &&& (3 : Int32))), .val (.int (0 : Int32))] [(.int (1 : Int32))])) t
                refine XS.goto X172.here hx rfl (pc0 := 254) (pc' := 258) rfl (hb hby at_254) (by decide) (by decide) ?_
                exact k
              obtain ⟨fs, hr, hrun, hended, hRW⟩ := X172.leaveW hS57 (by rw [e172]; exact hk57) (v := some (.int (1 : Int32))) (fun h => by rw [Bd.returns] at h; cases h)
              refine ⟨_, _, R175 _ ?_, hrun, hended, _, _, rfl, ?_, hRW.1, hRW.2.1, hRW.2.2.1, hRW.2.2.2.mono (by decide) (by decide)⟩
              · show Steps p.tables e below (T172.setTop (mkF m 258 #[.val (.int pa), .val (.int pb), .val (.int pq), .val (.int sl2), .val (.int dd), .val (.ref b13), .val (.ref b29), .val (.int (pq &&& (3 : Int32))), .val (.int (0 : Int32))] [(.int (1 : Int32))])) _
                exact retN X172 hx (t := .boolean) Bd.returns (by simp) (hb hby at_258) hr
              · show Q_rm0 Z zCS wcI ccI pa pb pq h0 n0 _ T172.heap _
                rw [e172]
                exact ⟨rfl, N172⟩
          · have f177 : Exa Z T57.heap b13 "com/example/relayout/relayout/plan/Transfer" := (f50.keep K57q)
            have f178 : Fld Z T57.heap b13 "com/example/relayout/relayout/plan/Transfer" "item" "Ljava/lang/String;" (.ref b16) := (((((y25_1.ext E29).keep K36q nin0).keep K42q nin0).keep K49q nin0).keep K57q (ninS ne_b13_b29 nin0))
            have f179 : Fld Z T57.heap b13 "com/example/relayout/relayout/plan/Transfer" "from" "Ljava/lang/String;" (.ref b18) := (((((y25_2.ext E29).keep K36q nin0).keep K42q nin0).keep K49q nin0).keep K57q (ninS ne_b13_b29 nin0))
            have f180 : Fld Z T57.heap b13 "com/example/relayout/relayout/plan/Transfer" "to" "Ljava/lang/String;" (.ref b21) := (((((y25_3.ext E29).keep K36q nin0).keep K42q nin0).keep K49q nin0).keep K57q (ninS ne_b13_b29 nin0))
            have f181 : Exa Z T57.heap b16 "java/lang/String" := (f52.keep K57q)
            have f182 : Fld Z T57.heap b16 "java/lang/String" "coder" "B" (.int (0 : Int32)) := ((((((((y16_1.keep K18q nin0).keep K21q nin0).keep K25q (ninS (Ne.symm ne_b13_b16) nin0)).ext E29).keep K36q nin0).keep K42q nin0).keep K49q nin0).keep K57q (ninS ne_b16_b29 nin0))
            have f183 : Fld Z T57.heap b16 "java/lang/String" "value" "[B" (.ref tt16) := ((((((((y16_2.keep K18q nin0).keep K21q nin0).keep K25q (ninS (Ne.symm ne_b13_b16) nin0)).ext E29).keep K36q nin0).keep K42q nin0).keep K49q nin0).keep K57q (ninS ne_b16_b29 nin0))
            have f184 : Arv Z T57.heap tt16 kb16 .byte nn16 vs16 (.int 0) := (((((f31.ext E29).keep K36q nin0).keep K42q nin0).keep K49q nin0).keep K57q (ninS ne_tt16_b29 nin0))
            have f185 : Exa Z T57.heap b18 "java/lang/String" := (f53.keep K57q)
            have f186 : Fld Z T57.heap b18 "java/lang/String" "coder" "B" (.int (0 : Int32)) := (((((((y18_1.keep K21q nin0).keep K25q (ninS (Ne.symm ne_b13_b18) nin0)).ext E29).keep K36q nin0).keep K42q nin0).keep K49q nin0).keep K57q (ninS ne_b18_b29 nin0))
            have f187 : Fld Z T57.heap b18 "java/lang/String" "value" "[B" (.ref tt18) := (((((((y18_2.keep K21q nin0).keep K25q (ninS (Ne.symm ne_b13_b18) nin0)).ext E29).keep K36q nin0).keep K42q nin0).keep K49q nin0).keep K57q (ninS ne_b18_b29 nin0))
            have f188 : Arv Z T57.heap tt18 kb18 .byte nn18 vs18 (.int 0) := (((((f33.ext E29).keep K36q nin0).keep K42q nin0).keep K49q nin0).keep K57q (ninS ne_tt18_b29 nin0))
            have f189 : Exa Z T57.heap b21 "java/lang/String" := (f54.keep K57q)
            have f190 : Fld Z T57.heap b21 "java/lang/String" "coder" "B" (.int (0 : Int32)) := ((((((y21_1.keep K25q (ninS (Ne.symm ne_b13_b21) nin0)).ext E29).keep K36q nin0).keep K42q nin0).keep K49q nin0).keep K57q (ninS ne_b21_b29 nin0))
            have f191 : Fld Z T57.heap b21 "java/lang/String" "value" "[B" (.ref tt21) := ((((((y21_2.keep K25q (ninS (Ne.symm ne_b13_b21) nin0)).ext E29).keep K36q nin0).keep K42q nin0).keep K49q nin0).keep K57q (ninS ne_b21_b29 nin0))
            have f192 : Arv Z T57.heap tt21 kb21 .byte nn21 vs21 (.int 0) := (((((f35.ext E29).keep K36q nin0).keep K42q nin0).keep K49q nin0).keep K57q (ninS ne_tt21_b29 nin0))
            have f193 : Exa Z T57.heap b36 "java/lang/String" := (f55.keep K57q)
            have f194 : Fld Z T57.heap b36 "java/lang/String" "coder" "B" (.int (0 : Int32)) := (((y36_1.keep K42q nin0).keep K49q nin0).keep K57q (ninS (Ne.symm ne_b29_b36) nin0))
            have f195 : Fld Z T57.heap b36 "java/lang/String" "value" "[B" (.ref tt36) := (((y36_2.keep K42q nin0).keep K49q nin0).keep K57q (ninS (Ne.symm ne_b29_b36) nin0))
            have f196 : Arv Z T57.heap tt36 kb36 .byte nn36 vs36 (.int 0) := (((y36_3.keep K42q nin0).keep K49q nin0).keep K57q (ninS (Ne.symm ne_b29_tt36) nin0))
            have f197 : Exa Z T57.heap b42 "java/lang/String" := (f56.keep K57q)
            have f198 : Fld Z T57.heap b42 "java/lang/String" "coder" "B" (.int (0 : Int32)) := ((y42_1.keep K49q nin0).keep K57q (ninS (Ne.symm ne_b29_b42) nin0))
            have f199 : Fld Z T57.heap b42 "java/lang/String" "value" "[B" (.ref tt42) := ((y42_2.keep K49q nin0).keep K57q (ninS (Ne.symm ne_b29_b42) nin0))
            have f200 : Arv Z T57.heap tt42 kb42 .byte nn42 vs42 (.int 0) := ((y42_3.keep K49q nin0).keep K57q (ninS (Ne.symm ne_b29_tt42) nin0))
            have f201 : Exa Z T57.heap b49 "java/lang/String" := (y49_0.keep K57q)
            have f202 : Fld Z T57.heap b49 "java/lang/String" "coder" "B" (.int (0 : Int32)) := (y49_1.keep K57q (ninS (Ne.symm ne_b29_b49) nin0))
            have f203 : Fld Z T57.heap b49 "java/lang/String" "value" "[B" (.ref tt49) := (y49_2.keep K57q (ninS (Ne.symm ne_b29_b49) nin0))
            have f204 : Arv Z T57.heap tt49 kb49 .byte nn49 vs49 (.int 0) := (y49_3.keep K57q (ninS (Ne.symm ne_b29_tt49) nin0))
            obtain ⟨cq176, kq176, q176a, q176b, q176c⟩ := isOf hZ57 e101 f177
            obtain ⟨_, _, ⟨T176, L176, k176, n176⟩, -, X176, ⟨Lc176, hQ176, cl_176, cy_176, cz_176⟩, st176⟩ := X101.virtualBack hx (y := (⟨"com/example/relayout/relayout/plan/Transfer", "equals", "(Ljava/lang/Object;)Z"⟩ : MethodName)) (z := (⟨"com/example/relayout/relayout/plan/Transfer", "equals", "(Ljava/lang/Object;)Z"⟩ : MethodName)) hown57 (mvT hZ57 (hw _ (List.mem_of_getElem? (i := 60) rfl))) (mvT hZ57 (hw _ (List.mem_of_getElem? (i := 61) rfl))) (notFace_of_selects (args := #[]) (mvT hZ57 (hw _ (List.mem_of_getElem? (i := 63) rfl)))) (mvT hZ57 (hw _ (List.mem_of_getElem? (i := 63) rfl))) (mvT hZ57 (hw _ (List.mem_of_getElem? (i := 62) rfl))) (by decide) (backOf (W := 0) (trEq l Z a0 hw [] zCS wcI ccI b13 b29 b16 tt16 kb16 nn16 vs16 (own_key pa) b18 tt18 kb18 nn18 vs18 (own_key ((pa.toUInt32 >>> ((9 : Int32) &&& 31).toUInt32).toInt32)) b21 tt21 kb21 nn21 vs21 (own_key ((pa.toUInt32 >>> ((18 : Int32) &&& 31).toUInt32).toInt32)) b36 tt36 kb36 nn36 vs36 (own_key dd) b42 tt42 kb42 nn42 vs42 (own_key ((dd.toUInt32 >>> ((9 : Int32) &&& 31).toUInt32).toInt32)) b49 tt49 kb49 nn49 vs49 (own_key ((dd.toUInt32 >>> ((18 : Int32) &&& 31).toUInt32).toInt32)) T57.heap n0 O57 S_CS hCS hcT0 hcT1 hcT2 hcH hcW S_cI B_cI S_hi   f177 f178 f179 f180 y57_0 y57_1 y57_2 y57_3 f181 f182 f183 f184 CC0 f185 f186 f187 f188 CC1 f189 f190 f191 f192 CC2 f193 f194 f195 f196 CC3 f197 f198 f199 f200 CC4 f201 f202 f203 f204 CC5) hZ57 (hw _ (List.mem_of_getElem? (i := 64) rfl)) (hw _ (List.mem_of_getElem? (i := 2) rfl)) (by decide) (by decide)) q176a q176c (g := (mkF m 233 #[.val (.int pa), .val (.int pb), .val (.int pq), .val (.int sl2), .val (.int dd), .val (.ref b13), .val (.ref b29), .val (.int (pq &&& (3 : Int32))), .val (.int (0 : Int32))] [(.ref b29), (.ref b13)])) rfl (by rw [hml]; rfl) (Steps.refl _) (argsL := [(.ref b29)]) (rest := []) (lenOf pd_8 rfl) rfl (by show 2 * 0 + _ ≤ _; exact Nat.le_of_eq rfl) (hb hby at_233) (fun _ _ => ⟨rfl, e101, (by decide : 26 + 0 ≤ _), (by decide : 140 + 0 ≤ _)⟩)
            dsimp only [Pt.U, Pt.locs, Pt.cells, Pt.slots] at X176 cl_176 cy_176 cz_176 st176 hQ176
            rw [cl_176, cy_176, cz_176] at X176
            obtain ⟨rfl, N176q, e176⟩ := hQ176
            have N176 := Fr.app N101 N176q
            have R205 : ∀ t, Steps p.tables e below (T176.setTop (mkF m 236 #[.val (.int pa), .val (.int pb), .val (.int pq), .val (.int sl2), .val (.int dd), .val (.ref b13), .val (.ref b29), .val (.int (pq &&& (3 : Int32))), .val (.int (0 : Int32))] [(.int (own_teq (own_key pa) (own_key dd) (own_key ((pa.toUInt32 >>> ((9 : Int32) &&& 31).toUInt32).toInt32)) (own_key ((dd.toUInt32 >>> ((9 : Int32) &&& 31).toUInt32).toInt32)) (own_key ((pa.toUInt32 >>> ((18 : Int32) &&& 31).toUInt32).toInt32)) (own_key ((dd.toUInt32 >>> ((18 : Int32) &&& 31).toUInt32).toInt32))))])) t → Steps p.tables e below (s₁.setTop (entryFrame m #[(.int pa), (.int pb), (.int pq)] maxLocals)) t := by
              intro t k
              refine R102 t ?_
              show Steps p.tables e below (T101.setTop (mkF m 201 #[.val (.int pa), .val (.int pb), .val (.int pq), .val (.int sl2), .val (.int dd), .val (.ref b13), .val (.ref b29), .val (.int (pq &&& (3 : Int32))), .unset] [(.int (own_key ((dd.toUInt32 >>> ((9 : Int32) &&& 31).toUInt32).toInt32))), (.int (own_key ((pa.toUInt32 >>> ((9 : Int32) &&& 31).toUInt32).toInt32)))])) t
              refine XS.icmpYes X101.here hx rfl (pc0 := 201) (pc' := 226) rfl (hb hby at_201) rfl (feq (hk1_ : ¬ ((own_key ((pa.toUInt32 >>> ((9 : Int32) &&& 31).toUInt32).toInt32)) = (own_key ((dd.toUInt32 >>> ((9 : Int32) &&& 31).toUInt32).toInt32))))).2 (by decide) (by decide) ?_
              show Steps p.tables e below (T101.setTop (mkF m 226 #[.val (.int pa), .val (.int pb), .val (.int pq), .val (.int sl2), .val (.int dd), .val (.ref b13), .val (.ref b29), .val (.int (pq &&& (3 : Int32))), .unset] [])) t
              refine XS.iconst X101.here hx rfl (hb hby at_226) ?_
              show Steps p.tables e below (T101.setTop (mkF m 227 #[.val (.int pa), .val (.int pb), .val (.int pq), .val (.int sl2), .val (.int dd), .val (.ref b13), .val (.ref b29), .val (.int (pq &&& (3 : Int32))), .unset] [(.int (0 : Int32))])) t
              refine XS.istore X101.here hx rfl (hb hby at_227) rfl (l' := #[.val (.int pa), .val (.int pb), .val (.int pq), .val (.int sl2), .val (.int dd), .val (.ref b13), .val (.ref b29), .val (.int (pq &&& (3 : Int32))), .val (.int (0 : Int32))]) rfl ?_
              show Steps p.tables e below (T101.setTop (mkF m 229 #[.val (.int pa), .val (.int pb), .val (.int pq), .val (.int sl2), .val (.int dd), .val (.ref b13), .val (.ref b29), .val (.int (pq &&& (3 : Int32))), .val (.int (0 : Int32))] [])) t
              refine XS.aload X101.here hx rfl (hb hby at_229) rfl rfl ?_
              show Steps p.tables e below (T101.setTop (mkF m 231 #[.val (.int pa), .val (.int pb), .val (.int pq), .val (.int sl2), .val (.int dd), .val (.ref b13), .val (.ref b29), .val (.int (pq &&& (3 : Int32))), .val (.int (0 : Int32))] [(.ref b13)])) t
              refine XS.aload X101.here hx rfl (hb hby at_231) rfl rfl ?_
              show Steps p.tables e below (T101.setTop (mkF m 233 #[.val (.int pa), .val (.int pb), .val (.int pq), .val (.int sl2), .val (.int dd), .val (.ref b13), .val (.ref b29), .val (.int (pq &&& (3 : Int32))), .val (.int (0 : Int32))] [(.ref b29), (.ref b13)])) t
              refine st176.trans ?_
              exact k
            have R206 := R205
            rw [(own_teq2 hk0_ hk1_)] at R206
            obtain ⟨cq207, kq207, q207a, q207b, q207c⟩ := isOf hZ57 e176 y57_0
            obtain ⟨_, _, ⟨T207, L207, k207, n207⟩, -, X207, ⟨Lc207, hQ207, cl_207, cy_207, cz_207⟩, st207⟩ := X176.virtualBack hx (y := (⟨"com/example/relayout/relayout/plan/Transfer", "equals", "(Ljava/lang/Object;)Z"⟩ : MethodName)) (z := (⟨"com/example/relayout/relayout/plan/Transfer", "equals", "(Ljava/lang/Object;)Z"⟩ : MethodName)) hown57 (mvT hZ57 (hw _ (List.mem_of_getElem? (i := 60) rfl))) (mvT hZ57 (hw _ (List.mem_of_getElem? (i := 61) rfl))) (notFace_of_selects (args := #[]) (mvT hZ57 (hw _ (List.mem_of_getElem? (i := 63) rfl)))) (mvT hZ57 (hw _ (List.mem_of_getElem? (i := 63) rfl))) (mvT hZ57 (hw _ (List.mem_of_getElem? (i := 62) rfl))) (by decide) (backOf (W := 0) (trEq l Z a0 hw [] zCS wcI ccI b29 b13 b36 tt36 kb36 nn36 vs36 (own_key dd) b42 tt42 kb42 nn42 vs42 (own_key ((dd.toUInt32 >>> ((9 : Int32) &&& 31).toUInt32).toInt32)) b49 tt49 kb49 nn49 vs49 (own_key ((dd.toUInt32 >>> ((18 : Int32) &&& 31).toUInt32).toInt32)) b16 tt16 kb16 nn16 vs16 (own_key pa) b18 tt18 kb18 nn18 vs18 (own_key ((pa.toUInt32 >>> ((9 : Int32) &&& 31).toUInt32).toInt32)) b21 tt21 kb21 nn21 vs21 (own_key ((pa.toUInt32 >>> ((18 : Int32) &&& 31).toUInt32).toInt32)) T57.heap n0 O57 S_CS hCS hcT0 hcT1 hcT2 hcH hcW S_cI B_cI S_hi   y57_0 y57_1 y57_2 y57_3 f177 f178 f179 f180 f193 f194 f195 f196 CC3 f197 f198 f199 f200 CC4 f201 f202 f203 f204 CC5 f181 f182 f183 f184 CC0 f185 f186 f187 f188 CC1 f189 f190 f191 f192 CC2) hZ57 (hw _ (List.mem_of_getElem? (i := 64) rfl)) (hw _ (List.mem_of_getElem? (i := 2) rfl)) (by decide) (by decide)) q207a q207c (g := (mkF m 245 #[.val (.int pa), .val (.int pb), .val (.int pq), .val (.int sl2), .val (.int dd), .val (.ref b13), .val (.ref b29), .val (.int (pq &&& (3 : Int32))), .val (.int (0 : Int32))] [(.ref b13), (.ref b29)])) rfl (by rw [hml]; rfl) (Steps.refl _) (argsL := [(.ref b13)]) (rest := []) (lenOf pd_8 rfl) rfl (by show 2 * 0 + _ ≤ _; exact Nat.le_of_eq rfl) (hb hby at_245) (fun _ _ => ⟨rfl, e176, (by decide : 26 + 0 ≤ _), (by decide : 140 + 0 ≤ _)⟩)
            dsimp only [Pt.U, Pt.locs, Pt.cells, Pt.slots] at X207 cl_207 cy_207 cz_207 st207 hQ207
            rw [cl_207, cy_207, cz_207] at X207
            obtain ⟨rfl, N207q, e207⟩ := hQ207
            have N207 := Fr.app N176 N207q
            have R208 : ∀ t, Steps p.tables e below (T207.setTop (mkF m 248 #[.val (.int pa), .val (.int pb), .val (.int pq), .val (.int sl2), .val (.int dd), .val (.ref b13), .val (.ref b29), .val (.int (pq &&& (3 : Int32))), .val (.int (0 : Int32))] [(.int (own_teq (own_key dd) (own_key pa) (own_key ((dd.toUInt32 >>> ((9 : Int32) &&& 31).toUInt32).toInt32)) (own_key ((pa.toUInt32 >>> ((9 : Int32) &&& 31).toUInt32).toInt32)) (own_key ((dd.toUInt32 >>> ((18 : Int32) &&& 31).toUInt32).toInt32)) (own_key ((pa.toUInt32 >>> ((18 : Int32) &&& 31).toUInt32).toInt32))))])) t → Steps p.tables e below (s₁.setTop (entryFrame m #[(.int pa), (.int pb), (.int pq)] maxLocals)) t := by
              intro t k
              refine R206 t ?_
              show Steps p.tables e below (T176.setTop (mkF m 236 #[.val (.int pa), .val (.int pb), .val (.int pq), .val (.int sl2), .val (.int dd), .val (.ref b13), .val (.ref b29), .val (.int (pq &&& (3 : Int32))), .val (.int (0 : Int32))] [(.int (0 : Int32))])) t
              refine XS.iload X176.here hx rfl (hb hby at_236) rfl ?_
              show Steps p.tables e below (T176.setTop (mkF m 238 #[.val (.int pa), .val (.int pb), .val (.int pq), .val (.int sl2), .val (.int dd), .val (.ref b13), .val (.ref b29), .val (.int (pq &&& (3 : Int32))), .val (.int (0 : Int32))] [(.int (0 : Int32)), (.int (0 : Int32))])) t
              refine XS.icmpNo X176.here hx rfl (hb hby at_238) rfl (teq ((by decide) : (0 : Int32) = (0 : Int32))).2 ?_
              show Steps p.tables e below (T176.setTop (mkF m 241 #[.val (.int pa), .val (.int pb), .val (.int pq), .val (.int sl2), .val (.int dd), .val (.ref b13), .val (.ref b29), .val (.int (pq &&& (3 : Int32))), .val (.int (0 : Int32))] [])) t
              refine XS.aload X176.here hx rfl (hb hby at_241) rfl rfl ?_
              show Steps p.tables e below (T176.setTop (mkF m 243 #[.val (.int pa), .val (.int pb), .val (.int pq), .val (.int sl2), .val (.int dd), .val (.ref b13), .val (.ref b29), .val (.int (pq &&& (3 : Int32))), .val (.int (0 : Int32))] [(.ref b29)])) t
              refine XS.aload X176.here hx rfl (hb hby at_243) rfl rfl ?_
              show Steps p.tables e below (T176.setTop (mkF m 245 #[.val (.int pa), .val (.int pb), .val (.int pq), .val (.int sl2), .val (.int dd), .val (.ref b13), .val (.ref b29), .val (.int (pq &&& (3 : Int32))), .val (.int (0 : Int32))] [(.ref b13), (.ref b29)])) t
              refine st207.trans ?_
              exact k
            have R209 := R208
            rw [(own_teq2 hk0_.symm (fun e => hk1_ e.symm))] at R209
            have R210 : ∀ t, Steps p.tables e below (T207.setTop (mkF m 258 #[.val (.int pa), .val (.int pb), .val (.int pq), .val (.int sl2), .val (.int dd), .val (.ref b13), .val (.ref b29), .val (.int (pq &&& (3 : Int32))), .val (.int (0 : Int32))] [(.int (1 : Int32))])) t → Steps p.tables e below (s₁.setTop (entryFrame m #[(.int pa), (.int pb), (.int pq)] maxLocals)) t := by
              intro t k
              refine R209 t ?_
              show Steps p.tables e below (T207.setTop (mkF m 248 #[.val (.int pa), .val (.int pb), .val (.int pq), .val (.int sl2), .val (.int dd), .val (.ref b13), .val (.ref b29), .val (.int (pq &&& (3 : Int32))), .val (.int (0 : Int32))] [(.int (0 : Int32))])) t
              refine XS.iload X207.here hx rfl (hb hby at_248) rfl ?_
              show Steps p.tables e below (T207.setTop (mkF m 250 #[.val (.int pa), .val (.int pb), .val (.int pq), .val (.int sl2), .val (.int dd), .val (.ref b13), .val (.ref b29), .val (.int (pq &&& (3 : Int32))), .val (.int (0 : Int32))] [(.int (0 : Int32)), (.int (0 : Int32))])) t
              refine XS.icmpNo X207.here hx rfl (hb hby at_250) rfl (teq ((by decide) : (0 : Int32) = (0 : Int32))).2 ?_
              show Steps p.tables e below (T207.setTop (mkF m 253 #[.val (.int pa), .val (.int pb), .val (.int pq), .val (.int sl2), .val (.int dd), .val (.ref b13), .val (.ref b29), .val (.int (pq &&& (3 : Int32))), .val (.int (0 : Int32))] [])) t
              refine XS.iconst X207.here hx rfl (hb hby at_253) ?_
              show Steps p.tables e below (T207.setTop (mkF m 254 #[.val (.int pa), .val (.int pb), .val (.int pq), .val (.int sl2), .val (.int dd), .val (.ref b13), .val (.ref b29), .val (.int (pq &&& (3 : Int32))), .val (.int (0 : Int32))] [(.int (1 : Int32))])) t
              refine XS.goto X207.here hx rfl (pc0 := 254) (pc' := 258) rfl (hb hby at_254) (by decide) (by decide) ?_
              exact k
            obtain ⟨fs, hr, hrun, hended, hRW⟩ := X207.leaveW hS57 (by rw [e207]; exact hk57) (v := some (.int (1 : Int32))) (fun h => by rw [Bd.returns] at h; cases h)
            refine ⟨_, _, R210 _ ?_, hrun, hended, _, _, rfl, ?_, hRW.1, hRW.2.1, hRW.2.2.1, hRW.2.2.2.mono (by decide) (by decide)⟩
            · show Steps p.tables e below (T207.setTop (mkF m 258 #[.val (.int pa), .val (.int pb), .val (.int pq), .val (.int sl2), .val (.int dd), .val (.ref b13), .val (.ref b29), .val (.int (pq &&& (3 : Int32))), .val (.int (0 : Int32))] [(.int (1 : Int32))])) _
              exact retN X207 hx (t := .boolean) Bd.returns (by simp) (hb hby at_258) hr
            · show Q_rm0 Z zCS wcI ccI pa pb pq h0 n0 _ T207.heap _
              rw [e207]
              exact ⟨rfl, N207⟩
        · have f212 : Exa Z T57.heap b13 "com/example/relayout/relayout/plan/Transfer" := (f50.keep K57q)
          have f213 : Fld Z T57.heap b13 "com/example/relayout/relayout/plan/Transfer" "item" "Ljava/lang/String;" (.ref b16) := (((((y25_1.ext E29).keep K36q nin0).keep K42q nin0).keep K49q nin0).keep K57q (ninS ne_b13_b29 nin0))
          have f214 : Fld Z T57.heap b13 "com/example/relayout/relayout/plan/Transfer" "from" "Ljava/lang/String;" (.ref b18) := (((((y25_2.ext E29).keep K36q nin0).keep K42q nin0).keep K49q nin0).keep K57q (ninS ne_b13_b29 nin0))
          have f215 : Fld Z T57.heap b13 "com/example/relayout/relayout/plan/Transfer" "to" "Ljava/lang/String;" (.ref b21) := (((((y25_3.ext E29).keep K36q nin0).keep K42q nin0).keep K49q nin0).keep K57q (ninS ne_b13_b29 nin0))
          have f216 : Exa Z T57.heap b16 "java/lang/String" := (f52.keep K57q)
          have f217 : Fld Z T57.heap b16 "java/lang/String" "coder" "B" (.int (0 : Int32)) := ((((((((y16_1.keep K18q nin0).keep K21q nin0).keep K25q (ninS (Ne.symm ne_b13_b16) nin0)).ext E29).keep K36q nin0).keep K42q nin0).keep K49q nin0).keep K57q (ninS ne_b16_b29 nin0))
          have f218 : Fld Z T57.heap b16 "java/lang/String" "value" "[B" (.ref tt16) := ((((((((y16_2.keep K18q nin0).keep K21q nin0).keep K25q (ninS (Ne.symm ne_b13_b16) nin0)).ext E29).keep K36q nin0).keep K42q nin0).keep K49q nin0).keep K57q (ninS ne_b16_b29 nin0))
          have f219 : Arv Z T57.heap tt16 kb16 .byte nn16 vs16 (.int 0) := (((((f31.ext E29).keep K36q nin0).keep K42q nin0).keep K49q nin0).keep K57q (ninS ne_tt16_b29 nin0))
          have f220 : Exa Z T57.heap b18 "java/lang/String" := (f53.keep K57q)
          have f221 : Fld Z T57.heap b18 "java/lang/String" "coder" "B" (.int (0 : Int32)) := (((((((y18_1.keep K21q nin0).keep K25q (ninS (Ne.symm ne_b13_b18) nin0)).ext E29).keep K36q nin0).keep K42q nin0).keep K49q nin0).keep K57q (ninS ne_b18_b29 nin0))
          have f222 : Fld Z T57.heap b18 "java/lang/String" "value" "[B" (.ref tt18) := (((((((y18_2.keep K21q nin0).keep K25q (ninS (Ne.symm ne_b13_b18) nin0)).ext E29).keep K36q nin0).keep K42q nin0).keep K49q nin0).keep K57q (ninS ne_b18_b29 nin0))
          have f223 : Arv Z T57.heap tt18 kb18 .byte nn18 vs18 (.int 0) := (((((f33.ext E29).keep K36q nin0).keep K42q nin0).keep K49q nin0).keep K57q (ninS ne_tt18_b29 nin0))
          have f224 : Exa Z T57.heap b21 "java/lang/String" := (f54.keep K57q)
          have f225 : Fld Z T57.heap b21 "java/lang/String" "coder" "B" (.int (0 : Int32)) := ((((((y21_1.keep K25q (ninS (Ne.symm ne_b13_b21) nin0)).ext E29).keep K36q nin0).keep K42q nin0).keep K49q nin0).keep K57q (ninS ne_b21_b29 nin0))
          have f226 : Fld Z T57.heap b21 "java/lang/String" "value" "[B" (.ref tt21) := ((((((y21_2.keep K25q (ninS (Ne.symm ne_b13_b21) nin0)).ext E29).keep K36q nin0).keep K42q nin0).keep K49q nin0).keep K57q (ninS ne_b21_b29 nin0))
          have f227 : Arv Z T57.heap tt21 kb21 .byte nn21 vs21 (.int 0) := (((((f35.ext E29).keep K36q nin0).keep K42q nin0).keep K49q nin0).keep K57q (ninS ne_tt21_b29 nin0))
          have f228 : Exa Z T57.heap b36 "java/lang/String" := (f55.keep K57q)
          have f229 : Fld Z T57.heap b36 "java/lang/String" "coder" "B" (.int (0 : Int32)) := (((y36_1.keep K42q nin0).keep K49q nin0).keep K57q (ninS (Ne.symm ne_b29_b36) nin0))
          have f230 : Fld Z T57.heap b36 "java/lang/String" "value" "[B" (.ref tt36) := (((y36_2.keep K42q nin0).keep K49q nin0).keep K57q (ninS (Ne.symm ne_b29_b36) nin0))
          have f231 : Arv Z T57.heap tt36 kb36 .byte nn36 vs36 (.int 0) := (((y36_3.keep K42q nin0).keep K49q nin0).keep K57q (ninS (Ne.symm ne_b29_tt36) nin0))
          have f232 : Exa Z T57.heap b42 "java/lang/String" := (f56.keep K57q)
          have f233 : Fld Z T57.heap b42 "java/lang/String" "coder" "B" (.int (0 : Int32)) := ((y42_1.keep K49q nin0).keep K57q (ninS (Ne.symm ne_b29_b42) nin0))
          have f234 : Fld Z T57.heap b42 "java/lang/String" "value" "[B" (.ref tt42) := ((y42_2.keep K49q nin0).keep K57q (ninS (Ne.symm ne_b29_b42) nin0))
          have f235 : Arv Z T57.heap tt42 kb42 .byte nn42 vs42 (.int 0) := ((y42_3.keep K49q nin0).keep K57q (ninS (Ne.symm ne_b29_tt42) nin0))
          have f236 : Exa Z T57.heap b49 "java/lang/String" := (y49_0.keep K57q)
          have f237 : Fld Z T57.heap b49 "java/lang/String" "coder" "B" (.int (0 : Int32)) := (y49_1.keep K57q (ninS (Ne.symm ne_b29_b49) nin0))
          have f238 : Fld Z T57.heap b49 "java/lang/String" "value" "[B" (.ref tt49) := (y49_2.keep K57q (ninS (Ne.symm ne_b29_b49) nin0))
          have f239 : Arv Z T57.heap tt49 kb49 .byte nn49 vs49 (.int 0) := (y49_3.keep K57q (ninS (Ne.symm ne_b29_tt49) nin0))
          obtain ⟨cq211, kq211, q211a, q211b, q211c⟩ := isOf hZ57 e98 f212
          obtain ⟨_, _, ⟨T211, L211, k211, n211⟩, -, X211, ⟨Lc211, hQ211, cl_211, cy_211, cz_211⟩, st211⟩ := X98.virtualBack hx (y := (⟨"com/example/relayout/relayout/plan/Transfer", "equals", "(Ljava/lang/Object;)Z"⟩ : MethodName)) (z := (⟨"com/example/relayout/relayout/plan/Transfer", "equals", "(Ljava/lang/Object;)Z"⟩ : MethodName)) hown57 (mvT hZ57 (hw _ (List.mem_of_getElem? (i := 60) rfl))) (mvT hZ57 (hw _ (List.mem_of_getElem? (i := 61) rfl))) (notFace_of_selects (args := #[]) (mvT hZ57 (hw _ (List.mem_of_getElem? (i := 63) rfl)))) (mvT hZ57 (hw _ (List.mem_of_getElem? (i := 63) rfl))) (mvT hZ57 (hw _ (List.mem_of_getElem? (i := 62) rfl))) (by decide) (backOf (W := 0) (trEq l Z a0 hw [] zCS wcI ccI b13 b29 b16 tt16 kb16 nn16 vs16 (own_key pa) b18 tt18 kb18 nn18 vs18 (own_key ((pa.toUInt32 >>> ((9 : Int32) &&& 31).toUInt32).toInt32)) b21 tt21 kb21 nn21 vs21 (own_key ((pa.toUInt32 >>> ((18 : Int32) &&& 31).toUInt32).toInt32)) b36 tt36 kb36 nn36 vs36 (own_key dd) b42 tt42 kb42 nn42 vs42 (own_key ((dd.toUInt32 >>> ((9 : Int32) &&& 31).toUInt32).toInt32)) b49 tt49 kb49 nn49 vs49 (own_key ((dd.toUInt32 >>> ((18 : Int32) &&& 31).toUInt32).toInt32)) T57.heap n0 O57 S_CS hCS hcT0 hcT1 hcT2 hcH hcW S_cI B_cI S_hi   f212 f213 f214 f215 y57_0 y57_1 y57_2 y57_3 f216 f217 f218 f219 CC0 f220 f221 f222 f223 CC1 f224 f225 f226 f227 CC2 f228 f229 f230 f231 CC3 f232 f233 f234 f235 CC4 f236 f237 f238 f239 CC5) hZ57 (hw _ (List.mem_of_getElem? (i := 64) rfl)) (hw _ (List.mem_of_getElem? (i := 2) rfl)) (by decide) (by decide)) q211a q211c (g := (mkF m 233 #[.val (.int pa), .val (.int pb), .val (.int pq), .val (.int sl2), .val (.int dd), .val (.ref b13), .val (.ref b29), .val (.int (pq &&& (3 : Int32))), .val (.int (0 : Int32))] [(.ref b29), (.ref b13)])) rfl (by rw [hml]; rfl) (Steps.refl _) (argsL := [(.ref b29)]) (rest := []) (lenOf pd_8 rfl) rfl (by show 2 * 0 + _ ≤ _; exact Nat.le_of_eq rfl) (hb hby at_233) (fun _ _ => ⟨rfl, e98, (by decide : 26 + 0 ≤ _), (by decide : 140 + 0 ≤ _)⟩)
          dsimp only [Pt.U, Pt.locs, Pt.cells, Pt.slots] at X211 cl_211 cy_211 cz_211 st211 hQ211
          rw [cl_211, cy_211, cz_211] at X211
          obtain ⟨rfl, N211q, e211⟩ := hQ211
          have N211 := Fr.app N98 N211q
          have R240 : ∀ t, Steps p.tables e below (T211.setTop (mkF m 236 #[.val (.int pa), .val (.int pb), .val (.int pq), .val (.int sl2), .val (.int dd), .val (.ref b13), .val (.ref b29), .val (.int (pq &&& (3 : Int32))), .val (.int (0 : Int32))] [(.int (own_teq (own_key pa) (own_key dd) (own_key ((pa.toUInt32 >>> ((9 : Int32) &&& 31).toUInt32).toInt32)) (own_key ((dd.toUInt32 >>> ((9 : Int32) &&& 31).toUInt32).toInt32)) (own_key ((pa.toUInt32 >>> ((18 : Int32) &&& 31).toUInt32).toInt32)) (own_key ((dd.toUInt32 >>> ((18 : Int32) &&& 31).toUInt32).toInt32))))])) t → Steps p.tables e below (s₁.setTop (entryFrame m #[(.int pa), (.int pb), (.int pq)] maxLocals)) t := by
            intro t k
            refine R99 t ?_
            show Steps p.tables e below (T98.setTop (mkF m 183 #[.val (.int pa), .val (.int pb), .val (.int pq), .val (.int sl2), .val (.int dd), .val (.ref b13), .val (.ref b29), .val (.int (pq &&& (3 : Int32))), .unset] [(.int (own_key dd)), (.int (own_key pa))])) t
            refine XS.icmpYes X98.here hx rfl (pc0 := 183) (pc' := 226) rfl (hb hby at_183) rfl (feq (hk0_ : ¬ ((own_key pa) = (own_key dd)))).2 (by decide) (by decide) ?_
            show Steps p.tables e below (T98.setTop (mkF m 226 #[.val (.int pa), .val (.int pb), .val (.int pq), .val (.int sl2), .val (.int dd), .val (.ref b13), .val (.ref b29), .val (.int (pq &&& (3 : Int32))), .unset] [])) t
            refine XS.iconst X98.here hx rfl (hb hby at_226) ?_
            show Steps p.tables e below (T98.setTop (mkF m 227 #[.val (.int pa), .val (.int pb), .val (.int pq), .val (.int sl2), .val (.int dd), .val (.ref b13), .val (.ref b29), .val (.int (pq &&& (3 : Int32))), .unset] [(.int (0 : Int32))])) t
            refine XS.istore X98.here hx rfl (hb hby at_227) rfl (l' := #[.val (.int pa), .val (.int pb), .val (.int pq), .val (.int sl2), .val (.int dd), .val (.ref b13), .val (.ref b29), .val (.int (pq &&& (3 : Int32))), .val (.int (0 : Int32))]) rfl ?_
            show Steps p.tables e below (T98.setTop (mkF m 229 #[.val (.int pa), .val (.int pb), .val (.int pq), .val (.int sl2), .val (.int dd), .val (.ref b13), .val (.ref b29), .val (.int (pq &&& (3 : Int32))), .val (.int (0 : Int32))] [])) t
            refine XS.aload X98.here hx rfl (hb hby at_229) rfl rfl ?_
            show Steps p.tables e below (T98.setTop (mkF m 231 #[.val (.int pa), .val (.int pb), .val (.int pq), .val (.int sl2), .val (.int dd), .val (.ref b13), .val (.ref b29), .val (.int (pq &&& (3 : Int32))), .val (.int (0 : Int32))] [(.ref b13)])) t
            refine XS.aload X98.here hx rfl (hb hby at_231) rfl rfl ?_
            show Steps p.tables e below (T98.setTop (mkF m 233 #[.val (.int pa), .val (.int pb), .val (.int pq), .val (.int sl2), .val (.int dd), .val (.ref b13), .val (.ref b29), .val (.int (pq &&& (3 : Int32))), .val (.int (0 : Int32))] [(.ref b29), (.ref b13)])) t
            refine st211.trans ?_
            exact k
          have R241 := R240
          rw [(own_teq1 hk0_)] at R241
          obtain ⟨cq242, kq242, q242a, q242b, q242c⟩ := isOf hZ57 e211 y57_0
          obtain ⟨_, _, ⟨T242, L242, k242, n242⟩, -, X242, ⟨Lc242, hQ242, cl_242, cy_242, cz_242⟩, st242⟩ := X211.virtualBack hx (y := (⟨"com/example/relayout/relayout/plan/Transfer", "equals", "(Ljava/lang/Object;)Z"⟩ : MethodName)) (z := (⟨"com/example/relayout/relayout/plan/Transfer", "equals", "(Ljava/lang/Object;)Z"⟩ : MethodName)) hown57 (mvT hZ57 (hw _ (List.mem_of_getElem? (i := 60) rfl))) (mvT hZ57 (hw _ (List.mem_of_getElem? (i := 61) rfl))) (notFace_of_selects (args := #[]) (mvT hZ57 (hw _ (List.mem_of_getElem? (i := 63) rfl)))) (mvT hZ57 (hw _ (List.mem_of_getElem? (i := 63) rfl))) (mvT hZ57 (hw _ (List.mem_of_getElem? (i := 62) rfl))) (by decide) (backOf (W := 0) (trEq l Z a0 hw [] zCS wcI ccI b29 b13 b36 tt36 kb36 nn36 vs36 (own_key dd) b42 tt42 kb42 nn42 vs42 (own_key ((dd.toUInt32 >>> ((9 : Int32) &&& 31).toUInt32).toInt32)) b49 tt49 kb49 nn49 vs49 (own_key ((dd.toUInt32 >>> ((18 : Int32) &&& 31).toUInt32).toInt32)) b16 tt16 kb16 nn16 vs16 (own_key pa) b18 tt18 kb18 nn18 vs18 (own_key ((pa.toUInt32 >>> ((9 : Int32) &&& 31).toUInt32).toInt32)) b21 tt21 kb21 nn21 vs21 (own_key ((pa.toUInt32 >>> ((18 : Int32) &&& 31).toUInt32).toInt32)) T57.heap n0 O57 S_CS hCS hcT0 hcT1 hcT2 hcH hcW S_cI B_cI S_hi   y57_0 y57_1 y57_2 y57_3 f212 f213 f214 f215 f228 f229 f230 f231 CC3 f232 f233 f234 f235 CC4 f236 f237 f238 f239 CC5 f216 f217 f218 f219 CC0 f220 f221 f222 f223 CC1 f224 f225 f226 f227 CC2) hZ57 (hw _ (List.mem_of_getElem? (i := 64) rfl)) (hw _ (List.mem_of_getElem? (i := 2) rfl)) (by decide) (by decide)) q242a q242c (g := (mkF m 245 #[.val (.int pa), .val (.int pb), .val (.int pq), .val (.int sl2), .val (.int dd), .val (.ref b13), .val (.ref b29), .val (.int (pq &&& (3 : Int32))), .val (.int (0 : Int32))] [(.ref b13), (.ref b29)])) rfl (by rw [hml]; rfl) (Steps.refl _) (argsL := [(.ref b13)]) (rest := []) (lenOf pd_8 rfl) rfl (by show 2 * 0 + _ ≤ _; exact Nat.le_of_eq rfl) (hb hby at_245) (fun _ _ => ⟨rfl, e211, (by decide : 26 + 0 ≤ _), (by decide : 140 + 0 ≤ _)⟩)
          dsimp only [Pt.U, Pt.locs, Pt.cells, Pt.slots] at X242 cl_242 cy_242 cz_242 st242 hQ242
          rw [cl_242, cy_242, cz_242] at X242
          obtain ⟨rfl, N242q, e242⟩ := hQ242
          have N242 := Fr.app N211 N242q
          have R243 : ∀ t, Steps p.tables e below (T242.setTop (mkF m 248 #[.val (.int pa), .val (.int pb), .val (.int pq), .val (.int sl2), .val (.int dd), .val (.ref b13), .val (.ref b29), .val (.int (pq &&& (3 : Int32))), .val (.int (0 : Int32))] [(.int (own_teq (own_key dd) (own_key pa) (own_key ((dd.toUInt32 >>> ((9 : Int32) &&& 31).toUInt32).toInt32)) (own_key ((pa.toUInt32 >>> ((9 : Int32) &&& 31).toUInt32).toInt32)) (own_key ((dd.toUInt32 >>> ((18 : Int32) &&& 31).toUInt32).toInt32)) (own_key ((pa.toUInt32 >>> ((18 : Int32) &&& 31).toUInt32).toInt32))))])) t → Steps p.tables e below (s₁.setTop (entryFrame m #[(.int pa), (.int pb), (.int pq)] maxLocals)) t := by
            intro t k
            refine R241 t ?_
            show Steps p.tables e below (T211.setTop (mkF m 236 #[.val (.int pa), .val (.int pb), .val (.int pq), .val (.int sl2), .val (.int dd), .val (.ref b13), .val (.ref b29), .val (.int (pq &&& (3 : Int32))), .val (.int (0 : Int32))] [(.int (0 : Int32))])) t
            refine XS.iload X211.here hx rfl (hb hby at_236) rfl ?_
            show Steps p.tables e below (T211.setTop (mkF m 238 #[.val (.int pa), .val (.int pb), .val (.int pq), .val (.int sl2), .val (.int dd), .val (.ref b13), .val (.ref b29), .val (.int (pq &&& (3 : Int32))), .val (.int (0 : Int32))] [(.int (0 : Int32)), (.int (0 : Int32))])) t
            refine XS.icmpNo X211.here hx rfl (hb hby at_238) rfl (teq ((by decide) : (0 : Int32) = (0 : Int32))).2 ?_
            show Steps p.tables e below (T211.setTop (mkF m 241 #[.val (.int pa), .val (.int pb), .val (.int pq), .val (.int sl2), .val (.int dd), .val (.ref b13), .val (.ref b29), .val (.int (pq &&& (3 : Int32))), .val (.int (0 : Int32))] [])) t
            refine XS.aload X211.here hx rfl (hb hby at_241) rfl rfl ?_
            show Steps p.tables e below (T211.setTop (mkF m 243 #[.val (.int pa), .val (.int pb), .val (.int pq), .val (.int sl2), .val (.int dd), .val (.ref b13), .val (.ref b29), .val (.int (pq &&& (3 : Int32))), .val (.int (0 : Int32))] [(.ref b29)])) t
            refine XS.aload X211.here hx rfl (hb hby at_243) rfl rfl ?_
            show Steps p.tables e below (T211.setTop (mkF m 245 #[.val (.int pa), .val (.int pb), .val (.int pq), .val (.int sl2), .val (.int dd), .val (.ref b13), .val (.ref b29), .val (.int (pq &&& (3 : Int32))), .val (.int (0 : Int32))] [(.ref b13), (.ref b29)])) t
            refine st242.trans ?_
            exact k
          have R244 := R243
          rw [(own_teq1 (fun e => hk0_ e.symm))] at R244
          have R245 : ∀ t, Steps p.tables e below (T242.setTop (mkF m 258 #[.val (.int pa), .val (.int pb), .val (.int pq), .val (.int sl2), .val (.int dd), .val (.ref b13), .val (.ref b29), .val (.int (pq &&& (3 : Int32))), .val (.int (0 : Int32))] [(.int (1 : Int32))])) t → Steps p.tables e below (s₁.setTop (entryFrame m #[(.int pa), (.int pb), (.int pq)] maxLocals)) t := by
            intro t k
            refine R244 t ?_
            show Steps p.tables e below (T242.setTop (mkF m 248 #[.val (.int pa), .val (.int pb), .val (.int pq), .val (.int sl2), .val (.int dd), .val (.ref b13), .val (.ref b29), .val (.int (pq &&& (3 : Int32))), .val (.int (0 : Int32))] [(.int (0 : Int32))])) t
            refine XS.iload X242.here hx rfl (hb hby at_248) rfl ?_
            show Steps p.tables e below (T242.setTop (mkF m 250 #[.val (.int pa), .val (.int pb), .val (.int pq), .val (.int sl2), .val (.int dd), .val (.ref b13), .val (.ref b29), .val (.int (pq &&& (3 : Int32))), .val (.int (0 : Int32))] [(.int (0 : Int32)), (.int (0 : Int32))])) t
            refine XS.icmpNo X242.here hx rfl (hb hby at_250) rfl (teq ((by decide) : (0 : Int32) = (0 : Int32))).2 ?_
            show Steps p.tables e below (T242.setTop (mkF m 253 #[.val (.int pa), .val (.int pb), .val (.int pq), .val (.int sl2), .val (.int dd), .val (.ref b13), .val (.ref b29), .val (.int (pq &&& (3 : Int32))), .val (.int (0 : Int32))] [])) t
            refine XS.iconst X242.here hx rfl (hb hby at_253) ?_
            show Steps p.tables e below (T242.setTop (mkF m 254 #[.val (.int pa), .val (.int pb), .val (.int pq), .val (.int sl2), .val (.int dd), .val (.ref b13), .val (.ref b29), .val (.int (pq &&& (3 : Int32))), .val (.int (0 : Int32))] [(.int (1 : Int32))])) t
            refine XS.goto X242.here hx rfl (pc0 := 254) (pc' := 258) rfl (hb hby at_254) (by decide) (by decide) ?_
            exact k
          obtain ⟨fs, hr, hrun, hended, hRW⟩ := X242.leaveW hS57 (by rw [e242]; exact hk57) (v := some (.int (1 : Int32))) (fun h => by rw [Bd.returns] at h; cases h)
          refine ⟨_, _, R245 _ ?_, hrun, hended, _, _, rfl, ?_, hRW.1, hRW.2.1, hRW.2.2.1, hRW.2.2.2.mono (by decide) (by decide)⟩
          · show Steps p.tables e below (T242.setTop (mkF m 258 #[.val (.int pa), .val (.int pb), .val (.int pq), .val (.int sl2), .val (.int dd), .val (.ref b13), .val (.ref b29), .val (.int (pq &&& (3 : Int32))), .val (.int (0 : Int32))] [(.int (1 : Int32))])) _
            exact retN X242 hx (t := .boolean) Bd.returns (by simp) (hb hby at_258) hr
          · show Q_rm0 Z zCS wcI ccI pa pb pq h0 n0 _ T242.heap _
            rw [e242]
            exact ⟨rfl, N242⟩
set_option maxRecDepth 65536 in
set_option maxHeartbeats 40000000 in
theorem comes_1 {Post : Tables → Env → Array Value → State → Outcome → State → Prop} (hpost : ∀ tb e args s v u, (limb_1_1.after args s (.returned v) u = true ∧ limb_1_2.after args s (.returned v) u = true ∧ True) → ReturnedEndW s (.returned v) u (Jvm.fieldLocs frame_1_writes args s ++ Jvm.arrayLocs frame_1_arrays args s ++ Jvm.staticLocs frame_1_statics s) 48 4288 → Post tb e args s (.returned v) u) :
    ArmFor flags0 classFile x code maxLocals ret World_1 tables_1 room_1 Calls_1 rest_1 Pre_1 Post := by
  intro l hfl _ _ p e ha hc hk s m args below hf hA hF happ hP
  obtain ⟨hcalls, hrest, hpre⟩ := hP
  obtain ⟨-, -, -, hnamed, -, -, -, hat⟩ := (Spec.applies_iff hf).mp happ
  obtain ⟨hg, hn⟩ := and_e (Cond.before_iff.mp (show (Jvm.Cond.and given_1 narrow_1).before args s = true from hpre))
  obtain ⟨g1, g2⟩ := and_e hg
  obtain ⟨g3, g4⟩ := and_e g2
  obtain ⟨g5, g6⟩ := and_e g4
  obtain ⟨w0, w1, w2, rfl⟩ : ∃ w0 w1 w2 : Value, args = #[w0, w1, w2] := by
    have hs : args.size = 3 := by simpa [Cond.value, given_1] using g1
    obtain ⟨L⟩ := args
    match L, hs with
    | [w0, w1, w2], _ => exact ⟨w0, w1, w2, rfl⟩
  have hw := fun d (hd : d ∈ tables_1) => atoms_spec (ws := Jvm.Cond.code x code maxLocals ret :: tables_1) hat d (List.mem_cons_of_mem _ hd)
  have hfit : Fit s := fun {y c} hc i hi => by
    obtain ⟨ha, rfl⟩ := Array.getElem?_eq_some_iff.mp hc
    have q := List.all_eq_true.mp ((Array.all_eq_true_iff_forall_mem.mp hF) _ (Array.getElem_mem ha)) i (List.mem_range.mpr hi)
    simpa [Array.getElem?_eq_getElem hi] using q
  obtain ⟨hsets, hown0⟩ := atoms_of _ (rest_1_c_eq ▸ (show rest_1_c.before _ s = true from hrest))
  have hr0 := Cond.before_iff.mp hown0
  obtain ⟨i0, ei0⟩ := is_v g3
  obtain rfl : w0 = (.int i0) := Option.some.inj ei0
  obtain ⟨i1, ei1⟩ := is_v g5
  obtain rfl : w1 = (.int i1) := Option.some.inj ei1
  obtain ⟨i2, ei2⟩ := is_v g6
  obtain rfl : w2 = (.int i2) := Option.some.inj ei2
  obtain ⟨zCS, evCS⟩ := is_v (Cond.before_iff.mp (hsets _ (List.mem_of_getElem? (i := 1) rfl)))
  have S_CS := Sta.start evCS (Or.inl (hsets _ (List.mem_of_getElem? (i := 0) rfl)))
  have hCS : ¬ (zCS = (0 : Int32)) := gotF (Cond.eq_ints evCS (Term.int_eval 0)) (not_v (Cond.before_iff.mp (hsets _ (List.mem_of_getElem? (i := 2) rfl))))
  have hcT0 : Jvm.Lit.constHeld s "com/example/relayout/relayout/plan/Transfer" 7 := hcalls.1 ("com/example/relayout/relayout/plan/Transfer", 7) (by simp [consts_1])
  have hcT1 : Jvm.Lit.constHeld s "com/example/relayout/relayout/plan/Transfer" 22 := hcalls.1 ("com/example/relayout/relayout/plan/Transfer", 22) (by simp [consts_1])
  have hcT2 : Jvm.Lit.constHeld s "com/example/relayout/relayout/plan/Transfer" 26 := hcalls.1 ("com/example/relayout/relayout/plan/Transfer", 26) (by simp [consts_1])
  have hcH : Jvm.Lit.constHeld s "com/example/relayout/relayout/plan/TransferEqualsPinLaw" 7 := hcalls.1 ("com/example/relayout/relayout/plan/TransferEqualsPinLaw", 7) (by simp [consts_1])
  have hcW := (hsets _ (List.mem_of_getElem? (i := 2) rfl))
  have evh := eqv_i (Term.int_eval (127)) (Cond.before_iff.mp (hsets _ (List.mem_of_getElem? (i := 12) rfl)))
  have S_hi := Sta.start evh (Or.inl (hsets _ (List.mem_of_getElem? (i := 10) rfl)))
  obtain ⟨wcI, evcI⟩ := arr_v (Cond.before_iff.mp (hsets _ (List.mem_of_getElem? (i := 13) rfl)))
  have S_cI := Sta.start evcI (Or.inr ⟨(hw _ (List.mem_of_getElem? (i := 58) rfl)), (hsets _ (List.mem_of_getElem? (i := 11) rfl))⟩)
  obtain ⟨ccI, ArcI⟩ := Arr.start evcI (Cond.before_iff.mp (hsets _ (List.mem_of_getElem? (i := 13) rfl)))
  have lnI := own_len evcI (ArcI.fin (Vm.Alike.refl _)) (eqv_i (Term.int_eval (256)) (Cond.before_iff.mp (hsets _ (List.mem_of_getElem? (i := 15) rfl))))
  have B_cI : Bxs s wcI ccI "java/lang/Integer" "I" 256 (fun j => .int (j - 128)) := Bxs.start (fun _ => evcI) ArcI lnI.1 lnI.2 (by decide) (Cond.before_iff.mp (hsets _ (List.mem_of_getElem? (i := 16) rfl))) (fun X j nn h => eqv_i (by simp [Term.eval, (back32 nn).1]) h)
  obtain ⟨n, o, h1, h2, h3, _, L, rfl, ⟨rfl, N⟩, hq⟩ := rm0 l s _ hw tables_1 zCS wcI ccI i0 i1 i2 0 s.heap s.heap.size (Old.start s) S_CS hCS hcT0 hcT1 hcT2 hcH hcW S_cI B_cI S_hi p e ha hc hk s m _ below hf ((Spec.applies_iff_loose hf).mp happ).1 ⟨rfl, ⟨State.Warmed39.refl s, LS.start IB.start⟩, rfl⟩ trivial
  refine ⟨n, _, h1, h2, h3, hpost _ _ _ _ _ _ ⟨Cond.after_iff.mpr rfl, Cond.after_iff.mpr (eq_i res_at (Term.int_eval (1)) rfl), trivial⟩ ⟨hq.1, hq.2.1, hq.2.2.1, (hq.2.2.2.sift fun y hy => Or.inr (N y hy)).mono (by decide) (by decide)⟩⟩
theorem main_1_1 : Claimed_1_1 := comes_1 fun _ _ _ _ _ _ h hF => ⟨h.1, hF⟩
theorem main_1_2 : Claimed_1_2 := comes_1 fun _ _ _ _ _ _ h hF => ⟨h.2.1, hF⟩
end Jvm.Pilot.@@N@@
namespace Jvm.Pilot.@@N@@
open Jvm Jvm.ClassFile Sem Op Lib Jvm.Free Jvm.Stand Jvm.Pilot.@@N@@.Jvm.D
/-! MADE BY PROGRAM (witnessworld.py) out of the Statement's table words and the real class files: 22 classes; the members and pool entries that the words name. The judged class is class 1, her method 3. -/
namespace start1
open Jvm.ClassFile
def u (s : String) : CpInfo := .utf8 (stringToUtf16 s)
/-- a pool by its gaps: so many unusable entries, then the entry; so many at the end -/
def gap : Nat → List CpInfo → List CpInfo
  | 0, r => r
  | n + 1, r => .unusable :: gap n r
def poolList (es : List (Nat × CpInfo)) (last : Nat) : List CpInfo := es.foldr (fun e r => gap e.1 (e.2 :: r)) (gap last [])
def pool (es : List (Nat × CpInfo)) (last : Nat) : Array CpInfo := ⟨poolList es last⟩
def fileOf (pool : Array CpInfo) (this : Nat) (attrs : Array Attribute := #[]) (ms : Array MethodInfo := #[]) (fl : Nat := 33) (sup : Nat := 0) (ifs : Array Nat := #[]) (fds : Array FieldInfo := #[]) : ClassFile where
  minorVersion := 0
  majorVersion := 65
  constantPool := pool
  accessFlags := fl
  thisClass := this
  superClass := sup
  interfaces := ifs
  fields := fds
  methods := ms
  attributes := attrs
def plain (name : String) (sup : Option ClassId) : Class where
  name := name
  kind := .ordinary
  loader := none
  accessFlags := 33
  super := sup
  interfaces := #[]
  cf := none
  fields := #[]
  methods := #[]
  instanceTypes := #[]
  staticTypes := #[]
  resolved := #[]
  callSites := []
  init := .initialized
  statics := none
  mirror := none

def pool0 : Array CpInfo := pool [(5, u "<init>"), (0, u "()V"), (1, .class_ 10), (1, u "java/lang/Object")] 113

def k0c0 : Code := { maxStack := 0, maxLocals := 1, code := object_method_1_code, exceptionTable := #[], attributes := #[] }
def k0m0 : Method := { name := "<init>", desc := "()V", sig := { parameters := [], returnType := none }, accessFlags := 1, code := some k0c0 }
/-- java/lang/Object -/
def k0 : Class := { plain "java/lang/Object" none with
  accessFlags := 33
  interfaces := #[]
  cf := some (fileOf pool0 8 #[] #[{ accessFlags := 1, nameIndex := 5, descriptorIndex := 6, attributes := #[] }] 33 0 #[] #[])
  fields := #[]
  methods := #[k0m0]
  instanceTypes := #[]
  staticTypes := #[]
  resolved := Array.replicate 124 none
  statics := none }

def pool1 : Array CpInfo := pool [(2, .class_ 4), (1, u "java/lang/Object"), (0, u "<init>"), (0, u "()V"), (0, .string 8), (0, u ""), (0, .methodref 10 11), (0, .class_ 12), (0, .nameAndType 13 14), (0, u "java/lang/String"), (0, u "valueOf"), (0, u "(C)Ljava/lang/String;"), (0, .integer 261632), (0, .integer 133955584), (0, .class_ 18), (0, u "com/example/relayout/relayout/plan/Transfer"), (0, .methodref 20 21), (0, .class_ 22), (0, .nameAndType 23 24), (0, u "com/example/relayout/relayout/plan/TransferEqualsPinLaw"), (0, u "id"), (0, u "(I)Ljava/lang/String;"), (0, .methodref 17 26), (0, .nameAndType 5 27), (0, u "(Ljava/lang/String;Ljava/lang/String;Ljava/lang/String;)V"), (0, .methodref 17 29), (0, .nameAndType 30 31), (0, u "equals"), (0, u "(Ljava/lang/Object;)Z"), (0, .methodref 33 34), (0, .class_ 35), (0, .nameAndType 13 36), (0, u "java/lang/Integer"), (0, u "(I)Ljava/lang/Integer;"), (0, .methodref 20 38), (0, .nameAndType 39 40), (0, u "key"), (0, u "(I)I"), (3, u "law"), (0, u "(III)Z")] 2

def k1m0 : Method := { name := "<init>", desc := "()V", sig := { parameters := [], returnType := none }, accessFlags := 1, code := none }
def k1c1 : Code := { maxStack := 2, maxLocals := 1, code := method_2_code, exceptionTable := #[], attributes := #[] }
def k1m1 : Method := { name := "id", desc := "(I)Ljava/lang/String;", sig := { parameters := [.int], returnType := some (.object "java/lang/String") }, accessFlags := 10, code := some k1c1 }
def k1c2 : Code := { maxStack := 2, maxLocals := 1, code := method_3_code, exceptionTable := #[], attributes := #[] }
def k1m2 : Method := { name := "key", desc := "(I)I", sig := { parameters := [.int], returnType := some .int }, accessFlags := 10, code := some k1c2 }
def k1c3 : Code := { maxStack := 6, maxLocals := 9, code := code, exceptionTable := #[], attributes := #[] }
def k1m3 : Method := { name := "law", desc := "(III)Z", sig := { parameters := [.int, .int, .int], returnType := some .boolean }, accessFlags := 9, code := some k1c3 }
/-- com/example/relayout/relayout/plan/TransferEqualsPinLaw -/
def k1 : Class := { plain "com/example/relayout/relayout/plan/TransferEqualsPinLaw" (some 0) with
  accessFlags := 49
  interfaces := #[]
  cf := some (fileOf pool1 20 #[] #[{ accessFlags := 1, nameIndex := 5, descriptorIndex := 6, attributes := #[] }, { accessFlags := 10, nameIndex := 23, descriptorIndex := 24, attributes := #[] }, { accessFlags := 10, nameIndex := 39, descriptorIndex := 40, attributes := #[] }, { accessFlags := 9, nameIndex := 44, descriptorIndex := 45, attributes := #[] }] 49 2 #[] #[])
  fields := #[]
  methods := #[k1m0, k1m1, k1m2, k1m3]
  instanceTypes := #[]
  staticTypes := #[]
  resolved := Array.replicate 48 none
  statics := none }

def pool2 : Array CpInfo := pool [(1, .methodref 2 3), (0, .class_ 4), (0, .nameAndType 5 6), (0, u "java/lang/Object"), (0, u "<init>"), (0, u "()V"), (0, .string 8), (0, u "item"), (0, .methodref 10 11), (0, .class_ 12), (0, .nameAndType 13 14), (0, u "java/util/Objects"), (0, u "requireNonNull"), (0, u "(Ljava/lang/Object;Ljava/lang/String;)Ljava/lang/Object;"), (0, .class_ 16), (0, u "java/lang/String"), (0, .fieldref 18 19), (0, .class_ 20), (0, .nameAndType 8 21), (0, u "com/example/relayout/relayout/plan/Transfer"), (0, u "Ljava/lang/String;"), (0, .string 23), (0, u "from"), (0, .fieldref 18 25), (0, .nameAndType 23 21), (0, .string 27), (0, u "to"), (0, .fieldref 18 29), (0, .nameAndType 27 21), (0, .methodref 15 31), (0, .nameAndType 32 33), (0, u "equals"), (0, u "(Ljava/lang/Object;)Z"), (8, u "(Ljava/lang/String;Ljava/lang/String;Ljava/lang/String;)V")] 27

def k2c0 : Code := { maxStack := 3, maxLocals := 4, code := prog_11_method_1_code, exceptionTable := #[], attributes := #[] }
def k2m0 : Method := { name := "<init>", desc := "(Ljava/lang/String;Ljava/lang/String;Ljava/lang/String;)V", sig := { parameters := [(.object "java/lang/String"), (.object "java/lang/String"), (.object "java/lang/String")], returnType := none }, accessFlags := 1, code := some k2c0 }
def k2c1 : Code := { maxStack := 2, maxLocals := 3, code := prog_11_method_5_code, exceptionTable := #[], attributes := #[] }
def k2m1 : Method := { name := "equals", desc := "(Ljava/lang/Object;)Z", sig := { parameters := [(.object "java/lang/Object")], returnType := some .boolean }, accessFlags := 1, code := some k2c1 }
/-- com/example/relayout/relayout/plan/Transfer -/
def k2 : Class := { plain "com/example/relayout/relayout/plan/Transfer" (some 0) with
  accessFlags := 49
  interfaces := #[]
  cf := some (fileOf pool2 18 #[] #[{ accessFlags := 1, nameIndex := 5, descriptorIndex := 42, attributes := #[] }, { accessFlags := 1, nameIndex := 32, descriptorIndex := 33, attributes := #[] }] 49 2 #[] #[{ accessFlags := 18, nameIndex := 8, descriptorIndex := 21, attributes := #[] }, { accessFlags := 18, nameIndex := 23, descriptorIndex := 21, attributes := #[] }, { accessFlags := 18, nameIndex := 27, descriptorIndex := 21, attributes := #[] }])
  fields := #[{ name := "item", type := (.object "java/lang/String"), accessFlags := 18, slot := 0, constantValue := 0 }, { name := "from", type := (.object "java/lang/String"), accessFlags := 18, slot := 1, constantValue := 0 }, { name := "to", type := (.object "java/lang/String"), accessFlags := 18, slot := 2, constantValue := 0 }]
  methods := #[k2m0, k2m1]
  instanceTypes := #[(.object "java/lang/String"), (.object "java/lang/String"), (.object "java/lang/String")]
  staticTypes := #[]
  resolved := Array.replicate 70 none
  statics := none }

def pool3 : Array CpInfo := pool [(1, .class_ 2), (0, u "java/io/Serializable"), (0, .class_ 4), (0, u "java/lang/Object")] 2

/-- java/io/Serializable -/
def k3 : Class := { plain "java/io/Serializable" (some 0) with
  accessFlags := 1537
  interfaces := #[]
  cf := some (fileOf pool3 1 #[] #[] 1537 3 #[] #[])
  fields := #[]
  methods := #[]
  instanceTypes := #[]
  staticTypes := #[]
  resolved := Array.replicate 7 none
  statics := none }

def pool4 : Array CpInfo := pool [(1, .class_ 2), (0, u "java/lang/Comparable"), (0, .class_ 4), (0, u "java/lang/Object")] 7

/-- java/lang/Comparable -/
def k4 : Class := { plain "java/lang/Comparable" (some 0) with
  accessFlags := 1537
  interfaces := #[]
  cf := some (fileOf pool4 1 #[] #[] 1537 3 #[] #[])
  fields := #[]
  methods := #[]
  instanceTypes := #[]
  staticTypes := #[]
  resolved := Array.replicate 12 none
  statics := none }

def pool5 : Array CpInfo := pool [(2, .class_ 4), (1, u "java/lang/CharSequence"), (42, .class_ 48), (0, u "java/lang/CharSequence$1CodePointIterator"), (10, .class_ 60), (0, u "java/lang/CharSequence$1CharIterator"), (5, .class_ 67), (0, u "java/lang/Object")] 63

/-- java/lang/CharSequence -/
def k5 : Class := { plain "java/lang/CharSequence" (some 0) with
  accessFlags := 1537
  interfaces := #[]
  cf := some (fileOf pool5 2 #[.nestMembers #[47, 59]] #[] 1537 66 #[] #[])
  fields := #[]
  methods := #[]
  instanceTypes := #[]
  staticTypes := #[]
  resolved := Array.replicate 131 none
  statics := none }

def pool6 : Array CpInfo := pool [(1, .class_ 2), (0, u "java/lang/constant/Constable"), (0, .class_ 4), (0, u "java/lang/Object")] 6

/-- java/lang/constant/Constable -/
def k6 : Class := { plain "java/lang/constant/Constable" (some 0) with
  accessFlags := 1537
  interfaces := #[]
  cf := some (fileOf pool6 1 #[] #[] 1537 3 #[] #[])
  fields := #[]
  methods := #[]
  instanceTypes := #[]
  staticTypes := #[]
  resolved := Array.replicate 11 none
  statics := none }

def pool7 : Array CpInfo := pool [(1, .class_ 2), (0, u "java/lang/constant/ConstantDesc"), (0, .class_ 4), (0, u "java/lang/Object")] 32

/-- java/lang/constant/ConstantDesc -/
def k7 : Class := { plain "java/lang/constant/ConstantDesc" (some 0) with
  accessFlags := 1537
  interfaces := #[]
  cf := some (fileOf pool7 1 #[] #[] 1537 3 #[] #[])
  fields := #[]
  methods := #[]
  instanceTypes := #[]
  staticTypes := #[]
  resolved := Array.replicate 37 none
  statics := none }

def pool8 : Array CpInfo := pool [(1, .methodref 2 3), (0, .class_ 4), (0, .nameAndType 5 6), (0, u "java/lang/Object"), (0, u "<init>"), (0, u "()V"), (2, .fieldref 10 11), (0, .class_ 12), (0, .nameAndType 13 14), (0, u "java/lang/String"), (0, u "value"), (0, u "[B"), (0, .fieldref 10 16), (0, .nameAndType 17 18), (0, u "coder"), (0, u "B"), (2, u "hash"), (0, u "I"), (2, u "hashIsZero"), (0, u "Z"), (11, .fieldref 10 39), (0, .nameAndType 40 26), (0, u "COMPACT_STRINGS"), (12, u "toBytes"), (53, .class_ 109), (1, u "java/lang/StringLatin1"), (99, .methodref 10 210), (0, .nameAndType 5 211), (0, u "([BB)V"), (157, u "(C)Z"), (171, .methodref 107 542), (0, .nameAndType 543 544), (0, u "equals"), (0, u "([B[B)Z"), (28, u "(Ljava/lang/Object;)Z"), (1, .class_ 576), (0, u "java/lang/CharSequence"), (22, u "CASE_INSENSITIVE_ORDER"), (0, u "Ljava/util/Comparator;"), (181, u "valueOf"), (0, u "(C)Ljava/lang/String;"), (231, .methodref 107 1016), (0, .nameAndType 1017 369), (0, u "canEncode"), (0, .methodref 107 1019), (0, .nameAndType 53 1020), (0, u "(C)[B"), (80, u "serialPersistentFields"), (0, u "[Ljava/io/ObjectStreamField;"), (0, .class_ 1104), (0, u "java/lang/String$CaseInsensitiveComparator"), (1, .class_ 1107), (0, u "java/io/Serializable"), (0, .class_ 1109), (0, u "java/lang/Comparable"), (0, .class_ 1111), (0, u "java/lang/constant/Constable"), (0, .class_ 1113), (0, u "java/lang/constant/ConstantDesc"), (2, u "serialVersionUID"), (0, u "J"), (3, u "REPL"), (0, u "C"), (2, u "LATIN1"), (1, u "UTF16")] 323

def k8m0 : Method := { name := "<init>", desc := "()V", sig := { parameters := [], returnType := none }, accessFlags := 1, code := none }
def k8c1 : Code := { maxStack := 2, maxLocals := 3, code := jdk_42_method_66_code, exceptionTable := #[], attributes := #[] }
def k8m1 : Method := { name := "equals", desc := "(Ljava/lang/Object;)Z", sig := { parameters := [(.object "java/lang/Object")], returnType := some .boolean }, accessFlags := 1, code := some k8c1 }
def k8c2 : Code := { maxStack := 4, maxLocals := 1, code := jdk_42_method_139_code, exceptionTable := #[], attributes := #[] }
def k8m2 : Method := { name := "valueOf", desc := "(C)Ljava/lang/String;", sig := { parameters := [.char], returnType := some (.object "java/lang/String") }, accessFlags := 9, code := some k8c2 }
def k8c3 : Code := { maxStack := 2, maxLocals := 3, code := jdk_42_method_151_code, exceptionTable := #[], attributes := #[] }
def k8m3 : Method := { name := "<init>", desc := "([BB)V", sig := { parameters := [(.array .byte), .byte], returnType := none }, accessFlags := 0, code := some k8c3 }
/-- java/lang/String -/
def k8 : Class := { plain "java/lang/String" (some 0) with
  accessFlags := 49
  interfaces := #[3, 4, 5, 6, 7]
  cf := some (fileOf pool8 10 #[.nestMembers #[1103]] #[{ accessFlags := 1, nameIndex := 5, descriptorIndex := 6, attributes := #[] }, { accessFlags := 1, nameIndex := 543, descriptorIndex := 573, attributes := #[] }, { accessFlags := 9, nameIndex := 782, descriptorIndex := 783, attributes := #[] }, { accessFlags := 0, nameIndex := 5, descriptorIndex := 211, attributes := #[] }] 49 2 #[1106, 1108, 575, 1110, 1112] #[{ accessFlags := 18, nameIndex := 13, descriptorIndex := 14, attributes := #[] }, { accessFlags := 18, nameIndex := 17, descriptorIndex := 18, attributes := #[] }, { accessFlags := 2, nameIndex := 21, descriptorIndex := 22, attributes := #[] }, { accessFlags := 2, nameIndex := 25, descriptorIndex := 26, attributes := #[] }, { accessFlags := 26, nameIndex := 1116, descriptorIndex := 1117, attributes := #[] }, { accessFlags := 24, nameIndex := 40, descriptorIndex := 26, attributes := #[] }, { accessFlags := 26, nameIndex := 1101, descriptorIndex := 1102, attributes := #[] }, { accessFlags := 26, nameIndex := 1121, descriptorIndex := 1122, attributes := #[] }, { accessFlags := 25, nameIndex := 599, descriptorIndex := 600, attributes := #[] }, { accessFlags := 24, nameIndex := 1125, descriptorIndex := 18, attributes := #[] }, { accessFlags := 24, nameIndex := 1127, descriptorIndex := 18, attributes := #[] }])
  fields := #[{ name := "value", type := (.array .byte), accessFlags := 18, slot := 0, constantValue := 0 }, { name := "coder", type := .byte, accessFlags := 18, slot := 1, constantValue := 0 }, { name := "hash", type := .int, accessFlags := 2, slot := 2, constantValue := 0 }, { name := "hashIsZero", type := .boolean, accessFlags := 2, slot := 3, constantValue := 0 }, { name := "serialVersionUID", type := .long, accessFlags := 26, slot := 0, constantValue := 0 }, { name := "COMPACT_STRINGS", type := .boolean, accessFlags := 24, slot := 1, constantValue := 0 }, { name := "serialPersistentFields", type := (.array (.object "java/io/ObjectStreamField")), accessFlags := 26, slot := 2, constantValue := 0 }, { name := "REPL", type := .char, accessFlags := 26, slot := 3, constantValue := 0 }, { name := "CASE_INSENSITIVE_ORDER", type := (.object "java/util/Comparator"), accessFlags := 25, slot := 4, constantValue := 0 }, { name := "LATIN1", type := .byte, accessFlags := 24, slot := 5, constantValue := 0 }, { name := "UTF16", type := .byte, accessFlags := 24, slot := 6, constantValue := 0 }]
  methods := #[k8m0, k8m1, k8m2, k8m3]
  instanceTypes := #[(.array .byte), .byte, .int, .boolean]
  staticTypes := #[.long, .boolean, (.array (.object "java/io/ObjectStreamField")), .char, (.object "java/util/Comparator"), .byte, .byte]
  resolved := Array.replicate 1451 none
  statics := some 0 }

def pool9 : Array CpInfo := pool [(4, .class_ 6), (1, u "java/lang/Object"), (0, u "<init>"), (0, u "()V"), (5, .class_ 16), (1, u "java/lang/StringLatin1"), (73, u "canEncode"), (14, u "(C)Z"), (15, u "$assertionsDisabled"), (0, u "Z"), (98, .class_ 223), (1, u "java/lang/StringLatin1$LinesSpliterator"), (57, u "equals"), (0, u "([B[B)Z"), (97, u "toBytes"), (1, u "(C)[B"), (7, .class_ 391), (0, u "java/lang/StringLatin1$CharsSpliterator")] 3

def k9m0 : Method := { name := "<init>", desc := "()V", sig := { parameters := [], returnType := none }, accessFlags := 0, code := none }
def k9c1 : Code := { maxStack := 2, maxLocals := 1, code := jdk_43_method_3_code, exceptionTable := #[], attributes := #[] }
def k9m1 : Method := { name := "canEncode", desc := "(C)Z", sig := { parameters := [.char], returnType := some .boolean }, accessFlags := 9, code := some k9c1 }
def k9c2 : Code := { maxStack := 3, maxLocals := 3, code := jdk_43_method_13_code, exceptionTable := #[], attributes := #[] }
def k9m2 : Method := { name := "equals", desc := "([B[B)Z", sig := { parameters := [(.array .byte), (.array .byte)], returnType := some .boolean }, accessFlags := 9, code := some k9c2 }
def k9c3 : Code := { maxStack := 4, maxLocals := 1, code := jdk_43_method_46_code, exceptionTable := #[], attributes := #[] }
def k9m3 : Method := { name := "toBytes", desc := "(C)[B", sig := { parameters := [.char], returnType := some (.array .byte) }, accessFlags := 9, code := some k9c3 }
/-- java/lang/StringLatin1 -/
def k9 : Class := { plain "java/lang/StringLatin1" (some 0) with
  accessFlags := 48
  interfaces := #[]
  cf := some (fileOf pool9 14 #[.nestMembers #[390, 221]] #[{ accessFlags := 0, nameIndex := 7, descriptorIndex := 8, attributes := #[] }, { accessFlags := 9, nameIndex := 90, descriptorIndex := 105, attributes := #[] }, { accessFlags := 9, nameIndex := 281, descriptorIndex := 282, attributes := #[] }, { accessFlags := 9, nameIndex := 380, descriptorIndex := 382, attributes := #[] }] 48 4 #[] #[{ accessFlags := 4120, nameIndex := 121, descriptorIndex := 122, attributes := #[] }])
  fields := #[{ name := "$assertionsDisabled", type := .boolean, accessFlags := 4120, slot := 0, constantValue := 0 }]
  methods := #[k9m0, k9m1, k9m2, k9m3]
  instanceTypes := #[]
  staticTypes := #[.boolean]
  resolved := Array.replicate 395 none
  statics := none }

def pool10 : Array CpInfo := pool [(2, .class_ 4), (1, u "java/lang/Object"), (0, u "<init>"), (0, u "()V"), (35, .class_ 44), (1, u "java/util/Objects"), (0, u "requireNonNull"), (48, u "(Ljava/lang/Object;Ljava/lang/String;)Ljava/lang/Object;")] 89

def k10m0 : Method := { name := "<init>", desc := "()V", sig := { parameters := [], returnType := none }, accessFlags := 2, code := none }
def k10c1 : Code := { maxStack := 3, maxLocals := 2, code := jdk_31_method_11_code, exceptionTable := #[], attributes := #[] }
def k10m1 : Method := { name := "requireNonNull", desc := "(Ljava/lang/Object;Ljava/lang/String;)Ljava/lang/Object;", sig := { parameters := [(.object "java/lang/Object"), (.object "java/lang/String")], returnType := some (.object "java/lang/Object") }, accessFlags := 9, code := some k10c1 }
/-- java/util/Objects -/
def k10 : Class := { plain "java/util/Objects" (some 0) with
  accessFlags := 49
  interfaces := #[]
  cf := some (fileOf pool10 42 #[] #[{ accessFlags := 2, nameIndex := 5, descriptorIndex := 6, attributes := #[] }, { accessFlags := 9, nameIndex := 45, descriptorIndex := 94, attributes := #[] }] 49 2 #[] #[])
  fields := #[]
  methods := #[k10m0, k10m1]
  instanceTypes := #[]
  staticTypes := #[]
  resolved := Array.replicate 184 none
  statics := none }

def pool11 : Array CpInfo := pool [(1, .methodref 2 3), (0, .class_ 4), (0, .nameAndType 5 6), (0, u "java/lang/Object"), (0, u "<init>"), (0, u "()V"), (1, .class_ 10), (1, u "java/lang/Number"), (2, .class_ 14), (0, u "java/io/Serializable"), (0, u "serialVersionUID"), (0, u "J")] 20

def k11c0 : Code := { maxStack := 1, maxLocals := 1, code := jdk_18_method_1_code, exceptionTable := #[], attributes := #[] }
def k11m0 : Method := { name := "<init>", desc := "()V", sig := { parameters := [], returnType := none }, accessFlags := 1, code := some k11c0 }
/-- java/lang/Number -/
def k11 : Class := { plain "java/lang/Number" (some 0) with
  accessFlags := 1057
  interfaces := #[3]
  cf := some (fileOf pool11 8 #[] #[{ accessFlags := 1, nameIndex := 5, descriptorIndex := 6, attributes := #[] }] 1057 2 #[13] #[{ accessFlags := 26, nameIndex := 15, descriptorIndex := 16, attributes := #[] }])
  fields := #[{ name := "serialVersionUID", type := .long, accessFlags := 26, slot := 0, constantValue := 0 }]
  methods := #[k11m0]
  instanceTypes := #[]
  staticTypes := #[.long]
  resolved := Array.replicate 37 none
  statics := none }

def pool12 : Array CpInfo := pool [(1, .class_ 2), (0, u "java/lang/Integer"), (16, u "digits"), (0, u "[C"), (46, u "<init>"), (17, u "DigitOnes"), (0, u "[B"), (2, u "DigitTens"), (10, .nameAndType 67 101), (0, u "()V"), (85, u "valueOf"), (0, u "(I)Ljava/lang/Integer;"), (0, .class_ 190), (0, u "java/lang/Integer$IntegerCache"), (0, .fieldref 189 192), (0, .nameAndType 193 194), (0, u "high"), (0, u "I"), (0, .fieldref 189 196), (0, .nameAndType 197 198), (0, u "cache"), (0, u "[Ljava/lang/Integer;"), (0, .methodref 1 200), (0, .nameAndType 67 201), (0, u "(I)V"), (0, .methodref 203 100), (0, .class_ 204), (0, u "java/lang/Number"), (0, .fieldref 1 206), (0, .nameAndType 207 194), (0, u "value"), (94, u "TYPE"), (0, u "Ljava/lang/Class;"), (0, .class_ 305), (0, u "java/lang/Comparable"), (0, .class_ 307), (0, u "java/lang/constant/Constable"), (0, .class_ 309), (0, u "java/lang/constant/ConstantDesc"), (0, u "MIN_VALUE"), (1, u "MAX_VALUE"), (3, u "SIZE"), (1, u "BYTES"), (1, u "serialVersionUID"), (0, u "J")] 131

def k12c0 : Code := { maxStack := 3, maxLocals := 1, code := jdk_33_method_22_code, exceptionTable := #[], attributes := #[] }
def k12m0 : Method := { name := "valueOf", desc := "(I)Ljava/lang/Integer;", sig := { parameters := [.int], returnType := some (.object "java/lang/Integer") }, accessFlags := 9, code := some k12c0 }
def k12c1 : Code := { maxStack := 2, maxLocals := 2, code := jdk_33_method_23_code, exceptionTable := #[], attributes := #[] }
def k12m1 : Method := { name := "<init>", desc := "(I)V", sig := { parameters := [.int], returnType := none }, accessFlags := 1, code := some k12c1 }
/-- java/lang/Integer -/
def k12 : Class := { plain "java/lang/Integer" (some 11) with
  accessFlags := 49
  interfaces := #[4, 6, 7]
  cf := some (fileOf pool12 1 #[.nestMembers #[189]] #[{ accessFlags := 9, nameIndex := 187, descriptorIndex := 188, attributes := #[] }, { accessFlags := 1, nameIndex := 67, descriptorIndex := 201, attributes := #[] }] 49 203 #[304, 306, 308] #[{ accessFlags := 25, nameIndex := 310, descriptorIndex := 194, attributes := #[] }, { accessFlags := 25, nameIndex := 312, descriptorIndex := 194, attributes := #[] }, { accessFlags := 25, nameIndex := 302, descriptorIndex := 303, attributes := #[] }, { accessFlags := 24, nameIndex := 19, descriptorIndex := 20, attributes := #[] }, { accessFlags := 24, nameIndex := 89, descriptorIndex := 86, attributes := #[] }, { accessFlags := 24, nameIndex := 85, descriptorIndex := 86, attributes := #[] }, { accessFlags := 18, nameIndex := 207, descriptorIndex := 194, attributes := #[] }, { accessFlags := 25, nameIndex := 316, descriptorIndex := 194, attributes := #[] }, { accessFlags := 25, nameIndex := 318, descriptorIndex := 194, attributes := #[] }, { accessFlags := 26, nameIndex := 320, descriptorIndex := 321, attributes := #[] }])
  fields := #[{ name := "MIN_VALUE", type := .int, accessFlags := 25, slot := 0, constantValue := 0 }, { name := "MAX_VALUE", type := .int, accessFlags := 25, slot := 1, constantValue := 0 }, { name := "TYPE", type := (.object "java/lang/Class"), accessFlags := 25, slot := 2, constantValue := 0 }, { name := "digits", type := (.array .char), accessFlags := 24, slot := 3, constantValue := 0 }, { name := "DigitTens", type := (.array .byte), accessFlags := 24, slot := 4, constantValue := 0 }, { name := "DigitOnes", type := (.array .byte), accessFlags := 24, slot := 5, constantValue := 0 }, { name := "value", type := .int, accessFlags := 18, slot := 0, constantValue := 0 }, { name := "SIZE", type := .int, accessFlags := 25, slot := 6, constantValue := 0 }, { name := "BYTES", type := .int, accessFlags := 25, slot := 7, constantValue := 0 }, { name := "serialVersionUID", type := .long, accessFlags := 26, slot := 8, constantValue := 0 }]
  methods := #[k12m0, k12m1]
  instanceTypes := #[.int]
  staticTypes := #[.int, .int, (.object "java/lang/Class"), (.array .char), (.array .byte), (.array .byte), .int, .int, .long]
  resolved := Array.replicate 453 none
  statics := none }

def pool13 : Array CpInfo := pool [(2, .class_ 4), (1, u "java/lang/Object"), (0, u "<init>"), (0, u "()V"), (0, .class_ 8), (0, u "java/lang/Integer"), (7, .class_ 18), (1, u "java/lang/Integer$IntegerCache"), (0, u "$assertionsDisabled"), (0, u "Z"), (26, u "high"), (0, u "I"), (8, u "archivedCache"), (0, u "[Ljava/lang/Integer;"), (12, u "cache"), (0, u "low")] 27

def k13m0 : Method := { name := "<init>", desc := "()V", sig := { parameters := [], returnType := none }, accessFlags := 2, code := none }
/-- java/lang/Integer$IntegerCache -/
def k13 : Class := { plain "java/lang/Integer$IntegerCache" (some 0) with
  accessFlags := 48
  interfaces := #[]
  cf := some (fileOf pool13 16 #[.nestHost 7] #[{ accessFlags := 2, nameIndex := 5, descriptorIndex := 6, attributes := #[] }] 48 2 #[] #[{ accessFlags := 24, nameIndex := 72, descriptorIndex := 48, attributes := #[] }, { accessFlags := 24, nameIndex := 47, descriptorIndex := 48, attributes := #[] }, { accessFlags := 24, nameIndex := 71, descriptorIndex := 58, attributes := #[] }, { accessFlags := 8, nameIndex := 57, descriptorIndex := 58, attributes := #[] }, { accessFlags := 4120, nameIndex := 19, descriptorIndex := 20, attributes := #[] }])
  fields := #[{ name := "low", type := .int, accessFlags := 24, slot := 0, constantValue := 0 }, { name := "high", type := .int, accessFlags := 24, slot := 1, constantValue := 0 }, { name := "cache", type := (.array (.object "java/lang/Integer")), accessFlags := 24, slot := 2, constantValue := 0 }, { name := "archivedCache", type := (.array (.object "java/lang/Integer")), accessFlags := 8, slot := 3, constantValue := 0 }, { name := "$assertionsDisabled", type := .boolean, accessFlags := 4120, slot := 4, constantValue := 0 }]
  methods := #[k13m0]
  instanceTypes := #[]
  staticTypes := #[.int, .int, (.array (.object "java/lang/Integer")), (.array (.object "java/lang/Integer")), .boolean]
  resolved := Array.replicate 100 none
  statics := some 1 }

def pool14 : Array CpInfo := pool [(2, .class_ 4), (1, u "java/lang/Object"), (0, u "<init>"), (0, u "()V"), (17, .class_ 26), (1, u "jdk/internal/util/Preconditions"), (28, .class_ 56), (0, u "jdk/internal/util/Preconditions$4"), (57, .class_ 115), (0, u "jdk/internal/util/Preconditions$1"), (7, u "SIOOBE_FORMATTER"), (0, u "Ljava/util/function/BiFunction;"), (0, .class_ 126), (0, u "jdk/internal/util/Preconditions$2"), (3, u "AIOOBE_FORMATTER"), (0, .class_ 132), (0, u "jdk/internal/util/Preconditions$3"), (3, u "IOOBE_FORMATTER")] 57

def k14m0 : Method := { name := "<init>", desc := "()V", sig := { parameters := [], returnType := none }, accessFlags := 1, code := none }
/-- jdk/internal/util/Preconditions -/
def k14 : Class := { plain "jdk/internal/util/Preconditions" (some 0) with
  accessFlags := 33
  interfaces := #[]
  cf := some (fileOf pool14 24 #[.nestMembers #[55, 131, 125, 114]] #[{ accessFlags := 1, nameIndex := 5, descriptorIndex := 6, attributes := #[] }] 33 2 #[] #[{ accessFlags := 25, nameIndex := 123, descriptorIndex := 124, attributes := #[] }, { accessFlags := 25, nameIndex := 130, descriptorIndex := 124, attributes := #[] }, { accessFlags := 25, nameIndex := 136, descriptorIndex := 124, attributes := #[] }])
  fields := #[{ name := "SIOOBE_FORMATTER", type := (.object "java/util/function/BiFunction"), accessFlags := 25, slot := 0, constantValue := 0 }, { name := "AIOOBE_FORMATTER", type := (.object "java/util/function/BiFunction"), accessFlags := 25, slot := 1, constantValue := 0 }, { name := "IOOBE_FORMATTER", type := (.object "java/util/function/BiFunction"), accessFlags := 25, slot := 2, constantValue := 0 }]
  methods := #[k14m0]
  instanceTypes := #[]
  staticTypes := #[(.object "java/util/function/BiFunction"), (.object "java/util/function/BiFunction"), (.object "java/util/function/BiFunction")]
  resolved := Array.replicate 194 none
  statics := some 2 }

def pool15 : Array CpInfo := pool [(9, u "<init>"), (6, .class_ 18), (1, u "java/lang/Object"), (0, u "()V"), (1, .class_ 23), (1, u "jdk/internal/util/ArraysSupport"), (0, u "LOG2_ARRAY_LONG_INDEX_SCALE"), (0, u "I"), (2, u "U"), (0, u "Ljdk/internal/misc/Unsafe;"), (8, u "BIG_ENDIAN"), (0, u "Z"), (8, u "LOG2_BYTE_BIT_SIZE"), (4, u "LOG2_ARRAY_INT_INDEX_SCALE"), (54, u "JLA"), (0, u "Ljdk/internal/access/JavaLangAccess;"), (11, u "LOG2_ARRAY_BOOLEAN_INDEX_SCALE"), (9, u "LOG2_ARRAY_BYTE_INDEX_SCALE"), (5, u "LOG2_ARRAY_CHAR_INDEX_SCALE"), (5, u "LOG2_ARRAY_SHORT_INDEX_SCALE"), (18, u "LOG2_ARRAY_FLOAT_INDEX_SCALE"), (24, u "LOG2_ARRAY_DOUBLE_INDEX_SCALE"), (89, u "T_BOOLEAN"), (2, u "T_CHAR"), (1, u "T_FLOAT"), (1, u "T_DOUBLE"), (1, u "T_BYTE"), (1, u "T_SHORT"), (1, u "T_INT"), (1, u "T_LONG"), (1, u "SOFT_MAX_ARRAY_LENGTH")] 83

def k15m0 : Method := { name := "<init>", desc := "()V", sig := { parameters := [], returnType := none }, accessFlags := 2, code := none }
/-- jdk/internal/util/ArraysSupport -/
def k15 : Class := { plain "jdk/internal/util/ArraysSupport" (some 0) with
  accessFlags := 33
  interfaces := #[]
  cf := some (fileOf pool15 21 #[] #[{ accessFlags := 2, nameIndex := 9, descriptorIndex := 19, attributes := #[] }] 33 16 #[] #[{ accessFlags := 24, nameIndex := 28, descriptorIndex := 29, attributes := #[] }, { accessFlags := 26, nameIndex := 38, descriptorIndex := 39, attributes := #[] }, { accessFlags := 25, nameIndex := 121, descriptorIndex := 25, attributes := #[] }, { accessFlags := 25, nameIndex := 131, descriptorIndex := 25, attributes := #[] }, { accessFlags := 25, nameIndex := 137, descriptorIndex := 25, attributes := #[] }, { accessFlags := 25, nameIndex := 143, descriptorIndex := 25, attributes := #[] }, { accessFlags := 25, nameIndex := 53, descriptorIndex := 25, attributes := #[] }, { accessFlags := 25, nameIndex := 24, descriptorIndex := 25, attributes := #[] }, { accessFlags := 25, nameIndex := 162, descriptorIndex := 25, attributes := #[] }, { accessFlags := 25, nameIndex := 187, descriptorIndex := 25, attributes := #[] }, { accessFlags := 26, nameIndex := 48, descriptorIndex := 25, attributes := #[] }, { accessFlags := 25, nameIndex := 277, descriptorIndex := 25, attributes := #[] }, { accessFlags := 25, nameIndex := 280, descriptorIndex := 25, attributes := #[] }, { accessFlags := 25, nameIndex := 282, descriptorIndex := 25, attributes := #[] }, { accessFlags := 25, nameIndex := 284, descriptorIndex := 25, attributes := #[] }, { accessFlags := 25, nameIndex := 286, descriptorIndex := 25, attributes := #[] }, { accessFlags := 25, nameIndex := 288, descriptorIndex := 25, attributes := #[] }, { accessFlags := 25, nameIndex := 290, descriptorIndex := 25, attributes := #[] }, { accessFlags := 25, nameIndex := 292, descriptorIndex := 25, attributes := #[] }, { accessFlags := 26, nameIndex := 108, descriptorIndex := 109, attributes := #[] }, { accessFlags := 25, nameIndex := 294, descriptorIndex := 25, attributes := #[] }])
  fields := #[{ name := "U", type := (.object "jdk/internal/misc/Unsafe"), accessFlags := 24, slot := 0, constantValue := 0 }, { name := "BIG_ENDIAN", type := .boolean, accessFlags := 26, slot := 1, constantValue := 0 }, { name := "LOG2_ARRAY_BOOLEAN_INDEX_SCALE", type := .int, accessFlags := 25, slot := 2, constantValue := 0 }, { name := "LOG2_ARRAY_BYTE_INDEX_SCALE", type := .int, accessFlags := 25, slot := 3, constantValue := 0 }, { name := "LOG2_ARRAY_CHAR_INDEX_SCALE", type := .int, accessFlags := 25, slot := 4, constantValue := 0 }, { name := "LOG2_ARRAY_SHORT_INDEX_SCALE", type := .int, accessFlags := 25, slot := 5, constantValue := 0 }, { name := "LOG2_ARRAY_INT_INDEX_SCALE", type := .int, accessFlags := 25, slot := 6, constantValue := 0 }, { name := "LOG2_ARRAY_LONG_INDEX_SCALE", type := .int, accessFlags := 25, slot := 7, constantValue := 0 }, { name := "LOG2_ARRAY_FLOAT_INDEX_SCALE", type := .int, accessFlags := 25, slot := 8, constantValue := 0 }, { name := "LOG2_ARRAY_DOUBLE_INDEX_SCALE", type := .int, accessFlags := 25, slot := 9, constantValue := 0 }, { name := "LOG2_BYTE_BIT_SIZE", type := .int, accessFlags := 26, slot := 10, constantValue := 0 }, { name := "T_BOOLEAN", type := .int, accessFlags := 25, slot := 11, constantValue := 0 }, { name := "T_CHAR", type := .int, accessFlags := 25, slot := 12, constantValue := 0 }, { name := "T_FLOAT", type := .int, accessFlags := 25, slot := 13, constantValue := 0 }, { name := "T_DOUBLE", type := .int, accessFlags := 25, slot := 14, constantValue := 0 }, { name := "T_BYTE", type := .int, accessFlags := 25, slot := 15, constantValue := 0 }, { name := "T_SHORT", type := .int, accessFlags := 25, slot := 16, constantValue := 0 }, { name := "T_INT", type := .int, accessFlags := 25, slot := 17, constantValue := 0 }, { name := "T_LONG", type := .int, accessFlags := 25, slot := 18, constantValue := 0 }, { name := "JLA", type := (.object "jdk/internal/access/JavaLangAccess"), accessFlags := 26, slot := 19, constantValue := 0 }, { name := "SOFT_MAX_ARRAY_LENGTH", type := .int, accessFlags := 25, slot := 20, constantValue := 0 }]
  methods := #[k15m0]
  instanceTypes := #[]
  staticTypes := #[(.object "jdk/internal/misc/Unsafe"), .boolean, .int, .int, .int, .int, .int, .int, .int, .int, .int, .int, .int, .int, .int, .int, .int, .int, .int, (.object "jdk/internal/access/JavaLangAccess"), .int]
  resolved := Array.replicate 378 none
  statics := none }

def pool16 : Array CpInfo := pool [(1, u "java/lang/Cloneable"), (0, .class_ 1), (0, u "java/lang/Object"), (0, .class_ 3)] 3

/-- java/lang/Cloneable -/
def k16 : Class := { plain "java/lang/Cloneable" (some 0) with
  accessFlags := 1537
  interfaces := #[]
  cf := some (fileOf pool16 2 #[] #[] 1537 4 #[] #[])
  fields := #[]
  methods := #[]
  instanceTypes := #[]
  staticTypes := #[]
  resolved := Array.replicate 8 none
  statics := none }

/-- the primitive byte -/
def k17 : Class := { plain "byte" none with kind := .primitive 'B', accessFlags := 0x411 }
/-- [B -/
def k18 : Class := { plain "[B" (some 0) with kind := .array 17 .byte, interfaces := #[16, 3], accessFlags := 1041 }

/-- the primitive int -/
def k19 : Class := { plain "int" none with kind := .primitive 'I', accessFlags := 0x411 }
/-- [I -/
def k20 : Class := { plain "[I" (some 0) with kind := .array 19 .int, interfaces := #[16, 3], accessFlags := 1041 }

/-- [Ljava/lang/Integer; -/
def k21 : Class := { plain "[Ljava/lang/Integer;" (some 0) with kind := .array 12 (.object "java/lang/Integer"), interfaces := #[16, 3], accessFlags := 1041 }

def heap : Heap := #[{ cls := 8, slots := #[.long 0, .int 1, .null, .int 0, .null, .int 0, .int 0], vm := .statics 8 },
  { cls := 13, slots := #[.int 0, .int 127, .ref 3, .null, .int 0], vm := .statics 13 },
  { cls := 14, slots := #[.null, .null, .null], vm := .statics 14 },
  { cls := 21, slots := #[.ref 4, .ref 5, .ref 6, .ref 7, .ref 8, .ref 9, .ref 10, .ref 11, .ref 12, .ref 13, .ref 14, .ref 15, .ref 16, .ref 17, .ref 18, .ref 19, .ref 20, .ref 21, .ref 22, .ref 23, .ref 24, .ref 25, .ref 26, .ref 27, .ref 28, .ref 29, .ref 30, .ref 31, .ref 32, .ref 33, .ref 34, .ref 35, .ref 36, .ref 37, .ref 38, .ref 39, .ref 40, .ref 41, .ref 42, .ref 43, .ref 44, .ref 45, .ref 46, .ref 47, .ref 48, .ref 49, .ref 50, .ref 51, .ref 52, .ref 53, .ref 54, .ref 55, .ref 56, .ref 57, .ref 58, .ref 59, .ref 60, .ref 61, .ref 62, .ref 63, .ref 64, .ref 65, .ref 66, .ref 67, .ref 68, .ref 69, .ref 70, .ref 71, .ref 72, .ref 73, .ref 74, .ref 75, .ref 76, .ref 77, .ref 78, .ref 79, .ref 80, .ref 81, .ref 82, .ref 83, .ref 84, .ref 85, .ref 86, .ref 87, .ref 88, .ref 89, .ref 90, .ref 91, .ref 92, .ref 93, .ref 94, .ref 95, .ref 96, .ref 97, .ref 98, .ref 99, .ref 100, .ref 101, .ref 102, .ref 103, .ref 104, .ref 105, .ref 106, .ref 107, .ref 108, .ref 109, .ref 110, .ref 111, .ref 112, .ref 113, .ref 114, .ref 115, .ref 116, .ref 117, .ref 118, .ref 119, .ref 120, .ref 121, .ref 122, .ref 123, .ref 124, .ref 125, .ref 126, .ref 127, .ref 128, .ref 129, .ref 130, .ref 131, .ref 132, .ref 133, .ref 134, .ref 135, .ref 136, .ref 137, .ref 138, .ref 139, .ref 140, .ref 141, .ref 142, .ref 143, .ref 144, .ref 145, .ref 146, .ref 147, .ref 148, .ref 149, .ref 150, .ref 151, .ref 152, .ref 153, .ref 154, .ref 155, .ref 156, .ref 157, .ref 158, .ref 159, .ref 160, .ref 161, .ref 162, .ref 163, .ref 164, .ref 165, .ref 166, .ref 167, .ref 168, .ref 169, .ref 170, .ref 171, .ref 172, .ref 173, .ref 174, .ref 175, .ref 176, .ref 177, .ref 178, .ref 179, .ref 180, .ref 181, .ref 182, .ref 183, .ref 184, .ref 185, .ref 186, .ref 187, .ref 188, .ref 189, .ref 190, .ref 191, .ref 192, .ref 193, .ref 194, .ref 195, .ref 196, .ref 197, .ref 198, .ref 199, .ref 200, .ref 201, .ref 202, .ref 203, .ref 204, .ref 205, .ref 206, .ref 207, .ref 208, .ref 209, .ref 210, .ref 211, .ref 212, .ref 213, .ref 214, .ref 215, .ref 216, .ref 217, .ref 218, .ref 219, .ref 220, .ref 221, .ref 222, .ref 223, .ref 224, .ref 225, .ref 226, .ref 227, .ref 228, .ref 229, .ref 230, .ref 231, .ref 232, .ref 233, .ref 234, .ref 235, .ref 236, .ref 237, .ref 238, .ref 239, .ref 240, .ref 241, .ref 242, .ref 243, .ref 244, .ref 245, .ref 246, .ref 247, .ref 248, .ref 249, .ref 250, .ref 251, .ref 252, .ref 253, .ref 254, .ref 255, .ref 256, .ref 257, .ref 258, .ref 259], vm := .none },
  { cls := 12, slots := #[.int (-128)], vm := .none },
  { cls := 12, slots := #[.int (-127)], vm := .none },
  { cls := 12, slots := #[.int (-126)], vm := .none },
  { cls := 12, slots := #[.int (-125)], vm := .none },
  { cls := 12, slots := #[.int (-124)], vm := .none },
  { cls := 12, slots := #[.int (-123)], vm := .none },
  { cls := 12, slots := #[.int (-122)], vm := .none },
  { cls := 12, slots := #[.int (-121)], vm := .none },
  { cls := 12, slots := #[.int (-120)], vm := .none },
  { cls := 12, slots := #[.int (-119)], vm := .none },
  { cls := 12, slots := #[.int (-118)], vm := .none },
  { cls := 12, slots := #[.int (-117)], vm := .none },
  { cls := 12, slots := #[.int (-116)], vm := .none },
  { cls := 12, slots := #[.int (-115)], vm := .none },
  { cls := 12, slots := #[.int (-114)], vm := .none },
  { cls := 12, slots := #[.int (-113)], vm := .none },
  { cls := 12, slots := #[.int (-112)], vm := .none },
  { cls := 12, slots := #[.int (-111)], vm := .none },
  { cls := 12, slots := #[.int (-110)], vm := .none },
  { cls := 12, slots := #[.int (-109)], vm := .none },
  { cls := 12, slots := #[.int (-108)], vm := .none },
  { cls := 12, slots := #[.int (-107)], vm := .none },
  { cls := 12, slots := #[.int (-106)], vm := .none },
  { cls := 12, slots := #[.int (-105)], vm := .none },
  { cls := 12, slots := #[.int (-104)], vm := .none },
  { cls := 12, slots := #[.int (-103)], vm := .none },
  { cls := 12, slots := #[.int (-102)], vm := .none },
  { cls := 12, slots := #[.int (-101)], vm := .none },
  { cls := 12, slots := #[.int (-100)], vm := .none },
  { cls := 12, slots := #[.int (-99)], vm := .none },
  { cls := 12, slots := #[.int (-98)], vm := .none },
  { cls := 12, slots := #[.int (-97)], vm := .none },
  { cls := 12, slots := #[.int (-96)], vm := .none },
  { cls := 12, slots := #[.int (-95)], vm := .none },
  { cls := 12, slots := #[.int (-94)], vm := .none },
  { cls := 12, slots := #[.int (-93)], vm := .none },
  { cls := 12, slots := #[.int (-92)], vm := .none },
  { cls := 12, slots := #[.int (-91)], vm := .none },
  { cls := 12, slots := #[.int (-90)], vm := .none },
  { cls := 12, slots := #[.int (-89)], vm := .none },
  { cls := 12, slots := #[.int (-88)], vm := .none },
  { cls := 12, slots := #[.int (-87)], vm := .none },
  { cls := 12, slots := #[.int (-86)], vm := .none },
  { cls := 12, slots := #[.int (-85)], vm := .none },
  { cls := 12, slots := #[.int (-84)], vm := .none },
  { cls := 12, slots := #[.int (-83)], vm := .none },
  { cls := 12, slots := #[.int (-82)], vm := .none },
  { cls := 12, slots := #[.int (-81)], vm := .none },
  { cls := 12, slots := #[.int (-80)], vm := .none },
  { cls := 12, slots := #[.int (-79)], vm := .none },
  { cls := 12, slots := #[.int (-78)], vm := .none },
  { cls := 12, slots := #[.int (-77)], vm := .none },
  { cls := 12, slots := #[.int (-76)], vm := .none },
  { cls := 12, slots := #[.int (-75)], vm := .none },
  { cls := 12, slots := #[.int (-74)], vm := .none },
  { cls := 12, slots := #[.int (-73)], vm := .none },
  { cls := 12, slots := #[.int (-72)], vm := .none },
  { cls := 12, slots := #[.int (-71)], vm := .none },
  { cls := 12, slots := #[.int (-70)], vm := .none },
  { cls := 12, slots := #[.int (-69)], vm := .none },
  { cls := 12, slots := #[.int (-68)], vm := .none },
  { cls := 12, slots := #[.int (-67)], vm := .none },
  { cls := 12, slots := #[.int (-66)], vm := .none },
  { cls := 12, slots := #[.int (-65)], vm := .none },
  { cls := 12, slots := #[.int (-64)], vm := .none },
  { cls := 12, slots := #[.int (-63)], vm := .none },
  { cls := 12, slots := #[.int (-62)], vm := .none },
  { cls := 12, slots := #[.int (-61)], vm := .none },
  { cls := 12, slots := #[.int (-60)], vm := .none },
  { cls := 12, slots := #[.int (-59)], vm := .none },
  { cls := 12, slots := #[.int (-58)], vm := .none },
  { cls := 12, slots := #[.int (-57)], vm := .none },
  { cls := 12, slots := #[.int (-56)], vm := .none },
  { cls := 12, slots := #[.int (-55)], vm := .none },
  { cls := 12, slots := #[.int (-54)], vm := .none },
  { cls := 12, slots := #[.int (-53)], vm := .none },
  { cls := 12, slots := #[.int (-52)], vm := .none },
  { cls := 12, slots := #[.int (-51)], vm := .none },
  { cls := 12, slots := #[.int (-50)], vm := .none },
  { cls := 12, slots := #[.int (-49)], vm := .none },
  { cls := 12, slots := #[.int (-48)], vm := .none },
  { cls := 12, slots := #[.int (-47)], vm := .none },
  { cls := 12, slots := #[.int (-46)], vm := .none },
  { cls := 12, slots := #[.int (-45)], vm := .none },
  { cls := 12, slots := #[.int (-44)], vm := .none },
  { cls := 12, slots := #[.int (-43)], vm := .none },
  { cls := 12, slots := #[.int (-42)], vm := .none },
  { cls := 12, slots := #[.int (-41)], vm := .none },
  { cls := 12, slots := #[.int (-40)], vm := .none },
  { cls := 12, slots := #[.int (-39)], vm := .none },
  { cls := 12, slots := #[.int (-38)], vm := .none },
  { cls := 12, slots := #[.int (-37)], vm := .none },
  { cls := 12, slots := #[.int (-36)], vm := .none },
  { cls := 12, slots := #[.int (-35)], vm := .none },
  { cls := 12, slots := #[.int (-34)], vm := .none },
  { cls := 12, slots := #[.int (-33)], vm := .none },
  { cls := 12, slots := #[.int (-32)], vm := .none },
  { cls := 12, slots := #[.int (-31)], vm := .none },
  { cls := 12, slots := #[.int (-30)], vm := .none },
  { cls := 12, slots := #[.int (-29)], vm := .none },
  { cls := 12, slots := #[.int (-28)], vm := .none },
  { cls := 12, slots := #[.int (-27)], vm := .none },
  { cls := 12, slots := #[.int (-26)], vm := .none },
  { cls := 12, slots := #[.int (-25)], vm := .none },
  { cls := 12, slots := #[.int (-24)], vm := .none },
  { cls := 12, slots := #[.int (-23)], vm := .none },
  { cls := 12, slots := #[.int (-22)], vm := .none },
  { cls := 12, slots := #[.int (-21)], vm := .none },
  { cls := 12, slots := #[.int (-20)], vm := .none },
  { cls := 12, slots := #[.int (-19)], vm := .none },
  { cls := 12, slots := #[.int (-18)], vm := .none },
  { cls := 12, slots := #[.int (-17)], vm := .none },
  { cls := 12, slots := #[.int (-16)], vm := .none },
  { cls := 12, slots := #[.int (-15)], vm := .none },
  { cls := 12, slots := #[.int (-14)], vm := .none },
  { cls := 12, slots := #[.int (-13)], vm := .none },
  { cls := 12, slots := #[.int (-12)], vm := .none },
  { cls := 12, slots := #[.int (-11)], vm := .none },
  { cls := 12, slots := #[.int (-10)], vm := .none },
  { cls := 12, slots := #[.int (-9)], vm := .none },
  { cls := 12, slots := #[.int (-8)], vm := .none },
  { cls := 12, slots := #[.int (-7)], vm := .none },
  { cls := 12, slots := #[.int (-6)], vm := .none },
  { cls := 12, slots := #[.int (-5)], vm := .none },
  { cls := 12, slots := #[.int (-4)], vm := .none },
  { cls := 12, slots := #[.int (-3)], vm := .none },
  { cls := 12, slots := #[.int (-2)], vm := .none },
  { cls := 12, slots := #[.int (-1)], vm := .none },
  { cls := 12, slots := #[.int (0)], vm := .none },
  { cls := 12, slots := #[.int (1)], vm := .none },
  { cls := 12, slots := #[.int (2)], vm := .none },
  { cls := 12, slots := #[.int (3)], vm := .none },
  { cls := 12, slots := #[.int (4)], vm := .none },
  { cls := 12, slots := #[.int (5)], vm := .none },
  { cls := 12, slots := #[.int (6)], vm := .none },
  { cls := 12, slots := #[.int (7)], vm := .none },
  { cls := 12, slots := #[.int (8)], vm := .none },
  { cls := 12, slots := #[.int (9)], vm := .none },
  { cls := 12, slots := #[.int (10)], vm := .none },
  { cls := 12, slots := #[.int (11)], vm := .none },
  { cls := 12, slots := #[.int (12)], vm := .none },
  { cls := 12, slots := #[.int (13)], vm := .none },
  { cls := 12, slots := #[.int (14)], vm := .none },
  { cls := 12, slots := #[.int (15)], vm := .none },
  { cls := 12, slots := #[.int (16)], vm := .none },
  { cls := 12, slots := #[.int (17)], vm := .none },
  { cls := 12, slots := #[.int (18)], vm := .none },
  { cls := 12, slots := #[.int (19)], vm := .none },
  { cls := 12, slots := #[.int (20)], vm := .none },
  { cls := 12, slots := #[.int (21)], vm := .none },
  { cls := 12, slots := #[.int (22)], vm := .none },
  { cls := 12, slots := #[.int (23)], vm := .none },
  { cls := 12, slots := #[.int (24)], vm := .none },
  { cls := 12, slots := #[.int (25)], vm := .none },
  { cls := 12, slots := #[.int (26)], vm := .none },
  { cls := 12, slots := #[.int (27)], vm := .none },
  { cls := 12, slots := #[.int (28)], vm := .none },
  { cls := 12, slots := #[.int (29)], vm := .none },
  { cls := 12, slots := #[.int (30)], vm := .none },
  { cls := 12, slots := #[.int (31)], vm := .none },
  { cls := 12, slots := #[.int (32)], vm := .none },
  { cls := 12, slots := #[.int (33)], vm := .none },
  { cls := 12, slots := #[.int (34)], vm := .none },
  { cls := 12, slots := #[.int (35)], vm := .none },
  { cls := 12, slots := #[.int (36)], vm := .none },
  { cls := 12, slots := #[.int (37)], vm := .none },
  { cls := 12, slots := #[.int (38)], vm := .none },
  { cls := 12, slots := #[.int (39)], vm := .none },
  { cls := 12, slots := #[.int (40)], vm := .none },
  { cls := 12, slots := #[.int (41)], vm := .none },
  { cls := 12, slots := #[.int (42)], vm := .none },
  { cls := 12, slots := #[.int (43)], vm := .none },
  { cls := 12, slots := #[.int (44)], vm := .none },
  { cls := 12, slots := #[.int (45)], vm := .none },
  { cls := 12, slots := #[.int (46)], vm := .none },
  { cls := 12, slots := #[.int (47)], vm := .none },
  { cls := 12, slots := #[.int (48)], vm := .none },
  { cls := 12, slots := #[.int (49)], vm := .none },
  { cls := 12, slots := #[.int (50)], vm := .none },
  { cls := 12, slots := #[.int (51)], vm := .none },
  { cls := 12, slots := #[.int (52)], vm := .none },
  { cls := 12, slots := #[.int (53)], vm := .none },
  { cls := 12, slots := #[.int (54)], vm := .none },
  { cls := 12, slots := #[.int (55)], vm := .none },
  { cls := 12, slots := #[.int (56)], vm := .none },
  { cls := 12, slots := #[.int (57)], vm := .none },
  { cls := 12, slots := #[.int (58)], vm := .none },
  { cls := 12, slots := #[.int (59)], vm := .none },
  { cls := 12, slots := #[.int (60)], vm := .none },
  { cls := 12, slots := #[.int (61)], vm := .none },
  { cls := 12, slots := #[.int (62)], vm := .none },
  { cls := 12, slots := #[.int (63)], vm := .none },
  { cls := 12, slots := #[.int (64)], vm := .none },
  { cls := 12, slots := #[.int (65)], vm := .none },
  { cls := 12, slots := #[.int (66)], vm := .none },
  { cls := 12, slots := #[.int (67)], vm := .none },
  { cls := 12, slots := #[.int (68)], vm := .none },
  { cls := 12, slots := #[.int (69)], vm := .none },
  { cls := 12, slots := #[.int (70)], vm := .none },
  { cls := 12, slots := #[.int (71)], vm := .none },
  { cls := 12, slots := #[.int (72)], vm := .none },
  { cls := 12, slots := #[.int (73)], vm := .none },
  { cls := 12, slots := #[.int (74)], vm := .none },
  { cls := 12, slots := #[.int (75)], vm := .none },
  { cls := 12, slots := #[.int (76)], vm := .none },
  { cls := 12, slots := #[.int (77)], vm := .none },
  { cls := 12, slots := #[.int (78)], vm := .none },
  { cls := 12, slots := #[.int (79)], vm := .none },
  { cls := 12, slots := #[.int (80)], vm := .none },
  { cls := 12, slots := #[.int (81)], vm := .none },
  { cls := 12, slots := #[.int (82)], vm := .none },
  { cls := 12, slots := #[.int (83)], vm := .none },
  { cls := 12, slots := #[.int (84)], vm := .none },
  { cls := 12, slots := #[.int (85)], vm := .none },
  { cls := 12, slots := #[.int (86)], vm := .none },
  { cls := 12, slots := #[.int (87)], vm := .none },
  { cls := 12, slots := #[.int (88)], vm := .none },
  { cls := 12, slots := #[.int (89)], vm := .none },
  { cls := 12, slots := #[.int (90)], vm := .none },
  { cls := 12, slots := #[.int (91)], vm := .none },
  { cls := 12, slots := #[.int (92)], vm := .none },
  { cls := 12, slots := #[.int (93)], vm := .none },
  { cls := 12, slots := #[.int (94)], vm := .none },
  { cls := 12, slots := #[.int (95)], vm := .none },
  { cls := 12, slots := #[.int (96)], vm := .none },
  { cls := 12, slots := #[.int (97)], vm := .none },
  { cls := 12, slots := #[.int (98)], vm := .none },
  { cls := 12, slots := #[.int (99)], vm := .none },
  { cls := 12, slots := #[.int (100)], vm := .none },
  { cls := 12, slots := #[.int (101)], vm := .none },
  { cls := 12, slots := #[.int (102)], vm := .none },
  { cls := 12, slots := #[.int (103)], vm := .none },
  { cls := 12, slots := #[.int (104)], vm := .none },
  { cls := 12, slots := #[.int (105)], vm := .none },
  { cls := 12, slots := #[.int (106)], vm := .none },
  { cls := 12, slots := #[.int (107)], vm := .none },
  { cls := 12, slots := #[.int (108)], vm := .none },
  { cls := 12, slots := #[.int (109)], vm := .none },
  { cls := 12, slots := #[.int (110)], vm := .none },
  { cls := 12, slots := #[.int (111)], vm := .none },
  { cls := 12, slots := #[.int (112)], vm := .none },
  { cls := 12, slots := #[.int (113)], vm := .none },
  { cls := 12, slots := #[.int (114)], vm := .none },
  { cls := 12, slots := #[.int (115)], vm := .none },
  { cls := 12, slots := #[.int (116)], vm := .none },
  { cls := 12, slots := #[.int (117)], vm := .none },
  { cls := 12, slots := #[.int (118)], vm := .none },
  { cls := 12, slots := #[.int (119)], vm := .none },
  { cls := 12, slots := #[.int (120)], vm := .none },
  { cls := 12, slots := #[.int (121)], vm := .none },
  { cls := 12, slots := #[.int (122)], vm := .none },
  { cls := 12, slots := #[.int (123)], vm := .none },
  { cls := 12, slots := #[.int (124)], vm := .none },
  { cls := 12, slots := #[.int (125)], vm := .none },
  { cls := 12, slots := #[.int (126)], vm := .none },
  { cls := 12, slots := #[.int (127)], vm := .none }]
def classes : Array Class := #[k0, k1, k2, k3, k4, k5, k6, k7, k8, k9, k10, k11, k12, k13, k14, k15, k16, k17, k18, k19, k20, k21]
def interned : List (Array UInt16 × Addr) := []
def slotsUsed : Nat := 527
def theMethod : MethodId := ⟨1, 3⟩
def args0 : Array Value := #[.int 5, .int 7, .int 3]
def aboutOver (below : List Frame) : State where
  vm := { classes := classes, interned := interned.toArray }
  heap := heap
  slotsUsed := slotsUsed
  threads := #[{ frames := .invoking theMethod args0 :: below }]
def below0 : List Frame := [.native { method := ⟨0, 0⟩, args := #[] }]
def about1 : State := aboutOver below0
def p0 : Program := .bare "" "" ""
def e0 : Env := launch0.env 0 0 0
theorem w_frames : about1.frames = Frame.invoking theMethod args0 :: below0 := rfl
set_option maxRecDepth 65536 in
theorem w_args : argsFit about1.vm theMethod args0 = true := by decide +kernel
set_option maxRecDepth 65536 in
theorem w_heap : heapFits about1 = true := by decide +kernel
set_option maxRecDepth 65536 in
theorem w_runnable : about1.curStatus? = some .runnable := by decide +kernel
set_option maxRecDepth 65536 in
theorem w_alone : about1.alone = true := by decide +kernel
set_option maxRecDepth 65536 in
theorem w_named : about1.methodNamed? x = some theMethod := by decide +kernel
set_option maxRecDepth 65536 in
theorem w_hears : about1.hears theMethod below0 = true := by decide +kernel
set_option maxRecDepth 65536 in
theorem w_ripe : about1.ripe theMethod args0 below0 = true := by decide +kernel
theorem w_running : about1.status = .running := rfl
set_option maxRecDepth 65536 in
theorem w_room : about1.hasRoom e0.platform room_1 = true :=
  launch0.hasRoom_least _ room_1 (by decide +kernel) (by decide +kernel) (by decide +kernel) (by decide +kernel) (by decide +kernel) (by decide +kernel)
theorem allAtoms_all (ts : List Jvm.Cond) (a : Array Jvm.Value) (st : Jvm.State) : (allAtoms ts).before a st = ts.all (fun c => c.before a st) := by
  induction ts with
  | nil => rfl
  | cons c t ih =>
    show (Jvm.Cond.and c (allAtoms t)).before a st = _
    rw [Jvm.Cond.before_and, ih, List.all_cons]
def words1 : List Jvm.Cond := Jvm.Cond.code x code maxLocals ret :: tables_1
/-- a 'code' word, met by the world's own term for the bytes: nothing is compared byte by byte -/
theorem code_word {y : MethodName} {bytes : ByteArray} {mx : Nat} {rt : Option FieldType} {a : Array Value} {s : State} {m : MethodId} {meth : Method} {c : Code} (h1 : s.methodNamed? y = some m) (h2 : s.vm.method? m = some meth) (h3 : meth.code = some c) (h4 : c.code = bytes)
    (h5 : (c.maxLocals == mx && c.exceptionTable.isEmpty && decide (c.maxStack ≤ mostOperands) && decide (meth.sig.returnType = rt) && !meth.locks && decide (parseMethodDescriptor y.desc = some meth.sig)) = true) : (Jvm.Cond.code y bytes mx rt).before a s = true := by
  simp only [Bool.and_eq_true, beq_iff_eq, Bool.not_eq_true', decide_eq_true_eq] at h5
  obtain ⟨⟨⟨⟨⟨g1, g2⟩, g3⟩, g4⟩, g5⟩, g6⟩ := h5
  simp [Cond.before, Cond.holds, Cond.value, h1, h2, h3, h4, g1, g2, g3, g4, g5, g6]
def isCode : Jvm.Cond → Bool
  | .code _ _ _ _ => true
  | _ => false
theorem all_split {L : List Jvm.Cond} {P : Jvm.Cond → Bool} (h1 : L.all (fun c => isCode c || P c) = true) (h2 : ∀ c ∈ L.filter isCode, P c = true) : L.all P = true := by
  refine List.all_eq_true.mpr fun c hc => ?_
  have h := List.all_eq_true.mp h1 c hc
  rcases Bool.eq_false_or_eq_true (isCode c) with hi | hi
  · exact h2 c (List.mem_filter.mpr ⟨hc, hi⟩)
  · simpa [hi] using h
set_option maxRecDepth 65536 in
theorem w_c0 : (Jvm.Cond.code x code maxLocals ret).before args0 about1 = true := code_word (m := ⟨1, 3⟩) (meth := k1m3) (c := k1c3) (by decide +kernel) rfl rfl rfl (by decide +kernel)
set_option maxRecDepth 65536 in
theorem w_c1 : (Jvm.Cond.code ({ cls := "com/example/relayout/relayout/plan/TransferEqualsPinLaw", name := "id", desc := "(I)Ljava/lang/String;" } : Jvm.MethodName) method_2_code (1 : Nat) (Option.some (Jvm.ClassFile.FieldType.object "java/lang/String"))).before args0 about1 = true := code_word (m := ⟨1, 1⟩) (meth := k1m1) (c := k1c1) (by decide +kernel) rfl rfl rfl (by decide +kernel)
set_option maxRecDepth 65536 in
theorem w_c2 : (Jvm.Cond.code ({ cls := "java/lang/String", name := "valueOf", desc := "(C)Ljava/lang/String;" } : Jvm.MethodName) jdk_42_method_139_code (1 : Nat) (Option.some (Jvm.ClassFile.FieldType.object "java/lang/String"))).before args0 about1 = true := code_word (m := ⟨8, 2⟩) (meth := k8m2) (c := k8c2) (by decide +kernel) rfl rfl rfl (by decide +kernel)
set_option maxRecDepth 65536 in
theorem w_c3 : (Jvm.Cond.code ({ cls := "java/lang/StringLatin1", name := "canEncode", desc := "(C)Z" } : Jvm.MethodName) jdk_43_method_3_code (1 : Nat) (Option.some Jvm.ClassFile.FieldType.boolean)).before args0 about1 = true := code_word (m := ⟨9, 1⟩) (meth := k9m1) (c := k9c1) (by decide +kernel) rfl rfl rfl (by decide +kernel)
set_option maxRecDepth 65536 in
theorem w_c4 : (Jvm.Cond.code ({ cls := "java/lang/StringLatin1", name := "toBytes", desc := "(C)[B" } : Jvm.MethodName) jdk_43_method_46_code (1 : Nat) (Option.some (Jvm.ClassFile.FieldType.array Jvm.ClassFile.FieldType.byte))).before args0 about1 = true := code_word (m := ⟨9, 3⟩) (meth := k9m3) (c := k9c3) (by decide +kernel) rfl rfl rfl (by decide +kernel)
set_option maxRecDepth 65536 in
theorem w_c5 : (Jvm.Cond.code ({ cls := "java/lang/String", name := "<init>", desc := "([BB)V" } : Jvm.MethodName) jdk_42_method_151_code (3 : Nat) (Option.none : Option Jvm.ClassFile.FieldType)).before args0 about1 = true := code_word (m := ⟨8, 3⟩) (meth := k8m3) (c := k8c3) (by decide +kernel) rfl rfl rfl (by decide +kernel)
set_option maxRecDepth 65536 in
theorem w_c6 : (Jvm.Cond.code ({ cls := "java/lang/Object", name := "<init>", desc := "()V" } : Jvm.MethodName) object_method_1_code (1 : Nat) (Option.none : Option Jvm.ClassFile.FieldType)).before args0 about1 = true := code_word (m := ⟨0, 0⟩) (meth := k0m0) (c := k0c0) (by decide +kernel) rfl rfl rfl (by decide +kernel)
set_option maxRecDepth 65536 in
theorem w_c7 : (Jvm.Cond.code ({ cls := "com/example/relayout/relayout/plan/Transfer", name := "<init>", desc := "(Ljava/lang/String;Ljava/lang/String;Ljava/lang/String;)V" } : Jvm.MethodName) prog_11_method_1_code (4 : Nat) (Option.none : Option Jvm.ClassFile.FieldType)).before args0 about1 = true := code_word (m := ⟨2, 0⟩) (meth := k2m0) (c := k2c0) (by decide +kernel) rfl rfl rfl (by decide +kernel)
set_option maxRecDepth 65536 in
theorem w_c8 : (Jvm.Cond.code ({ cls := "java/util/Objects", name := "requireNonNull", desc := "(Ljava/lang/Object;Ljava/lang/String;)Ljava/lang/Object;" } : Jvm.MethodName) jdk_31_method_11_code (2 : Nat) (Option.some (Jvm.ClassFile.FieldType.object "java/lang/Object"))).before args0 about1 = true := code_word (m := ⟨10, 1⟩) (meth := k10m1) (c := k10c1) (by decide +kernel) rfl rfl rfl (by decide +kernel)
set_option maxRecDepth 65536 in
theorem w_c9 : (Jvm.Cond.code ({ cls := "java/lang/Integer", name := "valueOf", desc := "(I)Ljava/lang/Integer;" } : Jvm.MethodName) jdk_33_method_22_code (1 : Nat) (Option.some (Jvm.ClassFile.FieldType.object "java/lang/Integer"))).before args0 about1 = true := code_word (m := ⟨12, 0⟩) (meth := k12m0) (c := k12c0) (by decide +kernel) rfl rfl rfl (by decide +kernel)
set_option maxRecDepth 65536 in
theorem w_c10 : (Jvm.Cond.code ({ cls := "com/example/relayout/relayout/plan/Transfer", name := "equals", desc := "(Ljava/lang/Object;)Z" } : Jvm.MethodName) prog_11_method_5_code (3 : Nat) (Option.some Jvm.ClassFile.FieldType.boolean)).before args0 about1 = true := code_word (m := ⟨2, 1⟩) (meth := k2m1) (c := k2c1) (by decide +kernel) rfl rfl rfl (by decide +kernel)
set_option maxRecDepth 65536 in
theorem w_c11 : (Jvm.Cond.code ({ cls := "java/lang/String", name := "equals", desc := "(Ljava/lang/Object;)Z" } : Jvm.MethodName) jdk_42_method_66_code (3 : Nat) (Option.some Jvm.ClassFile.FieldType.boolean)).before args0 about1 = true := code_word (m := ⟨8, 1⟩) (meth := k8m1) (c := k8c1) (by decide +kernel) rfl rfl rfl (by decide +kernel)
set_option maxRecDepth 65536 in
theorem w_c12 : (Jvm.Cond.code ({ cls := "com/example/relayout/relayout/plan/TransferEqualsPinLaw", name := "key", desc := "(I)I" } : Jvm.MethodName) method_3_code (1 : Nat) (Option.some Jvm.ClassFile.FieldType.int)).before args0 about1 = true := code_word (m := ⟨1, 2⟩) (meth := k1m2) (c := k1c2) (by decide +kernel) rfl rfl rfl (by decide +kernel)
set_option maxRecDepth 65536 in
theorem w_c13 : (Jvm.Cond.code ({ cls := "java/lang/StringLatin1", name := "equals", desc := "([B[B)Z" } : Jvm.MethodName) jdk_43_method_13_code (3 : Nat) (Option.some Jvm.ClassFile.FieldType.boolean)).before args0 about1 = true := code_word (m := ⟨9, 2⟩) (meth := k9m2) (c := k9c2) (by decide +kernel) rfl rfl rfl (by decide +kernel)
set_option maxRecDepth 65536 in
theorem w_c14 : (Jvm.Cond.code ({ cls := "java/lang/Integer", name := "<init>", desc := "(I)V" } : Jvm.MethodName) jdk_33_method_23_code (2 : Nat) (Option.none : Option Jvm.ClassFile.FieldType)).before args0 about1 = true := code_word (m := ⟨12, 1⟩) (meth := k12m1) (c := k12c1) (by decide +kernel) rfl rfl rfl (by decide +kernel)
set_option maxRecDepth 65536 in
theorem w_c15 : (Jvm.Cond.code ({ cls := "java/lang/Number", name := "<init>", desc := "()V" } : Jvm.MethodName) jdk_18_method_1_code (1 : Nat) (Option.none : Option Jvm.ClassFile.FieldType)).before args0 about1 = true := code_word (m := ⟨11, 0⟩) (meth := k11m0) (c := k11c0) (by decide +kernel) rfl rfl rfl (by decide +kernel)
def codes1 : List Jvm.Cond := [Jvm.Cond.code x code maxLocals ret, Jvm.Cond.code ({ cls := "com/example/relayout/relayout/plan/TransferEqualsPinLaw", name := "id", desc := "(I)Ljava/lang/String;" } : Jvm.MethodName) method_2_code (1 : Nat) (Option.some (Jvm.ClassFile.FieldType.object "java/lang/String")), Jvm.Cond.code ({ cls := "java/lang/String", name := "valueOf", desc := "(C)Ljava/lang/String;" } : Jvm.MethodName) jdk_42_method_139_code (1 : Nat) (Option.some (Jvm.ClassFile.FieldType.object "java/lang/String")), Jvm.Cond.code ({ cls := "java/lang/StringLatin1", name := "canEncode", desc := "(C)Z" } : Jvm.MethodName) jdk_43_method_3_code (1 : Nat) (Option.some Jvm.ClassFile.FieldType.boolean), Jvm.Cond.code ({ cls := "java/lang/StringLatin1", name := "toBytes", desc := "(C)[B" } : Jvm.MethodName) jdk_43_method_46_code (1 : Nat) (Option.some (Jvm.ClassFile.FieldType.array Jvm.ClassFile.FieldType.byte)), Jvm.Cond.code ({ cls := "java/lang/String", name := "<init>", desc := "([BB)V" } : Jvm.MethodName) jdk_42_method_151_code (3 : Nat) (Option.none : Option Jvm.ClassFile.FieldType), Jvm.Cond.code ({ cls := "java/lang/Object", name := "<init>", desc := "()V" } : Jvm.MethodName) object_method_1_code (1 : Nat) (Option.none : Option Jvm.ClassFile.FieldType), Jvm.Cond.code ({ cls := "com/example/relayout/relayout/plan/Transfer", name := "<init>", desc := "(Ljava/lang/String;Ljava/lang/String;Ljava/lang/String;)V" } : Jvm.MethodName) prog_11_method_1_code (4 : Nat) (Option.none : Option Jvm.ClassFile.FieldType), Jvm.Cond.code ({ cls := "java/util/Objects", name := "requireNonNull", desc := "(Ljava/lang/Object;Ljava/lang/String;)Ljava/lang/Object;" } : Jvm.MethodName) jdk_31_method_11_code (2 : Nat) (Option.some (Jvm.ClassFile.FieldType.object "java/lang/Object")), Jvm.Cond.code ({ cls := "java/lang/Integer", name := "valueOf", desc := "(I)Ljava/lang/Integer;" } : Jvm.MethodName) jdk_33_method_22_code (1 : Nat) (Option.some (Jvm.ClassFile.FieldType.object "java/lang/Integer")), Jvm.Cond.code ({ cls := "com/example/relayout/relayout/plan/Transfer", name := "equals", desc := "(Ljava/lang/Object;)Z" } : Jvm.MethodName) prog_11_method_5_code (3 : Nat) (Option.some Jvm.ClassFile.FieldType.boolean), Jvm.Cond.code ({ cls := "java/lang/String", name := "equals", desc := "(Ljava/lang/Object;)Z" } : Jvm.MethodName) jdk_42_method_66_code (3 : Nat) (Option.some Jvm.ClassFile.FieldType.boolean), Jvm.Cond.code ({ cls := "com/example/relayout/relayout/plan/TransferEqualsPinLaw", name := "key", desc := "(I)I" } : Jvm.MethodName) method_3_code (1 : Nat) (Option.some Jvm.ClassFile.FieldType.int), Jvm.Cond.code ({ cls := "java/lang/StringLatin1", name := "equals", desc := "([B[B)Z" } : Jvm.MethodName) jdk_43_method_13_code (3 : Nat) (Option.some Jvm.ClassFile.FieldType.boolean), Jvm.Cond.code ({ cls := "java/lang/Integer", name := "<init>", desc := "(I)V" } : Jvm.MethodName) jdk_33_method_23_code (2 : Nat) (Option.none : Option Jvm.ClassFile.FieldType), Jvm.Cond.code ({ cls := "java/lang/Number", name := "<init>", desc := "()V" } : Jvm.MethodName) jdk_18_method_1_code (1 : Nat) (Option.none : Option Jvm.ClassFile.FieldType)]
set_option maxRecDepth 65536 in
theorem codes_eq : words1.filter isCode = codes1 := rfl
theorem w_codes : ∀ c ∈ words1.filter isCode, c.before args0 about1 = true := by
  rw [codes_eq]
  intro c hc
  simp only [codes1, List.mem_cons, List.not_mem_nil, or_false] at hc
  rcases hc with rfl | rfl | rfl | rfl | rfl | rfl | rfl | rfl | rfl | rfl | rfl | rfl | rfl | rfl | rfl | rfl
  · exact w_c0
  · exact w_c1
  · exact w_c2
  · exact w_c3
  · exact w_c4
  · exact w_c5
  · exact w_c6
  · exact w_c7
  · exact w_c8
  · exact w_c9
  · exact w_c10
  · exact w_c11
  · exact w_c12
  · exact w_c13
  · exact w_c14
  · exact w_c15
set_option maxRecDepth 65536 in
theorem w_t1 : (words1.take 24).all (fun c => isCode c || c.before args0 about1) = true := by decide +kernel
set_option maxRecDepth 65536 in
theorem w_t2 : ((words1.drop 24).take 24).all (fun c => isCode c || c.before args0 about1) = true := by decide +kernel
set_option maxRecDepth 65536 in
theorem w_t3 : (((words1.drop 24).drop 24).take 24).all (fun c => isCode c || c.before args0 about1) = true := by decide +kernel
set_option maxRecDepth 65536 in
theorem w_t4 : ((((words1.drop 24).drop 24).drop 24).take 24).all (fun c => isCode c || c.before args0 about1) = true := by decide +kernel
set_option maxRecDepth 65536 in
theorem w_t5 : ((((words1.drop 24).drop 24).drop 24).drop 24).all (fun c => isCode c || c.before args0 about1) = true := by decide +kernel
theorem w_tables : (allAtoms (Jvm.Cond.code x code maxLocals ret :: tables_1)).before args0 about1 = true := by
  rw [allAtoms_all]
  show words1.all (fun c => c.before args0 about1) = true
  refine all_split ?_ w_codes
  rw [← List.take_append_drop 24 words1, List.all_append, w_t1, ← List.take_append_drop 24 (words1.drop 24), List.all_append, w_t2, ← List.take_append_drop 24 ((words1.drop 24).drop 24), List.all_append, w_t3, ← List.take_append_drop 24 (((words1.drop 24).drop 24).drop 24), List.all_append, w_t4, w_t5]
  rfl
set_option maxRecDepth 65536 in
theorem w_rest : rest_1_c.before args0 about1 = true := by decide +kernel
set_option maxRecDepth 65536 in
theorem w_case : (Jvm.Cond.and given_1 narrow_1).before args0 about1 = true := by decide +kernel
set_option maxRecDepth 65536 in
theorem w_consts : constsHeld consts_1 about1 := Jvm.Lit.constsHeldB_iff.mp (by decide +kernel)
theorem w_applies : (headSpec (Jvm.Cond.code x code maxLocals ret :: tables_1) room_1).applies x e0.platform about1 = true :=
  (Spec.applies_iff w_frames).mpr ⟨w_running, w_runnable, w_alone, w_named, w_hears, w_ripe, w_room, w_tables⟩
theorem atStart : AtStart classFile x code maxLocals ret World_1 tables_1 room_1 Calls_1 rest_1 Pre_1 launch0 p0 e0 about1 theMethod args0 below0 :=
  ⟨lists_1, trivial, launch0.admits_env _ _ _, launch0.least_env, fairChoices_fair.cas, fairChoices_fair.clock, w_frames, w_args, w_heap, w_applies, ⟨w_consts, trivial⟩, w_rest, w_case⟩
end start1
theorem witness_1 : WitnessClaimed_1 := ⟨start1.p0, start1.e0, start1.about1, start1.theMethod, start1.args0, start1.below0, start1.atStart⟩
end Jvm.Pilot.@@N@@
