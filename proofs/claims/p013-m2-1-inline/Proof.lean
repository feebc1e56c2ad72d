import JvmDerived
import JvmDerived.Pilot.@@N@@Statement
import JvmDerived.Pilot.@@N@@Code
set_option linter.unusedVariables false
set_option linter.unusedSimpArgs false
/- laws to paste: Road.backV (cut by pick.py; bodies as the Statement names them) -/
namespace Jvm.Pilot.@@N@@
namespace StrChars
open Jvm Sem ClassFile Op Lib Jvm.Stand Jvm.Free.XT Jvm.Free.ALB Jvm.Free.JM Jvm.Free
open Jvm.Lib.Cold (StaticIs)
/-- a char array whose places are chars -/
def Ch (a : Addr) (A : Cell) (U : State) : Prop := Arr .char a A U ∧ Typed .char A
theorem Ch.mv {a : Addr} {A : Cell} {U U' : State} (h : Ch a A U) (hal : U.vm.Alike U'.vm) (hh : U'.heap = U.heap) : Ch a A U' := ⟨h.1.mv hal hh, h.2⟩
theorem Ch.keep {a : Addr} {A : Cell} {U U' : State} (h : Ch a A U) (hal : U.vm.Alike U'.vm) (hk : U'.heap[a]? = some A) : Ch a A U' := ⟨h.1.keep hal hk, h.2⟩
/-- what place i of a char[]'s cell holds -/
def cv (A : Cell) (i : Nat) : Int32 := match A.slots[i]? with | some (.int x) => x | _ => 0
theorem Ch.get {a : Addr} {A : Cell} {U : State} (h : Ch a A U) {i : Nat} (hi : i < A.slots.size) : A.slots[i]? = some (.int (cv A i)) := by
  have e := Array.getElem?_eq_getElem hi
  have f := h.2 i _ e
  unfold cv; rw [e]
  generalize A.slots[i] = v at f
  cases v <;> simp [fits] at f ⊢
/-- the byte that i2b leaves of a char -/
def lo8 (x : Int32) : Int32 := x.toInt8.toInt32
theorem fits_lo8 (y : Int32) : fits .byte (.int (lo8 y)) = true := by
  have h1 := y.toInt8.le_toInt
  have h2 := y.toInt8.toInt_lt
  simp only [lo8, fits, Bool.and_eq_true, decide_eq_true_eq, Int32.le_iff_toInt_le, Int8.toInt_toInt32, show (-128 : Int32).toInt = -128 from by decide, show (127 : Int32).toInt = 127 from by decide]
  omega
/-- A' is A but that each place j of lo .. hi - 1 holds f j -/
def Laid (A A' : Cell) (lo hi : Nat) (f : Nat → Value) : Prop := A'.cls = A.cls ∧ A'.vm = A.vm ∧ A'.slots.size = A.slots.size ∧ ∀ i, A'.slots[i]? = if lo ≤ i ∧ i < hi then some (f i) else A.slots[i]?
theorem Laid.zero (A : Cell) (lo : Nat) (f : Nat → Value) : Laid A A lo (lo + 0) f := ⟨rfl, rfl, rfl, fun i => by rw [if_neg (by omega)]⟩
theorem Laid.step {A Ak : Cell} {lo k : Nat} {f : Nat → Value} {v : Value} (h : Laid A Ak lo k f) (hlo : lo ≤ k) (hk : k < Ak.slots.size) (hv : v = f k) : Laid A (Ak.setSlot k v) lo (k + 1) f := by
  refine ⟨h.1, h.2.1, by simpa [Cell.setSlot] using h.2.2.1, fun i => ?_⟩
  by_cases e : k = i
  · subst e; rw [Cell.slots_setSlot_self v hk, if_pos (by omega), hv]
  · rw [Cell.slots_setSlot_ne v e, h.2.2.2 i]
    by_cases q : lo ≤ i ∧ i < k
    · rw [if_pos q, if_pos (by omega)]
    · rw [if_neg q, if_neg (by omega)]
def U16 : String := "java/lang/StringUTF16"
namespace Cmp5
def yN : MethodName := ⟨"java/lang/StringUTF16", "compress", "([CI[BII)I"⟩
abbrev yB : ByteArray := jdk_52_method_21_code
theorem d0 : decode yB 0 = .ok (.iconst 0, 1) := by decide +kernel
theorem d1 : decode yB 1 = .ok (.istore 5, 2) := by decide +kernel
theorem d3 : decode yB 3 = .ok (.iload 5, 2) := by decide +kernel
theorem d5 : decode yB 5 = .ok (.iload 4, 2) := by decide +kernel
theorem d7 : decode yB 7 = .ok (.if_icmp (.ge) 37, 3) := by decide +kernel
theorem d10 : decode yB 10 = .ok (.aload_n 0, 1) := by decide +kernel
theorem d11 : decode yB 11 = .ok (.iload_n 1, 1) := by decide +kernel
theorem d12 : decode yB 12 = .ok (.caload, 1) := by decide +kernel
theorem d13 : decode yB 13 = .ok (.istore 6, 2) := by decide +kernel
theorem d15 : decode yB 15 = .ok (.iload 6, 2) := by decide +kernel
theorem d17 : decode yB 17 = .ok (.sipush 255, 3) := by decide +kernel
theorem d20 : decode yB 20 = .ok (.if_icmp (.le) 6, 3) := by decide +kernel
theorem d26 : decode yB 26 = .ok (.aload_n 2, 1) := by decide +kernel
theorem d27 : decode yB 27 = .ok (.iload_n 3, 1) := by decide +kernel
theorem d28 : decode yB 28 = .ok (.iload 6, 2) := by decide +kernel
theorem d30 : decode yB 30 = .ok (.i2b, 1) := by decide +kernel
theorem d31 : decode yB 31 = .ok (.bastore, 1) := by decide +kernel
theorem d32 : decode yB 32 = .ok (.iinc 1 1, 3) := by decide +kernel
theorem d35 : decode yB 35 = .ok (.iinc 3 1, 3) := by decide +kernel
theorem d38 : decode yB 38 = .ok (.iinc 5 1, 3) := by decide +kernel
theorem d41 : decode yB 41 = .ok (.goto (-38), 3) := by decide +kernel
theorem d44 : decode yB 44 = .ok (.iload 4, 2) := by decide +kernel
theorem d46 : decode yB 46 = .ok (.ireturn, 1) := by decide +kernel
def site : List Cond := []
def tab : Cond := tabOf yN yB 7 (some .int) site
def P (b : Addr) (A : Cell) (d : Addr) (B : Cell) (o q len : Nat) (args : Array Value) (s : State) : Prop := args = #[.ref b, .int (Int32.ofNat o), .ref d, .int (Int32.ofNat q), .int (Int32.ofNat len)] ∧ Ch b A s ∧ Arr .byte d B s ∧ b ≠ d ∧ o + len ≤ A.slots.size ∧ q + len ≤ B.slots.size ∧ ∀ i, i < len → ¬ 255 < cv A (o + i)
def E (b : Addr) (A : Cell) (d : Addr) (B : Cell) (o q len : Nat) (r : Option Value) (s u : State) : Prop := r = some (.int (Int32.ofNat len)) ∧ ∃ B', Put d B' s u ∧ Laid B B' q (q + len) (fun j => Value.int (lo8 (cv A (o + (j - q)))))
/-- no char of the range above 255: len; the places written hold each char's low byte -/
theorem law (l : Launch) (b : Addr) (A : Cell) (d : Addr) (B : Cell) (o q len : Nat) : Law l yN 5 5 0 0 yB 7 (some .int) site (P b A d B o q len) (E b A d B o q len) (copyLocs d q len) 0 0 := by
  refine Law.of_walk (plainFor_of_name (by decide +kernel)) (by decide +kernel) (by decide +kernel) (by decide) (fun _ _ h => by rw [h.1]; rfl) (fun _ U U' hal hh h => ⟨h.1, h.2.1.mv hal hh, h.2.2.1.mv hal hh, h.2.2.2⟩) (fun r U U' V V' h1 hal h2 h => ⟨h.1, h.2.elim fun B' q => ⟨B', q.1.mv h1 h2, q.2⟩⟩) ?_
  intro p e s m args below meth c s₁ X0 hexec hbytes hml hret hlk hnm hown hh0 W hP
  obtain ⟨rfl, hA, hB, hne, l1, l2, hp⟩ := hP
  have c1 : Steps p.tables e below (s₁.setTop (entryFrame m #[.ref b, .int (Int32.ofNat o), .ref d, .int (Int32.ofNat q), .int (Int32.ofNat len)] 7)) (s₁.setTop (mkF m 0 #[.val (.ref b), .val (.int (Int32.ofNat o)), .val (.ref d), .val (.int (Int32.ofNat q)), .val (.int (Int32.ofNat len)), .unset, .unset] [])) := entry rfl
  have hA0 := hA.1.mv X0.warmed.alike hh0
  have hB0 := hB.mv X0.warmed.alike hh0
  have a31 := hA.1.2.2.2
  have c2 : Steps p.tables e below (s₁.setTop (entryFrame m #[.ref b, .int (Int32.ofNat o), .ref d, .int (Int32.ofNat q), .int (Int32.ofNat len)] 7)) (s₁.setTop (mkF m 3 #[.val (.ref b), .val (.int (Int32.ofNat o)), .val (.ref d), .val (.int (Int32.ofNat q)), .val (.int (Int32.ofNat len)), .val (.int 0), .unset] [])) := c1.trans (by
    refine iconstV X0.here hexec rfl 0 (hb hbytes d0) (by decide) ?_
    refine XS.istore X0.here hexec rfl (hb hbytes d1) rfl rfl ?_
    exact Steps.refl _)
  have loop : ∀ (r i : Nat), i + r = len → ∀ (z : Slot), (z = .unset ∨ ∃ w, z = .val w ∧ w.category = 1) → ∀ (Tl : State) (Bk : Cell), Stand p l e { frames := 0, locals := 0, cells := 0, slots := 0 } s m #[.ref b, .int (Int32.ofNat o), .ref d, .int (Int32.ofNat q), .int (Int32.ofNat len)] below meth c Tl ([] ++ copyLocs d q i) 0 0 → Put d Bk s₁ Tl → Laid B Bk q (q + i) (fun j => Value.int (lo8 (cv A (o + (j - q))))) →
      Steps p.tables e below (s₁.setTop (entryFrame m #[.ref b, .int (Int32.ofNat o), .ref d, .int (Int32.ofNat q), .int (Int32.ofNat len)] 7)) (Tl.setTop (mkF m 3 #[.val (.ref b), .val (.int (Int32.ofNat (o + i))), .val (.ref d), .val (.int (Int32.ofNat (q + i))), .val (.int (Int32.ofNat len)), .val (.int (Int32.ofNat i)), z] [])) → ∃ (T' : State) (B' : Cell) (z' : Slot), Stand p l e { frames := 0, locals := 0, cells := 0, slots := 0 } s m #[.ref b, .int (Int32.ofNat o), .ref d, .int (Int32.ofNat q), .int (Int32.ofNat len)] below meth c T' ([] ++ copyLocs d q len) 0 0 ∧ Put d B' s₁ T' ∧ Laid B B' q (q + len) (fun j => Value.int (lo8 (cv A (o + (j - q))))) ∧
      Steps p.tables e below (s₁.setTop (entryFrame m #[.ref b, .int (Int32.ofNat o), .ref d, .int (Int32.ofNat q), .int (Int32.ofNat len)] 7)) (T'.setTop (mkF m 3 #[.val (.ref b), .val (.int (Int32.ofNat (o + len))), .val (.ref d), .val (.int (Int32.ofNat (q + len))), .val (.int (Int32.ofNat len)), .val (.int (Int32.ofNat len)), z'] [])) := by
    intro r
    induction r with
    | zero =>
      intro i hi z hz Tl Bk Xl pl fl cl
      have hil : i = len := by omega
      rw [hil] at Xl fl cl
      exact ⟨Tl, Bk, z, Xl, pl, fl, cl⟩
    | succ r ih =>
      intro i hi z hz Tl Bk Xl pl fl cl
      have all := X0.warmed.alike.symm.trans Xl.warmed.alike
      have hAl := hA0.keep all (pl.other hne hA0.1)
      have hBk := hB0.like all pl.1 fl.1 fl.2.1 fl.2.2.1
      have hlt : q + i < Bk.slots.size := by rw [fl.2.2.1]; omega
      have c3 : Steps p.tables e below (s₁.setTop (entryFrame m #[.ref b, .int (Int32.ofNat o), .ref d, .int (Int32.ofNat q), .int (Int32.ofNat len)] 7)) (Tl.setTop (mkF m 12 #[.val (.ref b), .val (.int (Int32.ofNat (o + i))), .val (.ref d), .val (.int (Int32.ofNat (q + i))), .val (.int (Int32.ofNat len)), .val (.int (Int32.ofNat i)), z] [.int (Int32.ofNat (o + i)), .ref b])) := cl.trans (by
        refine XS.iload Xl.here hexec rfl (hb hbytes d3) rfl ?_
        refine XS.iload Xl.here hexec rfl (hb hbytes d5) rfl ?_
        refine XS.icmpNo Xl.here hexec rfl (hb hbytes d7) rfl (ii_ge_f (lt32 (by omega) (by omega))) ?_
        refine XS.aloadN Xl.here hexec rfl (hb hbytes d10) rfl rfl ?_
        refine XS.iloadN Xl.here hexec rfl (hb hbytes d11) rfl ?_
        exact Steps.refl _)
      have c4 : Steps p.tables e below (s₁.setTop (entryFrame m #[.ref b, .int (Int32.ofNat o), .ref d, .int (Int32.ofNat q), .int (Int32.ofNat len)] 7)) (Tl.setTop (mkF m 13 #[.val (.ref b), .val (.int (Int32.ofNat (o + i))), .val (.ref d), .val (.int (Int32.ofNat (q + i))), .val (.int (Int32.ofNat len)), .val (.int (Int32.ofNat i)), z] [.int (cv A (o + i))])) := c3.trans (by
        refine Xl.aget hexec hAl rfl (hA.get (i := o + i) (by omega)) rfl rfl (hb hbytes d12) ?_
        exact Steps.refl _)
      have c5 : Steps p.tables e below (s₁.setTop (entryFrame m #[.ref b, .int (Int32.ofNat o), .ref d, .int (Int32.ofNat q), .int (Int32.ofNat len)] 7)) (Tl.setTop (mkF m 15 #[.val (.ref b), .val (.int (Int32.ofNat (o + i))), .val (.ref d), .val (.int (Int32.ofNat (q + i))), .val (.int (Int32.ofNat len)), .val (.int (Int32.ofNat i)), .val (.int (cv A (o + i)))] [])) := c4.trans (by
        refine XS.istoreS Xl.here hexec rfl (hb hbytes d13) rfl rfl hz ?_
        exact Steps.refl _)
      have c6 : Steps p.tables e below (s₁.setTop (entryFrame m #[.ref b, .int (Int32.ofNat o), .ref d, .int (Int32.ofNat q), .int (Int32.ofNat len)] 7)) (Tl.setTop (mkF m 31 #[.val (.ref b), .val (.int (Int32.ofNat (o + i))), .val (.ref d), .val (.int (Int32.ofNat (q + i))), .val (.int (Int32.ofNat len)), .val (.int (Int32.ofNat i)), .val (.int (cv A (o + i)))] [.int (lo8 (cv A (o + i))), .int (Int32.ofNat (q + i)), .ref d])) := c5.trans (by
        refine XS.iload Xl.here hexec rfl (hb hbytes d15) rfl ?_
        refine sipushV Xl.here hexec rfl 255 (hb hbytes d17) (by decide) ?_
        refine XS.icmpYes Xl.here hexec rfl (pc0 := 20) rfl (hb hbytes d20) rfl (ii_le_t (hp i (by omega))) (by decide) rfl ?_
        refine XS.aloadN Xl.here hexec rfl (hb hbytes d26) rfl rfl ?_
        refine XS.iloadN Xl.here hexec rfl (hb hbytes d27) rfl ?_
        refine XS.iload Xl.here hexec rfl (hb hbytes d28) rfl ?_
        refine i2b Xl.here hexec rfl (hb hbytes d30) rfl ?_
        exact Steps.refl _)
      obtain ⟨T7, X7, p7, st7⟩ := Xl.aput hexec hBk rfl hlt rfl (fits_lo8 (cv A (o + i))) (g := (mkF m 31 #[.val (.ref b), .val (.int (Int32.ofNat (o + i))), .val (.ref d), .val (.int (Int32.ofNat (q + i))), .val (.int (Int32.ofNat len)), .val (.int (Int32.ofNat i)), .val (.int (cv A (o + i)))] [.int (lo8 (cv A (o + i))), .int (Int32.ofNat (q + i)), .ref d])) rfl (rest := []) rfl (hb hbytes d31)
      have c8 : Steps p.tables e below (s₁.setTop (entryFrame m #[.ref b, .int (Int32.ofNat o), .ref d, .int (Int32.ofNat q), .int (Int32.ofNat len)] 7)) (T7.setTop (mkF m 32 #[.val (.ref b), .val (.int (Int32.ofNat (o + i))), .val (.ref d), .val (.int (Int32.ofNat (q + i))), .val (.int (Int32.ofNat len)), .val (.int (Int32.ofNat i)), .val (.int (cv A (o + i)))] [])) := c6.trans (st7 _ (Steps.refl _))
      have c9 : Steps p.tables e below (s₁.setTop (entryFrame m #[.ref b, .int (Int32.ofNat o), .ref d, .int (Int32.ofNat q), .int (Int32.ofNat len)] 7)) (T7.setTop (mkF m 3 #[.val (.ref b), .val (.int (Int32.ofNat (o + i) + 1)), .val (.ref d), .val (.int (Int32.ofNat (q + i) + 1)), .val (.int (Int32.ofNat len)), .val (.int (Int32.ofNat i + 1)), .val (.int (cv A (o + i)))] [])) := c8.trans (by
        refine iincV X7.here hexec rfl 1 (hb hbytes d32) (by decide) rfl rfl ?_
        refine iincV X7.here hexec rfl 1 (hb hbytes d35) (by decide) rfl rfl ?_
        refine iincV X7.here hexec rfl 1 (hb hbytes d38) (by decide) rfl rfl ?_
        refine XS.goto X7.here hexec rfl (pc0 := 41) rfl (hb hbytes d41) (by decide) rfl ?_
        exact Steps.refl _)
      have c10 : Steps p.tables e below (s₁.setTop (entryFrame m #[.ref b, .int (Int32.ofNat o), .ref d, .int (Int32.ofNat q), .int (Int32.ofNat len)] 7)) (T7.setTop (mkF m 3 #[.val (.ref b), .val (.int (Int32.ofNat (o + (i + 1)))), .val (.ref d), .val (.int (Int32.ofNat (q + (i + 1)))), .val (.int (Int32.ofNat len)), .val (.int (Int32.ofNat (i + 1))), .val (.int (cv A (o + i)))] [])) := by
        have := c9
        rw [succ32, succ32, succ32] at this
        exact this
      exact ih (i + 1) (by omega) _ (Or.inr ⟨_, rfl, rfl⟩) T7 _ (by rw [copyLocs_step, ← List.append_assoc]; exact X7) (pl.trans p7) (fl.step (by omega) hlt (by simp)) c10
  obtain ⟨T9, B9, z9, X9, p9, f9, g9⟩ := loop len 0 (by omega) .unset (Or.inl rfl) s₁ B (by simpa [copyLocs] using X0) ⟨hB0.1, fun _ _ => rfl, rfl⟩ (Laid.zero _ _ _) c2
  have c11 : Steps p.tables e below (s₁.setTop (entryFrame m #[.ref b, .int (Int32.ofNat o), .ref d, .int (Int32.ofNat q), .int (Int32.ofNat len)] 7)) (T9.setTop (mkF m 46 #[.val (.ref b), .val (.int (Int32.ofNat (o + len))), .val (.ref d), .val (.int (Int32.ofNat (q + len))), .val (.int (Int32.ofNat len)), .val (.int (Int32.ofNat len)), z9] [.int (Int32.ofNat len)])) := g9.trans (by
    refine XS.iload X9.here hexec rfl (hb hbytes d3) rfl ?_
    refine XS.iload X9.here hexec rfl (hb hbytes d5) rfl ?_
    refine XS.icmpYes X9.here hexec rfl (pc0 := 7) rfl (hb hbytes d7) rfl (ii_ge_t (nlt32 (by omega) (Nat.le_refl _))) (by decide) rfl ?_
    refine XS.iload X9.here hexec rfl (hb hbytes d44) rfl ?_
    exact Steps.refl _)
  exact ⟨T9, some (.int (Int32.ofNat len)), _, _, _, X9, by simp, rfl, rfl, (fun h => by cases h), ⟨rfl, B9, p9.from hh0, f9⟩, fun fs hl => c11.trans (X9.ireturnOut hexec hret rfl (Or.inl rfl) (hb hbytes d46) hl)⟩
end Cmp5
namespace Cmp3
def yN : MethodName := ⟨"java/lang/StringUTF16", "compress", "([CII)[B"⟩
abbrev yB : ByteArray := jdk_52_method_16_code
theorem d0 : decode yB 0 = .ok (.iload_n 2, 1) := by decide +kernel
theorem d1 : decode yB 1 = .ok (.newarray .byte, 2) := by decide +kernel
theorem d3 : decode yB 3 = .ok (.astore_n 3, 1) := by decide +kernel
theorem d4 : decode yB 4 = .ok (.aload_n 0, 1) := by decide +kernel
theorem d5 : decode yB 5 = .ok (.iload_n 1, 1) := by decide +kernel
theorem d6 : decode yB 6 = .ok (.aload_n 3, 1) := by decide +kernel
theorem d7 : decode yB 7 = .ok (.iconst 0, 1) := by decide +kernel
theorem d8 : decode yB 8 = .ok (.iload_n 2, 1) := by decide +kernel
theorem d9 : decode yB 9 = .ok (.invokestatic 115, 3) := by decide +kernel
theorem d12 : decode yB 12 = .ok (.istore 4, 2) := by decide +kernel
theorem d14 : decode yB 14 = .ok (.iload 4, 2) := by decide +kernel
theorem d16 : decode yB 16 = .ok (.iload_n 2, 1) := by decide +kernel
theorem d17 : decode yB 17 = .ok (.if_icmp (.eq) 40, 3) := by decide +kernel
theorem d57 : decode yB 57 = .ok (.aload_n 3, 1) := by decide +kernel
theorem d58 : decode yB 58 = .ok (.areturn, 1) := by decide +kernel
def site : List Cond := [.arrayClass .byte, Cmp5.tab] ++ staticW U16 115 Cmp5.yN
def tab : Cond := tabOf yN yB 6 (some (.array .byte)) site
def P (b : Addr) (A : Cell) (o len : Nat) (args : Array Value) (s : State) : Prop := args = #[.ref b, .int (Int32.ofNat o), .int (Int32.ofNat len)] ∧ Ch b A s ∧ o + len ≤ A.slots.size ∧ len ≤ 536870912 ∧ ∀ i, i < len → ¬ 255 < cv A (o + i)
def E (b : Addr) (A : Cell) (o len : Nat) (r : Option Value) (s u : State) : Prop := NewArr .byte "[B" len (fun j => .int (lo8 (cv A (o + j)))) r s u ∧ u.heap.size = s.heap.size + 1
/-- no char of the range above 255: a new byte[] of their low bytes -/
theorem law (l : Launch) (b : Addr) (A : Cell) (o len : Nat) : Law l yN 3 3 1 18 yB 6 (some (.array .byte)) site (P b A o len) (E b A o len) [] 1 len := by
  refine Law.of_walk (plainFor_of_name (by decide +kernel)) (by decide +kernel) (by decide +kernel) (by decide) (fun _ _ h => by rw [h.1]; rfl) (fun _ U U' hal hh h => ⟨h.1, h.2.1.mv hal hh, h.2.2⟩) (fun r U U' V V' h1 hal h2 h => ⟨NewArr.mv r U U' V V' h1 hal h2 h.1, by rw [h1, h2]; exact h.2⟩) ?_
  intro p e s m args below meth c s₁ X0 hexec hbytes hml hret hlk hnm hown hh0 W hP
  obtain ⟨rfl, hA, l1, l2, hp⟩ := hP
  have a31 := hA.1.2.2.2
  have c1 : Steps p.tables e below (s₁.setTop (entryFrame m #[.ref b, .int (Int32.ofNat o), .int (Int32.ofNat len)] 6)) (s₁.setTop (mkF m 0 #[.val (.ref b), .val (.int (Int32.ofNat o)), .val (.int (Int32.ofNat len)), .unset, .unset, .unset] [])) := entry rfl
  have c2 : Steps p.tables e below (s₁.setTop (entryFrame m #[.ref b, .int (Int32.ofNat o), .int (Int32.ofNat len)] 6)) (s₁.setTop (mkF m 1 #[.val (.ref b), .val (.int (Int32.ofNat o)), .val (.int (Int32.ofNat len)), .unset, .unset, .unset] [.int (Int32.ofNat len)])) := c1.trans (by
    refine XS.iloadN X0.here hexec rfl (hb hbytes d0) rfl ?_
    exact Steps.refl _)
  obtain ⟨T3, B3, X3, ba3, bs3, bv3, bh3, bf3, st3⟩ := X0.anew hexec (atype := .byte) (wk W (.arrayClass .byte)) rfl (by show len * 1 ≤ _; omega) (by omega) (g := (mkF m 1 #[.val (.ref b), .val (.int (Int32.ofNat o)), .val (.int (Int32.ofNat len)), .unset, .unset, .unset] [.int (Int32.ofNat len)])) rfl (hb hbytes d1) (rest := []) rfl (Nat.le_refl _) (by show 0 + len ≤ len; omega)
  rw [hh0] at ba3 st3
  have kp3 : XT.Kept s T3 := (XT.Kept.of_eq hh0).push bh3
  have hA3 := hA.keep X3.warmed.alike (kp3 _ _ hA.1.1)
  have hne : b ≠ s.heap.size := hA.1.ne
  have c4 : Steps p.tables e below (s₁.setTop (entryFrame m #[.ref b, .int (Int32.ofNat o), .int (Int32.ofNat len)] 6)) (T3.setTop (mkF m 3 #[.val (.ref b), .val (.int (Int32.ofNat o)), .val (.int (Int32.ofNat len)), .unset, .unset, .unset] [.ref s.heap.size])) := c2.trans (st3 _ (Steps.refl _))
  have c5 : Steps p.tables e below (s₁.setTop (entryFrame m #[.ref b, .int (Int32.ofNat o), .int (Int32.ofNat len)] 6)) (T3.setTop (mkF m 9 #[.val (.ref b), .val (.int (Int32.ofNat o)), .val (.int (Int32.ofNat len)), .val (.ref s.heap.size), .unset, .unset] [.int (Int32.ofNat len), .int 0, .ref s.heap.size, .int (Int32.ofNat o), .ref b])) := c4.trans (by
    refine XS.astoreN X3.here hexec rfl (hb hbytes d3) rfl rfl rfl ?_
    refine XS.aloadN X3.here hexec rfl (hb hbytes d4) rfl rfl ?_
    refine XS.iloadN X3.here hexec rfl (hb hbytes d5) rfl ?_
    refine XS.aloadN X3.here hexec rfl (hb hbytes d6) rfl rfl ?_
    refine iconstV X3.here hexec rfl 0 (hb hbytes d7) (by decide) ?_
    refine XS.iloadN X3.here hexec rfl (hb hbytes d8) rfl ?_
    exact Steps.refl _)
  obtain ⟨v6, T6, X6, E6, g6⟩ := X3.callS hexec (Cmp5.law l b A s.heap.size B3 o 0 len) hown (wks W (staticW U16 115 Cmp5.yN)) (wk W Cmp5.tab) (W := 0) (Nat.le_of_ble_eq_true rfl) (Nat.le_of_ble_eq_true rfl) (Nat.le_refl _) (by show 0 + len + 0 ≤ len; omega) (g := (mkF m 9 #[.val (.ref b), .val (.int (Int32.ofNat o)), .val (.int (Int32.ofNat len)), .val (.ref s.heap.size), .unset, .unset] [.int (Int32.ofNat len), .int (Int32.ofNat 0), .ref s.heap.size, .int (Int32.ofNat o), .ref b])) rfl (by rw [hml]; rfl) c5 (argsL := [.ref b, .int (Int32.ofNat o), .ref s.heap.size, .int (Int32.ofNat 0), .int (Int32.ofNat len)]) (rest := []) rfl rfl (by show 2 * 0 + 0 ≤ _; decide) (hb hbytes d9) (⟨rfl, hA3, ba3, hne, l1, by rw [bs3]; simp, hp⟩)
  obtain ⟨rfl, B6, p6, f6⟩ := E6
  have c7 : Steps p.tables e below (s₁.setTop (entryFrame m #[.ref b, .int (Int32.ofNat o), .int (Int32.ofNat len)] 6)) (T6.setTop (mkF m 12 #[.val (.ref b), .val (.int (Int32.ofNat o)), .val (.int (Int32.ofNat len)), .val (.ref s.heap.size), .unset, .unset] [.int (Int32.ofNat len)])) := g6
  have c8 : Steps p.tables e below (s₁.setTop (entryFrame m #[.ref b, .int (Int32.ofNat o), .int (Int32.ofNat len)] 6)) (T6.setTop (mkF m 58 #[.val (.ref b), .val (.int (Int32.ofNat o)), .val (.int (Int32.ofNat len)), .val (.ref s.heap.size), .val (.int (Int32.ofNat len)), .unset] [.ref s.heap.size])) := c7.trans (by
    refine XS.istore X6.here hexec rfl (hb hbytes d12) rfl rfl ?_
    refine XS.iload X6.here hexec rfl (hb hbytes d14) rfl ?_
    refine XS.iloadN X6.here hexec rfl (hb hbytes d16) rfl ?_
    refine XS.icmpYes X6.here hexec rfl (pc0 := 17) rfl (hb hbytes d17) rfl (ii_eq_t rfl) (by decide) rfl ?_
    refine XS.aloadN X6.here hexec rfl (hb hbytes d57) rfl rfl ?_
    exact Steps.refl _)
  have X8 := X6.wide (L' := []) (cells' := 1) (slots' := len) (fun x hx hlt => by
    simp only [List.nil_append, copyLocs, List.mem_map, List.mem_range] at hx
    obtain ⟨i, -, rfl⟩ := hx
    exact absurd hlt (Nat.lt_irrefl _)) (Nat.le_refl _) (by omega)
  exact ⟨T6, some (.ref s.heap.size), _, _, _, X8, rfl, rfl, rfl, (fun h => by cases h), ⟨⟨rfl, B6, ba3.like (X3.warmed.alike.symm.trans X6.warmed.alike) p6.1 f6.1 f6.2.1 f6.2.2.1, f6.2.1.trans bv3, by rw [X6.warmed.alike.findClass, f6.1]; exact bf3, by rw [f6.2.2.1, bs3]; simp, fun j hj => by rw [f6.2.2.2 j, if_pos (by omega)]; rfl, kp3.put p6 (Nat.le_refl _)⟩, by rw [p6.2.2, bh3, hh0]; simp⟩, fun fs hl => c8.trans (X8.areturnOut hexec rfl hret rfl (hb hbytes d58) hl)⟩
end Cmp3
namespace CodL
def yN : MethodName := ⟨"java/lang/StringUTF16", "coderFromArrayLen", "([BI)B"⟩
abbrev yB : ByteArray := jdk_52_method_15_code
theorem d0 : decode yB 0 = .ok (.iload_n 1, 1) := by decide +kernel
theorem d1 : decode yB 1 = .ok (.aload_n 0, 1) := by decide +kernel
theorem d2 : decode yB 2 = .ok (.arraylength, 1) := by decide +kernel
theorem d3 : decode yB 3 = .ok (.isub, 1) := by decide +kernel
theorem d4 : decode yB 4 = .ok (.bipush 31, 2) := by decide +kernel
theorem d6 : decode yB 6 = .ok (.iushr, 1) := by decide +kernel
theorem d7 : decode yB 7 = .ok (.i2b, 1) := by decide +kernel
theorem d8 : decode yB 8 = .ok (.ireturn, 1) := by decide +kernel
def site : List Cond := []
def tab : Cond := tabOf yN yB 2 (some .byte) site
def P (d : Addr) (B : Cell) (args : Array Value) (s : State) : Prop := args = #[.ref d, .int (Int32.ofNat B.slots.size)] ∧ Arr .byte d B s
def E (r : Option Value) (s u : State) : Prop := XT.PureE (some (.int 0)) r s u
/-- an array as long as the number of chars: LATIN1 -/
theorem law (l : Launch) (d : Addr) (B : Cell) : Law l yN 2 2 0 0 yB 2 (some .byte) site (P d B) E [] 0 0 := by
  refine Law.of_walk (plainFor_of_name (by decide +kernel)) (by decide +kernel) (by decide +kernel) (by decide) (fun _ _ h => by rw [h.1]; rfl) (fun _ U U' hal hh h => ⟨h.1, h.2.mv hal hh⟩) (fun r U U' V V' h1 hal h2 h => XT.PureE.mv r U U' V V' h1 hal h2 h) ?_
  intro p e s m args below meth c s₁ X0 hexec hbytes hml hret hlk hnm hown hh0 W hP
  obtain ⟨rfl, hB⟩ := hP
  have hB0 := hB.mv X0.warmed.alike hh0
  have c1 : Steps p.tables e below (s₁.setTop (entryFrame m #[.ref d, .int (Int32.ofNat B.slots.size)] 2)) (s₁.setTop (mkF m 0 #[.val (.ref d), .val (.int (Int32.ofNat B.slots.size))] [])) := entry rfl
  have c2 : Steps p.tables e below (s₁.setTop (entryFrame m #[.ref d, .int (Int32.ofNat B.slots.size)] 2)) (s₁.setTop (mkF m 2 #[.val (.ref d), .val (.int (Int32.ofNat B.slots.size))] [.ref d, .int (Int32.ofNat B.slots.size)])) := c1.trans (by
    refine XS.iloadN X0.here hexec rfl (hb hbytes d0) rfl ?_
    refine XS.aloadN X0.here hexec rfl (hb hbytes d1) rfl rfl ?_
    exact Steps.refl _)
  have c3 : Steps p.tables e below (s₁.setTop (entryFrame m #[.ref d, .int (Int32.ofNat B.slots.size)] 2)) (s₁.setTop (mkF m 8 #[.val (.ref d), .val (.int (Int32.ofNat B.slots.size))] [.int (lo8 (ushr (Int32.ofNat B.slots.size - Int32.ofNat B.slots.size) 31))])) := c2.trans (by
    refine X0.alen hexec hB0 rfl rfl (hb hbytes d2) ?_
    refine XS.isub X0.here hexec rfl (hb hbytes d3) rfl ?_
    refine bipushV X0.here hexec rfl 31 (hb hbytes d4) (by decide) ?_
    refine iushr X0.here hexec rfl (hb hbytes d6) rfl ?_
    refine i2b X0.here hexec rfl (hb hbytes d7) rfl ?_
    exact Steps.refl _)
  have e0 : lo8 (ushr (Int32.ofNat B.slots.size - Int32.ofNat B.slots.size) 31) = 0 := by rw [Int32.sub_self]; decide
  rw [e0] at c3
  exact ⟨s₁, some (.int 0), _, _, _, X0, rfl, rfl, rfl, (fun h => by cases h), ⟨rfl, hh0⟩, fun fs hl => c3.trans (X0.ireturnOut hexec hret rfl (Or.inr (Or.inr (Or.inl rfl))) (hb hbytes d8) hl)⟩
end CodL
/-- the String at a is Latin-1 over a new byte[] (the heap's one new cell): the low bytes of the len chars of A from o on; every cell but a is kept -/
def Got (a : Addr) (D : Cell) (fV fC : Field) (A : Cell) (o len : Nat) (r : Option Value) (s u : State) : Prop := r = none ∧ ∃ D' V : Cell, Blank "java/lang/String" a D' u ∧ Same D D' [fV.slot, fC.slot] ∧ D'.slots[fV.slot]? = some (.ref s.heap.size) ∧ D'.slots[fC.slot]? = some (.int 0) ∧ Arr .byte s.heap.size V u ∧ V.vm = .none ∧ u.vm.findClass "[B" = some V.cls ∧ V.slots.size = len ∧ (∀ j, j < len → V.slots[j]? = some (.int (lo8 (cv A (o + j))))) ∧ (∀ (y : Addr) (c : Cell), y ≠ a → s.heap[y]? = some c → u.heap[y]? = some c) ∧ u.heap.size = s.heap.size + 1
theorem Got.mv {a : Addr} {D A : Cell} {fV fC : Field} {o len : Nat} : ∀ r (U U' V V' : State), U'.heap = U.heap → V.vm.Alike V'.vm → V'.heap = V.heap → Got a D fV fC A o len r U V → Got a D fV fC A o len r U' V' :=
  fun r U U' V V' h1 hal h2 ⟨e0, D', X, a1, a2, a3, a4, a5, a6, a7, a8, a9, a10, a11⟩ => ⟨e0, D', X, a1.mv hal h2, a2, by rw [h1]; exact a3, a4, by rw [h1]; exact a5.mv hal h2, a6, by rw [hal.findClass]; exact a7, a8, a9, by rw [h1, h2]; exact a10, by rw [h1, h2]; exact a11⟩
namespace New4
def yN : MethodName := ⟨"java/lang/String", "<init>", "([CIILjava/lang/Void;)V"⟩
abbrev yB : ByteArray := jdk_42_method_149_code
theorem d0 : decode yB 0 = .ok (.aload_n 0, 1) := by decide +kernel
theorem d1 : decode yB 1 = .ok (.invokespecial 1, 3) := by decide +kernel
theorem d4 : decode yB 4 = .ok (.iload_n 3, 1) := by decide +kernel
theorem d5 : decode yB 5 = .ok (.ifCond (.ne) 22, 3) := by decide +kernel
theorem d27 : decode yB 27 = .ok (.getstatic 38, 3) := by decide +kernel
theorem d30 : decode yB 30 = .ok (.ifCond (.eq) 28, 3) := by decide +kernel
theorem d33 : decode yB 33 = .ok (.aload_n 1, 1) := by decide +kernel
theorem d34 : decode yB 34 = .ok (.iload_n 2, 1) := by decide +kernel
theorem d35 : decode yB 35 = .ok (.iload_n 3, 1) := by decide +kernel
theorem d36 : decode yB 36 = .ok (.invokestatic 177, 3) := by decide +kernel
theorem d39 : decode yB 39 = .ok (.astore 5, 2) := by decide +kernel
theorem d41 : decode yB 41 = .ok (.aload_n 0, 1) := by decide +kernel
theorem d42 : decode yB 42 = .ok (.aload 5, 2) := by decide +kernel
theorem d44 : decode yB 44 = .ok (.iload_n 3, 1) := by decide +kernel
theorem d45 : decode yB 45 = .ok (.invokestatic 47, 3) := by decide +kernel
theorem d48 : decode yB 48 = .ok (.putfield 15, 3) := by decide +kernel
theorem d51 : decode yB 51 = .ok (.aload_n 0, 1) := by decide +kernel
theorem d52 : decode yB 52 = .ok (.aload 5, 2) := by decide +kernel
theorem d54 : decode yB 54 = .ok (.putfield 9, 3) := by decide +kernel
theorem d57 : decode yB 57 = .ok (.return_, 1) := by decide +kernel
def site : List Cond := [.fieldLink "java/lang/String" 38 "java/lang/String" "COMPACT_STRINGS" "Z", Cmp3.tab, CodL.tab, .laysFinal "java/lang/String" "java/lang/String" "value" "[B", .fieldLink "java/lang/String" 9 "java/lang/String" "value" "[B", .laysFinal "java/lang/String" "java/lang/String" "coder" "B", .fieldLink "java/lang/String" 15 "java/lang/String" "coder" "B"] ++ objW "java/lang/String" 1 ++ staticW "java/lang/String" 177 Cmp3.yN ++ staticW "java/lang/String" 47 CodL.yN
def tab : Cond := tabOf yN yB 6 none site
def P (a : Addr) (D : Cell) (fV fC : Field) (b : Addr) (A : Cell) (z : Int32) (o len : Nat) (args : Array Value) (s : State) : Prop := args = #[.ref a, .ref b, .int (Int32.ofNat o), .int (Int32.ofNat len), .null] ∧ Blank "java/lang/String" a D s ∧ Found "java/lang/String" "value" "[B" fV s ∧ Found "java/lang/String" "coder" "B" fC s ∧ Ch b A s ∧ StaticIs s "java/lang/String" "COMPACT_STRINGS" "Z" (.int z) ∧ ¬ z = 0 ∧ 0 < len ∧ o + len ≤ A.slots.size ∧ len ≤ 536870912 ∧ ∀ i, i < len → ¬ 255 < cv A (o + i)
def E (a : Addr) (D : Cell) (fV fC : Field) (A : Cell) (o len : Nat) (r : Option Value) (s u : State) : Prop := Got a D fV fC A o len r s u
/-- len > 0, no char of the range above 255: a Latin-1 String of their low bytes -/
theorem law (l : Launch) (a : Addr) (D : Cell) (fV fC : Field) (b : Addr) (A : Cell) (z : Int32) (o len : Nat) : Law l yN 5 4 2 35 yB 6 none site (P a D fV fC b A z o len) (E a D fV fC A o len) [⟨a, fC.slot⟩, ⟨a, fV.slot⟩] 1 len := by
  refine Law.of_walk (plainFor_of_name (by decide +kernel)) (by decide +kernel) (by decide +kernel) (by decide) (fun _ _ h => by rw [h.1]; rfl) (fun _ U U' hal hh h => ⟨h.1, h.2.1.mv hal hh, h.2.2.1.al hal, h.2.2.2.1.al hal, h.2.2.2.2.1.mv hal hh, h.2.2.2.2.2.1.there hal hh, h.2.2.2.2.2.2⟩) (fun r U U' V V' h1 hal h2 h => Got.mv r U U' V V' h1 hal h2 h) ?_
  intro p e s m args below meth c s₁ X0 hexec hbytes hml hret hlk hnm hown hh0 W hP
  obtain ⟨rfl, hB, f1, f2, hA, s1, hz, l0, l1, l2, hp⟩ := hP
  have a31 := hA.1.2.2.2
  have c1 : Steps p.tables e below (s₁.setTop (entryFrame m #[.ref a, .ref b, .int (Int32.ofNat o), .int (Int32.ofNat len), .null] 6)) (s₁.setTop (mkF m 0 #[.val (.ref a), .val (.ref b), .val (.int (Int32.ofNat o)), .val (.int (Int32.ofNat len)), .val .null, .unset] [])) := entry rfl
  have c2 : Steps p.tables e below (s₁.setTop (entryFrame m #[.ref a, .ref b, .int (Int32.ofNat o), .int (Int32.ofNat len), .null] 6)) (s₁.setTop (mkF m 1 #[.val (.ref a), .val (.ref b), .val (.int (Int32.ofNat o)), .val (.int (Int32.ofNat len)), .val .null, .unset] [.ref a])) := c1.trans (by
    refine XS.aloadN X0.here hexec rfl (hb hbytes d0) rfl rfl ?_
    exact Steps.refl _)
  obtain ⟨T3, X3, q3, st3⟩ := X0.oinit hexec hown (wks W (objW "java/lang/String" 1)) (g := (mkF m 1 #[.val (.ref a), .val (.ref b), .val (.int (Int32.ofNat o)), .val (.int (Int32.ofNat len)), .val .null, .unset] [.ref a])) rfl (by rw [hml]; rfl) (rest := []) rfl (hb hbytes d1) (W := 0) (by show 2 * 0 + 0 ≤ _; decide) (Nat.le_of_ble_eq_true rfl) (Nat.le_of_ble_eq_true rfl)
  have hh3 := q3.trans hh0
  have c4 : Steps p.tables e below (s₁.setTop (entryFrame m #[.ref a, .ref b, .int (Int32.ofNat o), .int (Int32.ofNat len), .null] 6)) (T3.setTop (mkF m 27 #[.val (.ref a), .val (.ref b), .val (.int (Int32.ofNat o)), .val (.int (Int32.ofNat len)), .val .null, .unset] [])) := (c2.trans (st3 _ (Steps.refl _))).trans (by
    refine XS.iloadN X3.here hexec rfl (hb hbytes d4) rfl ?_
    refine XS.ifYes X3.here hexec rfl (pc0 := 5) rfl (hb hbytes d5) rfl (i0_ne_t (nz32 (by omega) l0)) (by decide) rfl ?_
    exact Steps.refl _)
  obtain ⟨T5, X5, q5, st5⟩ := X3.sget hexec hown (wk W (.fieldLink "java/lang/String" 38 "java/lang/String" "COMPACT_STRINGS" "Z")) s1 (fun _ _ h => by rw [hh3]; exact h) (g := (mkF m 27 #[.val (.ref a), .val (.ref b), .val (.int (Int32.ofNat o)), .val (.int (Int32.ofNat len)), .val .null, .unset] [])) rfl (hb hbytes d27)
  have hh5 := q5.trans hh3
  have c6 : Steps p.tables e below (s₁.setTop (entryFrame m #[.ref a, .ref b, .int (Int32.ofNat o), .int (Int32.ofNat len), .null] 6)) (T5.setTop (mkF m 30 #[.val (.ref a), .val (.ref b), .val (.int (Int32.ofNat o)), .val (.int (Int32.ofNat len)), .val .null, .unset] [.int z])) := c4.trans (st5 _ (Steps.refl _))
  have c7 : Steps p.tables e below (s₁.setTop (entryFrame m #[.ref a, .ref b, .int (Int32.ofNat o), .int (Int32.ofNat len), .null] 6)) (T5.setTop (mkF m 36 #[.val (.ref a), .val (.ref b), .val (.int (Int32.ofNat o)), .val (.int (Int32.ofNat len)), .val .null, .unset] [.int (Int32.ofNat len), .int (Int32.ofNat o), .ref b])) := c6.trans (by
    refine XS.ifNo X5.here hexec rfl (hb hbytes d30) rfl (i0_eq_f hz) ?_
    refine XS.aloadN X5.here hexec rfl (hb hbytes d33) rfl rfl ?_
    refine XS.iloadN X5.here hexec rfl (hb hbytes d34) rfl ?_
    refine XS.iloadN X5.here hexec rfl (hb hbytes d35) rfl ?_
    exact Steps.refl _)
  obtain ⟨v8, T8, X8, E8, g8⟩ := X5.callS hexec (Cmp3.law l b A o len) hown (wks W (staticW "java/lang/String" 177 Cmp3.yN)) (wk W Cmp3.tab) (W := 0) (Nat.le_of_ble_eq_true rfl) (Nat.le_of_ble_eq_true rfl) (Nat.le_refl _) (by show 0 + len ≤ len; omega) (g := (mkF m 36 #[.val (.ref a), .val (.ref b), .val (.int (Int32.ofNat o)), .val (.int (Int32.ofNat len)), .val .null, .unset] [.int (Int32.ofNat len), .int (Int32.ofNat o), .ref b])) rfl (by rw [hml]; rfl) c7 (argsL := [.ref b, .int (Int32.ofNat o), .int (Int32.ofNat len)]) (rest := []) rfl rfl (by show 2 * 0 + 0 ≤ _; decide) (hb hbytes d36) (⟨rfl, hA.mv X5.warmed.alike hh5, l1, l2, hp⟩)
  obtain ⟨e8, z8⟩ := E8
  obtain ⟨rfl, N, n1, n2, n3, n4, n5, n6⟩ := NewArr.mv _ T5 s _ _ hh5.symm (Vm.Alike.refl _) rfl e8
  rw [hh5] at z8
  have hB1 := hB.keep X8.warmed.alike (n6 _ _ hB.1)
  have hne : s.heap.size ≠ a := (Nat.ne_of_lt (Array.getElem?_eq_some_iff.mp hB.1).1).symm
  have c9 : Steps p.tables e below (s₁.setTop (entryFrame m #[.ref a, .ref b, .int (Int32.ofNat o), .int (Int32.ofNat len), .null] 6)) (T8.setTop (mkF m 39 #[.val (.ref a), .val (.ref b), .val (.int (Int32.ofNat o)), .val (.int (Int32.ofNat len)), .val .null, .unset] [.ref s.heap.size])) := g8
  have c10 : Steps p.tables e below (s₁.setTop (entryFrame m #[.ref a, .ref b, .int (Int32.ofNat o), .int (Int32.ofNat len), .null] 6)) (T8.setTop (mkF m 45 #[.val (.ref a), .val (.ref b), .val (.int (Int32.ofNat o)), .val (.int (Int32.ofNat len)), .val .null, .val (.ref s.heap.size)] [.int (Int32.ofNat N.slots.size), .ref s.heap.size, .ref a])) := by
    have hc : Steps p.tables e below (s₁.setTop (entryFrame m #[.ref a, .ref b, .int (Int32.ofNat o), .int (Int32.ofNat len), .null] 6)) (T8.setTop (mkF m 45 #[.val (.ref a), .val (.ref b), .val (.int (Int32.ofNat o)), .val (.int (Int32.ofNat len)), .val .null, .val (.ref s.heap.size)] [.int (Int32.ofNat len), .ref s.heap.size, .ref a])) := c9.trans (by
      refine XS.astore X8.here hexec rfl (hb hbytes d39) rfl rfl rfl ?_
      refine XS.aloadN X8.here hexec rfl (hb hbytes d41) rfl rfl ?_
      refine XS.aload X8.here hexec rfl (hb hbytes d42) rfl rfl ?_
      refine XS.iloadN X8.here hexec rfl (hb hbytes d44) rfl ?_
      exact Steps.refl _)
    rw [n4]; exact hc
  obtain ⟨v11, T11, X11, E11, g11⟩ := X8.callS hexec (CodL.law l s.heap.size N) hown (wks W (staticW "java/lang/String" 47 CodL.yN)) (wk W CodL.tab) (W := 1) (Nat.le_of_ble_eq_true rfl) (Nat.le_of_ble_eq_true rfl) (Nat.le_refl _) (by show 0 + len + 0 ≤ len; omega) (g := (mkF m 45 #[.val (.ref a), .val (.ref b), .val (.int (Int32.ofNat o)), .val (.int (Int32.ofNat len)), .val .null, .val (.ref s.heap.size)] [.int (Int32.ofNat N.slots.size), .ref s.heap.size, .ref a])) rfl (by rw [hml]; rfl) c10 (argsL := [.ref s.heap.size, .int (Int32.ofNat N.slots.size)]) (rest := [.ref a]) rfl rfl (by show 2 * 0 + (1 + 0) ≤ _; decide) (hb hbytes d45) (⟨rfl, n1⟩)
  obtain ⟨rfl, q11⟩ := E11
  have hB11 := hB1.mv (X8.warmed.alike.symm.trans X11.warmed.alike) q11
  have c12 : Steps p.tables e below (s₁.setTop (entryFrame m #[.ref a, .ref b, .int (Int32.ofNat o), .int (Int32.ofNat len), .null] 6)) (T11.setTop (mkF m 48 #[.val (.ref a), .val (.ref b), .val (.int (Int32.ofNat o)), .val (.int (Int32.ofNat len)), .val .null, .val (.ref s.heap.size)] [.int 0, .ref a])) := g11
  obtain ⟨T13, X13, p13, bl13, sl13, st13⟩ := X11.finit hexec hown (wk W (.fieldLink "java/lang/String" 15 "java/lang/String" "coder" "B")) (Or.inr ⟨_, (wk W (.laysFinal "java/lang/String" "java/lang/String" "coder" "B"))⟩) (Or.inl ⟨rfl, hnm⟩) f2 (Or.inl rfl) hB11 (t := .byte) (by decide +kernel) rfl (g := (mkF m 48 #[.val (.ref a), .val (.ref b), .val (.int (Int32.ofNat o)), .val (.int (Int32.ofNat len)), .val .null, .val (.ref s.heap.size)] [.int 0, .ref a])) rfl (rest := []) rfl (hb hbytes d48)
  have c14 : Steps p.tables e below (s₁.setTop (entryFrame m #[.ref a, .ref b, .int (Int32.ofNat o), .int (Int32.ofNat len), .null] 6)) (T13.setTop (mkF m 54 #[.val (.ref a), .val (.ref b), .val (.int (Int32.ofNat o)), .val (.int (Int32.ofNat len)), .val .null, .val (.ref s.heap.size)] [.ref s.heap.size, .ref a])) := (c12.trans (st13 _ (Steps.refl _))).trans (by
    refine XS.aloadN X13.here hexec rfl (hb hbytes d51) rfl rfl ?_
    refine XS.aload X13.here hexec rfl (hb hbytes d52) rfl rfl ?_
    exact Steps.refl _)
  obtain ⟨T15, X15, p15, bl15, sl15, st15⟩ := X13.finit hexec hown (wk W (.fieldLink "java/lang/String" 9 "java/lang/String" "value" "[B")) (Or.inr ⟨_, (wk W (.laysFinal "java/lang/String" "java/lang/String" "value" "[B"))⟩) (Or.inl ⟨rfl, hnm⟩) f1 (Or.inl rfl) bl13 (t := (.array .byte)) (by decide +kernel) rfl (g := (mkF m 54 #[.val (.ref a), .val (.ref b), .val (.int (Int32.ofNat o)), .val (.int (Int32.ofNat len)), .val .null, .val (.ref s.heap.size)] [.ref s.heap.size, .ref a])) rfl (rest := []) rfl (hb hbytes d54)
  have c16 : Steps p.tables e below (s₁.setTop (entryFrame m #[.ref a, .ref b, .int (Int32.ofNat o), .int (Int32.ofNat len), .null] 6)) (T15.setTop (mkF m 57 #[.val (.ref a), .val (.ref b), .val (.int (Int32.ofNat o)), .val (.int (Int32.ofNat len)), .val .null, .val (.ref s.heap.size)] [])) := c14.trans (st15 _ (Steps.refl _))
  have ap := apart (Or.inr ⟨_, (wk W (.laysFinal "java/lang/String" "java/lang/String" "value" "[B"))⟩) (Or.inr ⟨_, (wk W (.laysFinal "java/lang/String" "java/lang/String" "coder" "B"))⟩) f1 f2 (t₁ := .array .byte) (t₂ := .byte) (by decide +kernel) (by decide +kernel) (by decide)
  have al := X8.warmed.alike.symm.trans X15.warmed.alike
  have n7 : T11.heap[s.heap.size]? = some N := by rw [q11]; exact n1.1
  exact ⟨T15, none, _, _, _, X15, by simp, rfl, by omega, (fun _ => rfl), ⟨rfl, _, N, bl15, ((Same.refl D _).set _ (by simp)).set _ (by simp), sl15, (Cell.slots_setSlot_ne _ ap).trans sl13, n1.keep al (p15.other hne (p13.other hne n7)), n2, by rw [al.findClass]; exact n3, n4, n5, fun y c h1 h2 => p15.other h1 (p13.other h1 (by rw [q11]; exact n6 y c h2)), by rw [p15.2.2, p13.2.2, q11]; exact z8⟩, fun fs hl => c16.trans (X15.returnOut hexec hret (hb hbytes d57) hl)⟩
end New4
namespace New1
def yN : MethodName := ⟨"java/lang/String", "<init>", "([C)V"⟩
abbrev yB : ByteArray := jdk_42_method_3_code
theorem d0 : decode yB 0 = .ok (.aload_n 0, 1) := by decide +kernel
theorem d1 : decode yB 1 = .ok (.aload_n 1, 1) := by decide +kernel
theorem d2 : decode yB 2 = .ok (.iconst 0, 1) := by decide +kernel
theorem d3 : decode yB 3 = .ok (.aload_n 1, 1) := by decide +kernel
theorem d4 : decode yB 4 = .ok (.arraylength, 1) := by decide +kernel
theorem d5 : decode yB 5 = .ok (.aconst_null, 1) := by decide +kernel
theorem d6 : decode yB 6 = .ok (.invokespecial 27, 3) := by decide +kernel
theorem d9 : decode yB 9 = .ok (.return_, 1) := by decide +kernel
def site : List Cond := [New4.tab] ++ initW "java/lang/String" 27 New4.yN
def tab : Cond := tabOf yN yB 2 none site
def P (a : Addr) (D : Cell) (fV fC : Field) (b : Addr) (A : Cell) (z : Int32) (args : Array Value) (s : State) : Prop := args = #[.ref a, .ref b] ∧ Blank "java/lang/String" a D s ∧ Found "java/lang/String" "value" "[B" fV s ∧ Found "java/lang/String" "coder" "B" fC s ∧ Ch b A s ∧ StaticIs s "java/lang/String" "COMPACT_STRINGS" "Z" (.int z) ∧ ¬ z = 0 ∧ 0 < A.slots.size ∧ A.slots.size ≤ 536870912 ∧ ∀ i, i < A.slots.size → ¬ 255 < cv A i
def E (a : Addr) (D : Cell) (fV fC : Field) (A : Cell) (r : Option Value) (s u : State) : Prop := Got a D fV fC A 0 A.slots.size r s u
/-- new String(chars), not empty, no char above 255: a Latin-1 String of their low bytes -/
theorem law (l : Launch) (a : Addr) (D : Cell) (fV fC : Field) (b : Addr) (A : Cell) (z : Int32) : Law l yN 2 1 3 52 yB 2 none site (P a D fV fC b A z) (E a D fV fC A) [⟨a, fC.slot⟩, ⟨a, fV.slot⟩] 1 A.slots.size := by
  refine Law.of_walk (plainFor_of_name (by decide +kernel)) (by decide +kernel) (by decide +kernel) (by decide) (fun _ _ h => by rw [h.1]; rfl) (fun _ U U' hal hh h => ⟨h.1, h.2.1.mv hal hh, h.2.2.1.al hal, h.2.2.2.1.al hal, h.2.2.2.2.1.mv hal hh, h.2.2.2.2.2.1.there hal hh, h.2.2.2.2.2.2⟩) (fun r U U' V V' h1 hal h2 h => Got.mv r U U' V V' h1 hal h2 h) ?_
  intro p e s m args below meth c s₁ X0 hexec hbytes hml hret hlk hnm hown hh0 W hP
  obtain ⟨rfl, hB, f1, f2, hA, s1, hz, l0, l2, hp⟩ := hP
  have c1 : Steps p.tables e below (s₁.setTop (entryFrame m #[.ref a, .ref b] 2)) (s₁.setTop (mkF m 0 #[.val (.ref a), .val (.ref b)] [])) := entry rfl
  have c2 : Steps p.tables e below (s₁.setTop (entryFrame m #[.ref a, .ref b] 2)) (s₁.setTop (mkF m 6 #[.val (.ref a), .val (.ref b)] [.null, .int (Int32.ofNat A.slots.size), .int 0, .ref b, .ref a])) := c1.trans (by
    refine XS.aloadN X0.here hexec rfl (hb hbytes d0) rfl rfl ?_
    refine XS.aloadN X0.here hexec rfl (hb hbytes d1) rfl rfl ?_
    refine iconstV X0.here hexec rfl 0 (hb hbytes d2) (by decide) ?_
    refine XS.aloadN X0.here hexec rfl (hb hbytes d3) rfl rfl ?_
    refine X0.alen hexec (hA.1.mv X0.warmed.alike hh0) rfl rfl (hb hbytes d4) ?_
    refine XS.aconstNull X0.here hexec rfl (hb hbytes d5) ?_
    exact Steps.refl _)
  obtain ⟨v3, T3, X3, E3, g3⟩ := X0.callN hexec (New4.law l a D fV fC b A z 0 A.slots.size) rfl hown (wks W (initW "java/lang/String" 27 New4.yN)) (W New4.tab (by simp only [site, List.mem_cons, List.mem_append, true_or, or_true])) (W := 0) (Nat.le_of_ble_eq_true rfl) (Nat.le_of_ble_eq_true rfl) (Nat.le_refl _) (by show 0 + A.slots.size ≤ A.slots.size; omega) (g := (mkF m 6 #[.val (.ref a), .val (.ref b)] [.null, .int (Int32.ofNat A.slots.size), .int (Int32.ofNat 0), .ref b, .ref a])) rfl (by rw [hml]; rfl) c2 (argsL := [.ref b, .int (Int32.ofNat 0), .int (Int32.ofNat A.slots.size), .null]) (rest := []) rfl rfl (by show 2 * 0 + 0 ≤ _; decide) (hb hbytes d6) (⟨rfl, hB.mv X0.warmed.alike hh0, f1.al X0.warmed.alike, f2.al X0.warmed.alike, hA.mv X0.warmed.alike hh0, s1.there X0.warmed.alike hh0, hz, l0, by omega, l2, fun i hi => by rw [Nat.zero_add]; exact hp i hi⟩)
  have e0 := Got.mv _ s₁ s _ _ hh0.symm (Vm.Alike.refl _) rfl E3
  obtain rfl := e0.1
  have c4 : Steps p.tables e below (s₁.setTop (entryFrame m #[.ref a, .ref b] 2)) (T3.setTop (mkF m 9 #[.val (.ref a), .val (.ref b)] [])) := g3
  exact ⟨T3, none, _, _, _, X3, by simp, rfl, by omega, (fun _ => rfl), e0, fun fs hl => c4.trans (X3.returnOut hexec hret (hb hbytes d9) hl)⟩
theorem pays {l : Launch} {R : Room} {p : Program} {e : Env} {below : List Frame} {s : State} {sargs : Array Value} {len W : Nat} (a : Addr) (D : Cell) (fV fC : Field) (b : Addr) (A : Cell) (z : Int32) (htab : tab.before sargs s = true) (hfr : 4 ≤ R.frames) (hlo : W + 65 ≤ R.locals) :
    Back l R p e below s sargs yN len W (fun A₁ a₁ => A₁.cells + 1 ≤ R.cells ∧ A₁.slots + A.slots.size ≤ R.slots ∧ P a D fV fC b A z a₁ A₁.U) (fun A₁ _ v₁ B₁ => E a D fV fC A v₁ A₁.U B₁.U ∧ B₁.locs = A₁.locs ++ [⟨a, fC.slot⟩, ⟨a, fV.slot⟩] ∧ B₁.cells = A₁.cells + 1 ∧ B₁.slots = A₁.slots + A.slots.size) :=
  (law l a D fV fC b A z).pays htab hfr (by omega)
end New1
end StrChars
namespace StrChars.Road
open Jvm Sem ClassFile Op Lib Jvm.Stand Jvm.Free Jvm.Free.XT
open Jvm.Lib.Cold (StaticIs)
abbrev ST : String := "java/lang/String"
/-- every table word that New1's law asks, flat -/
abbrev words : List Jvm.Cond := [.code New1.yN New1.yB 2 none, .initialized ST, .methodLink ST 27 New4.yN, .instanceMethod New4.yN,
  .code New4.yN New4.yB 6 none, .fieldLink ST 38 ST "COMPACT_STRINGS" "Z", .laysFinal ST ST "value" "[B", .fieldLink ST 9 ST "value" "[B", .laysFinal ST ST "coder" "B", .fieldLink ST 15 ST "coder" "B",
  .methodLink ST 1 Lib.objectInit, .instanceMethod Lib.objectInit, .code Lib.objectInit ⟨#[0xb1]⟩ 1 none, .methodLink ST 177 Cmp3.yN, .static Cmp3.yN, .methodLink ST 47 CodL.yN, .static CodL.yN,
  .code Cmp3.yN Cmp3.yB 6 (some (.array .byte)), .initialized U16, .arrayClass .byte, .methodLink U16 115 Cmp5.yN, .static Cmp5.yN, .code Cmp5.yN Cmp5.yB 7 (some .int), .code CodL.yN CodL.yB 2 (some .byte)]
theorem tab_of {a : Array Value} {s : State} (h : ∀ w ∈ words, w.before a s = true) : New1.tab.before a s = true := by
  have h5 : Cmp5.tab.before a s = true := unparts (wk h (.code Cmp5.yN Cmp5.yB 7 (some .int))) (wks h (.initialized Cmp5.yN.cls :: Cmp5.site))
  have hc : CodL.tab.before a s = true := unparts (wk h (.code CodL.yN CodL.yB 2 (some .byte))) (wks h (.initialized CodL.yN.cls :: CodL.site))
  have q5 : ∀ w ∈ Cmp5.tab :: words, w.before a s = true := fun w hw => (List.mem_cons.mp hw).elim (fun e => e ▸ h5) (h w)
  have h3 : Cmp3.tab.before a s = true := unparts (wk q5 (.code Cmp3.yN Cmp3.yB 6 (some (.array .byte)))) (wks q5 (.initialized Cmp3.yN.cls :: Cmp3.site))
  have q3 : ∀ w ∈ Cmp3.tab :: CodL.tab :: words, w.before a s = true := fun w hw => (List.mem_cons.mp hw).elim (fun e => e ▸ h3) fun hw => (List.mem_cons.mp hw).elim (fun e => e ▸ hc) (h w)
  have h4 : New4.tab.before a s = true := unparts (wk q3 (.code New4.yN New4.yB 6 none)) (wks q3 (.initialized New4.yN.cls :: New4.site))
  have q4 : ∀ w ∈ New4.tab :: words, w.before a s = true := fun w hw => (List.mem_cons.mp hw).elim (fun e => e ▸ h4) (h w)
  exact unparts (wk q4 (.code New1.yN New1.yB 2 none)) (wks q4 (.initialized New1.yN.cls :: New1.site))
/-- the words ride from the start Z to the walk's own state -/
theorem moved {Z s : State} {a0 args : Array Value} (hZ : Z.Warmed39 s.vm) (hw : ∀ d ∈ words, d.before a0 Z = true) : ∀ d ∈ words, d.before args s = true := fun d hd => by
  have q := hw d hd
  have t : ∀ d ∈ words, d = .arrayClass .byte ∨ (d.onTables && d.keepsFace) = true := by decide +kernel
  rcases t d hd with rfl | t
  · exact RoadKit.mvA hZ q
  · exact RoadKit.mv hZ q t
/-- WHAT COMES BACK, over the tables of the start Z: h the heap at the call, h' behind it -/
def Q (Z : State) (x : Addr) (A : Cell) (h : Heap) (v : Option Value) (h' : Heap) (L : List Loc) : Prop := v = none ∧ (∀ y ∈ L, y.base = x) ∧ RoadKit.Keep h h' [x] ∧ h'.size = h.size + 1 ∧ RoadKit.Exa Z h' x ST ∧ RoadKit.Fld Z h' x ST "value" "[B" (.ref h.size) ∧ RoadKit.Fld Z h' x ST "coder" "B" (.int 0) ∧
  (∃ V : Cell, RoadKit.Arr Z h' h.size V .byte ∧ V.vm = .none ∧ Z.vm.findClass "[B" = some V.cls ∧ V.slots.size = A.slots.size ∧ ∀ j, j < A.slots.size → V.slots[j]? = some (.int (lo8 (cv A j)))) ∧
  ∀ (O n d : String) (w : Value), RoadKit.Fld Z h x O n d w → RoadKit.slotOf Z O n d ≠ RoadKit.slotOf Z ST "value" "[B" → RoadKit.slotOf Z O n d ≠ RoadKit.slotOf Z ST "coder" "B" → RoadKit.Fld Z h' x O n d w
/-- **new String(chars) AT A CALL, IN THE ROAD'S FORM**: for specialBack behind newO: x the fresh String, b the char[] with the cell A -/
theorem back {p : Program} {l : Launch} {e : Env} {R : Room} {s : State} {args : Array Value} {below : List Frame} {len W : Nat} {Z : State} {a0 : Array Value} {h : Heap} (hZ : Z.Warmed39 s.vm) (hw : ∀ d ∈ words, d.before a0 Z = true) {kI : Nat} (wi : (Jvm.Cond.instantiable ST kI).before a0 Z = true)
    {x b : Addr} {A : Cell} {z : Int32} {v0 c0 : Value} (E : RoadKit.Exa Z h x ST) (V : RoadKit.Fld Z h x ST "value" "[B" v0) (C : RoadKit.Fld Z h x ST "coder" "B" c0) (K : RoadKit.Arr Z h b A .char) (hty : Typed .char A) (S : RoadKit.Sta Z h ST "COMPACT_STRINGS" "Z" (.int z)) (hz : ¬ z = 0)
    (l0 : 0 < A.slots.size) (l2 : A.slots.size ≤ 536870912) (hp : ∀ i, i < A.slots.size → ¬ 255 < cv A i) (hfr : 4 ≤ R.frames) (hlo : W + 65 ≤ R.locals) :
    Back l R p e below s args New1.yN len W (fun P a => a = #[.ref x, .ref b] ∧ P.U.heap = h ∧ P.cells + 1 ≤ R.cells ∧ P.slots + A.slots.size ≤ R.slots)
      (fun P _ v B => ∃ L, Q Z x A h v B.U.heap L ∧ B.locs = P.locs ++ L ∧ B.cells = P.cells + 1 ∧ B.slots = P.slots + A.slots.size) := by
  intro m meth c P g ig mk a X hg hsize hdg hW hn hp'
  obtain ⟨rfl, rfl, r1, r2⟩ := hp'
  have al : Z.vm.Alike P.U.vm := hZ.alike.trans X.warmed.alike
  obtain ⟨D, cfV, kV, iV, fV, hD, gV, stV, knV, obV, asV, slV⟩ := id V
  obtain ⟨D', cfC, kC, iC, fC, hD', gC, stC, -, -, asC, slC⟩ := id C
  cases hD.symm.trans hD'
  obtain ⟨D2, kD, e1, e2, e3, e4, e5⟩ := id E
  cases hD.symm.trans e1
  obtain ⟨c2, k2, i1, i2, i3, -⟩ := Cond.instantiable_spec wi
  cases e2.symm.trans i1
  cases e3.symm.trans i2
  obtain ⟨kU, u1, u2⟩ := al.2.2 _ _ e3
  have hB : Blank ST x D P.U := ⟨hD, ⟨knV, fun q hq => by rw [hq] at obV; cases obV⟩, by rw [al.findClass]; exact e2, kU, u1, by rw [u2]; exact i3, by rw [u2]; exact e5 i3⟩
  have F1 : Found ST "value" "[B" fV P.U := ⟨SBG.found_only al ⟨cfV, kV, iV, gV⟩, stV⟩
  have F2 : Found ST "coder" "B" fC P.U := ⟨SBG.found_only al ⟨cfC, kC, iC, gC⟩, stC⟩
  have hA : Ch b A P.U := ⟨⟨K.1, State.isArrayOf_alike al K.2.1, K.2.2, by omega⟩, hty⟩
  have hS : StaticIs P.U ST "COMPACT_STRINGS" "Z" (.int z) := by
    obtain ⟨cfS, iS, kS, fS, st, cS, t1, t2, t3, t4, t5, t6, t7⟩ := S
    exact StaticIs.there (s := { Z with heap := P.U.heap }) ⟨cfS, iS, kS, fS, st, cS, t1, t2, t3, t4, t5, (fun q => by rw [q] at t6; cases t6), t7⟩ al rfl
  obtain ⟨v, B, X', ⟨⟨hv, E', V', q1, q2, q3, q4, q5, q6, q7, q8, q9, q10, q11⟩, hl, hc, hs⟩, st⟩ := New1.pays x D fV fC b A z (tab_of (moved hZ hw)) hfr hlo m meth c P g ig mk _ X hg hsize hdg hW hn ⟨r1, r2, rfl, hB, F1, F2, hA, hS, hz, l0, l2, hp⟩
  have al' : Z.vm.Alike B.U.vm := hZ.alike.trans X'.warmed.alike
  have hsz : E'.slots.size = D.slots.size := by
    obtain ⟨-, -, -, kB, w1, w2, w3⟩ := q1
    obtain ⟨kB', y1, y2⟩ := al'.2.2 _ _ e3
    rw [q2.2.1] at w1
    cases w1.symm.trans y1
    rw [w3, e5 i3, y2]
  refine ⟨v, B, X', ⟨_, ⟨hv, ?_, ⟨by omega, fun y cy hy hn' => q10 y cy (by simpa using hn') hy, fun y cy hy => ?_⟩, q11, ⟨E', _, q1.1, by rw [q2.2.1]; exact e2, by rw [q2.2.1]; exact e3, by rw [q2.1]; exact obV, fun _ => by rw [hsz]; exact e5 i3⟩,
    ⟨E', cfV, kV, iV, fV, q1.1, gV, stV, by rw [q2.1]; exact knV, by rw [q2.1]; exact obV, by rw [q2.2.1]; exact asV, q3⟩, ⟨E', cfC, kC, iC, fC, q1.1, gC, stC, by rw [q2.1]; exact knV, by rw [q2.1]; exact obV, by rw [q2.2.1]; exact asC, q4⟩,
    ⟨V', ⟨q5.1, State.isArrayOf_alike al'.symm q5.2.1, q5.2.2.1⟩, q6, by rw [← al'.findClass]; exact q7, q8, fun j hj => by have := q9 j hj; rwa [Nat.zero_add] at this⟩, fun O n d w F n1 n2 => ?_⟩, hl, hc, hs⟩, st⟩
  · intro y hy
    simp only [List.mem_cons, List.not_mem_nil, or_false] at hy
    rcases hy with rfl | rfl <;> rfl
  · by_cases q : y = x
    · subst q
      cases hD.symm.trans hy
      exact ⟨E', q1.1, q2.2.1, q2.1, hsz⟩
    · exact ⟨cy, q10 y cy q hy, rfl, rfl, rfl⟩
  · obtain ⟨D3, cf, k, i, f, g1, g2, g3, g4, g5, g6, g7⟩ := F
    cases hD.symm.trans g1
    simp only [RoadKit.slotOf, g2, gV, gC, Option.map_some, Option.getD_some] at n1 n2
    exact ⟨E', cf, k, i, f, q1.1, g2, g3, by rw [q2.1]; exact g4, by rw [q2.1]; exact g5, by rw [q2.2.1]; exact g6, by rw [q2.2.2 f.slot (by simp [n1, n2])]; exact g7⟩
end StrChars.Road
namespace StrChars.Road
open Jvm Sem ClassFile Op Lib Jvm.Stand Jvm.Free Jvm.Free.XT
/-- WHAT COMES BACK, the byte[] as a list of values -/
def QA (Z : State) (x : Addr) (zn : Int32) (cs : List Int32) (h : Heap) (v : Option Value) (h' : Heap) (L : List Loc) : Prop := v = none ∧ (∀ y ∈ L, y.base = x) ∧ RoadKit.Keep h h' [x] ∧ h'.size = h.size + 1 ∧ RoadKit.Exa Z h' x ST ∧ RoadKit.Fld Z h' x ST "value" "[B" (.ref h.size) ∧ RoadKit.Fld Z h' x ST "coder" "B" (.int 0) ∧
  (∃ kb, Z.vm.findClass "[B" = some kb ∧ RoadKit.Arv Z h' h.size kb .byte zn (cs.map fun c => .int (lo8 c)) (.int 0)) ∧
  ∀ (O n d : String) (w : Value), RoadKit.Fld Z h x O n d w → RoadKit.slotOf Z O n d ≠ RoadKit.slotOf Z ST "value" "[B" → RoadKit.slotOf Z O n d ≠ RoadKit.slotOf Z ST "coder" "B" → RoadKit.Fld Z h' x O n d w
/-- **new String(chars) AT A CALL, THE ARRAYS AS LISTS**: the char[] at b holds cs, not empty, no char above 255 -/
theorem backArv {p : Program} {l : Launch} {e : Env} {R : Room} {s : State} {args : Array Value} {below : List Frame} {len W : Nat} {Z : State} {a0 : Array Value} {h : Heap} (hZ : Z.Warmed39 s.vm) (hw : ∀ d ∈ words, d.before a0 Z = true) {kI : Nat} (wi : (Jvm.Cond.instantiable ST kI).before a0 Z = true)
    {x b : Addr} {k : ClassId} {zn z : Int32} {cs : List Int32} {dv v0 c0 : Value} (E : RoadKit.Exa Z h x ST) (V : RoadKit.Fld Z h x ST "value" "[B" v0) (C : RoadKit.Fld Z h x ST "coder" "B" c0) (K : RoadKit.Arv Z h b k .char zn (cs.map Value.int) dv) (S : RoadKit.Sta Z h ST "COMPACT_STRINGS" "Z" (.int z)) (hz : ¬ z = 0)
    (hlen : zn.toNatClampNeg = cs.length) (h0 : 0 < cs.length) (hbig : cs.length ≤ 536870912) (hall : ∀ c ∈ cs, ¬ 255 < c) (hfr : 4 ≤ R.frames) (hlo : W + 65 ≤ R.locals) :
    Back l R p e below s args New1.yN len W (fun P a => a = #[.ref x, .ref b] ∧ P.U.heap = h ∧ P.cells + 1 ≤ R.cells ∧ P.slots + cs.length ≤ R.slots)
      (fun P _ v B => ∃ L, QA Z x zn cs h v B.U.heap L ∧ B.locs = P.locs ++ L ∧ B.cells = P.cells + 1 ∧ B.slots = P.slots + cs.length) := by
  obtain ⟨A, K1, K2, K3, K4, K5, K6⟩ := K
  have e : A.slots.size = cs.length := K3.trans hlen
  have hat : ∀ (i : Nat) (hi : i < cs.length), A.slots[i]? = some (.int cs[i]) := fun i hi => by rw [K5 i (by omega)]; simp [List.getD_eq_getElem?_getD, hi]
  have hcv : ∀ (i : Nat) (hi : i < cs.length), cv A i = cs[i] := fun i hi => by unfold cv; rw [hat i hi]
  have hty : Typed .char A := fun i v hv => by
    have hi : i < A.slots.size := (Array.getElem?_eq_some_iff.mp hv).1
    have q := K5 i hi
    rw [hv] at q
    rw [Option.some.inj q]
    exact K6 i hi
  refine Back.mono (back hZ hw wi E V C K1 hty S hz (by omega) (by omega) (fun i hi => by rw [hcv i (by omega)]; exact hall _ (List.getElem_mem _)) hfr hlo) (fun P a hp => ⟨hp.1, hp.2.1, hp.2.2.1, by rw [e]; exact hp.2.2.2⟩) (fun P a v B hp hq => ?_)
  obtain ⟨L, ⟨q1, q2, q3, q4, q5, q6, q7, ⟨V', v1, v2, v3, v4, v5⟩, q9⟩, hl, hc, hs⟩ := hq
  refine ⟨L, ⟨q1, q2, q3, q4, q5, q6, q7, ⟨V'.cls, v3, V', v1, rfl, by rw [v4, e, hlen], K4, fun i hi => ?_, fun i hi => ?_⟩, q9⟩, hl, hc, by rw [hs, e]⟩
  · have hi' : i < cs.length := by omega
    rw [v5 i (by omega), hcv i hi']; simp [List.getD_eq_getElem?_getD, hi']
  · have hi' : i < cs.length := by omega
    simp only [List.getD_eq_getElem?_getD, List.getElem?_map, List.getElem?_eq_getElem hi', Option.map_some, Option.getD_some]
    exact fits_lo8 _
end StrChars.Road
namespace StrChars.Road
open Jvm Sem ClassFile Op Lib Jvm.Stand Jvm.Free Jvm.Free.XT
/-- WHAT COMES BACK, in the writer's own shape -/
def QV (Z : State) (x : Addr) (N : Int32) (bs : List Int32) (h : Heap) (n0 : Nat) (v : Option Value) (h' : Heap) (L : List Loc) : Prop := v = none ∧ RoadKit.Fr n0 L ∧ RoadKit.Keep h h' [x] ∧ RoadKit.Exa Z h' x ST ∧ RoadKit.Fld Z h' x ST "coder" "B" (.int 0) ∧
  ∃ (t : Addr) (kb : ClassId), n0 ≤ t ∧ h.size ≤ t ∧ ¬ t = x ∧ RoadKit.Fld Z h' x ST "value" "[B" (.ref t) ∧ RoadKit.Arv Z h' t kb .byte N (bs.map Value.int) (.int 0)
/-- **new String(chars) AT A CALL, FOR THE WRITER**: a char[] of n known ints, each 0 to 255 -/
theorem backV {p : Program} {l : Launch} {e : Env} {R : Room} {s : State} {args : Array Value} {below : List Frame} {len W : Nat} {Z : State} {a0 : Array Value} {h : Heap} (hZ : Z.Warmed39 s.vm) (hw : ∀ d ∈ words, d.before a0 Z = true) {kI : Nat} (wi : (Jvm.Cond.instantiable ST kI).before a0 Z = true)
    {x b : Addr} {kC : ClassId} {cs bs : List Int32} {d v0 c0 : Value} {z N : Int32} {n n0 : Nat} (hx0 : n0 ≤ x) (hh0 : n0 ≤ h.size) (E : RoadKit.Exa Z h x ST) (V : RoadKit.Fld Z h x ST "value" "[B" v0) (C : RoadKit.Fld Z h x ST "coder" "B" c0) (K : RoadKit.Arv Z h b kC .char N (cs.map Value.int) d) (S : RoadKit.Sta Z h ST "COMPACT_STRINGS" "Z" (.int z)) (hz : ¬ z = 0)
    (hn : cs.length = n) (hN : N = Int32.ofNat n) (l0 : 0 < n) (l2 : n ≤ 4000) (hp : ∀ c ∈ cs, ¬ c < 0 ∧ ¬ (255 : Int32) < c) (hb : bs = cs.map (fun c => c.toInt8.toInt32)) (hfr : 4 ≤ R.frames) (hlo : W + 65 ≤ R.locals) :
    Back l R p e below s args (⟨"java/lang/String", "<init>", "([C)V"⟩ : MethodName) len W (fun P a => a = #[.ref x, .ref b] ∧ P.U.heap = h ∧ P.cells + 1 ≤ R.cells ∧ P.slots + n ≤ R.slots)
      (fun P _ v B => ∃ L, QV Z x N bs h n0 v B.U.heap L ∧ B.locs = P.locs ++ L ∧ B.cells = P.cells + 1 ∧ B.slots = P.slots + n) := by
  subst hn hN hb
  refine Back.mono (backArv hZ hw wi E V C K S hz (n32 (by omega)) l0 (by omega) (fun c hc => (hp c hc).2) hfr hlo) (fun P a hp => hp) (fun P a v B hp hq => ?_)
  obtain ⟨L, ⟨q1, q2, q3, q4, q5, q6, q7, ⟨kb, v1, v2⟩, q9⟩, hl, hc, hs⟩ := hq
  exact ⟨L, ⟨q1, fun y hy => by rw [q2 y hy]; exact hx0, q3, q5, q7, h.size, kb, hh0, Nat.le_refl _, Nat.ne_of_gt E.lt, q6, by rw [List.map_map]; exact v2⟩, hl, hc, hs⟩
end StrChars.Road
end Jvm.Pilot.@@N@@
namespace Jvm.Pilot.@@N@@
open Jvm Jvm.ClassFile Sem Op Lib Jvm.Free Jvm.Stand Jvm.LawKit Jvm.RoadKit Bundle Jvm.Pilot.@@N@@.Jvm.D
theorem own_sta {s : State} {args : Array Value} {C n d K : String} (hx : (Jvm.Cond.exactly (Term.static C n d) K).value args s none s [] = some true) (wi : (Jvm.Cond.initialized C).before args s = true) (wl : (Jvm.Cond.laysStatic C n d).before args s = true) :
    ∃ w : Addr, (Term.static C n d).eval args s none [] s = some (.ref w) ∧ Sta s s.heap C n d (.ref w) ∧ Exa s s.heap w K := by
  obtain ⟨w, ew⟩ := exa_v hx
  exact ⟨w, ew, Sta.start ew (Or.inr ⟨wi, wl⟩), Exa.start ew hx⟩
theorem own_fld {s : State} {args : Array Value} {t : Term} {w : Addr} {C n d : String} {k : Int32} (ev : t.eval args s none [] s = some (.ref w)) (hx : (Jvm.Cond.eq (Term.field t C n d) (Term.int k)).value args s none s [] = some true) : Fld s s.heap w C n d (.int k) := by
  have e1 := fld_at (C := C) (n := n) (dd := d) ev
  refine Fld.start ?_
  cases hv : s.fieldOf? w C n d with
  | none => rw [hv] at e1; simp [Cond.value, e1] at hx
  | some v =>
    rw [hv] at e1
    have e2 : (Term.int k).eval args s none [] s = some (.int k) := Term.int_eval k
    cases v <;> simp [Cond.value, e1, e2] at hx ⊢
    exact hx
theorem own_fldR {s : State} {args : Array Value} {t u : Term} {w z : Addr} {C n d : String} (ev : t.eval args s none [] s = some (.ref w)) (eu : u.eval args s none [] s = some (.ref z)) (hx : (Jvm.Cond.eq (Term.field t C n d) u).value args s none s [] = some true) : Fld s s.heap w C n d (.ref z) := by
  have e1 := fld_at (C := C) (n := n) (dd := d) ev
  refine Fld.start ?_
  cases hv : s.fieldOf? w C n d with
  | none => rw [hv] at e1; simp [Cond.value, e1] at hx
  | some v =>
    rw [hv] at e1
    cases v <;> simp [Cond.value, e1, eu] at hx ⊢
    exact hx
theorem own_nsR {Z : State} {a0 : Array Value} {O K : String} {n : Nat} (w : (Jvm.Cond.noSuperclass O).before a0 Z = true) (wi : (Jvm.Cond.instantiable K n).before a0 Z = true) (hn : O ≠ K) : NS Z O K := by
  obtain ⟨c, k, h1, h2, h3, -⟩ := Cond.noSuperclass_spec w
  obtain ⟨t, kt, g1, -⟩ := Cond.instantiable_spec wi
  exact ⟨c, t, h1, g1, fun fuel => by cases fuel <;> simp [Vm.isSubclassAux, ids_ne h1 g1 hn, h2, h3]⟩
theorem own_nsN {Z : State} {a0 : Array Value} {C S K : String} {n : Nat} (w : (Jvm.Cond.superclass C S).before a0 Z = true) (wi : (Jvm.Cond.instantiable K n).before a0 Z = true) (nn : NS Z C K) (hn : C ≠ K) : ∃ c t, Z.vm.findClass C = some c ∧ Z.vm.findClass K = some t ∧ Z.vm.assignable c t = false := by
  obtain ⟨c, t, h0, g0, n3⟩ := nn
  obtain ⟨_, k, _, -, h2, -, -, h5, -⟩ := Cond.superclass_spec h0 w
  obtain ⟨t', kt, g1, g2, g3, g4, -⟩ := Cond.instantiable_spec wi
  cases g0.symm.trans g1
  have g5 : kt.isInterface = false := (Bool.or_eq_false_iff.mp g4).1
  exact ⟨c, t, h0, g0, by show Z.vm.assignableAux (255 + 1) c t = false; simp [Vm.assignableAux, ids_ne h0 g0 hn, h2, g2, h5, g3, g5, Vm.isSubclass, n3]⟩
theorem own_elem {s : State} {args : Array Value} {t u : Term} {a z : Addr} {cl : Cell} {j : Int32} (ev : t.eval args s none [] s = some (.ref a)) (eu : u.eval args s none [] s = some (.ref z)) (ha : s.arrayAt? a = some cl) (hn : ¬ j < 0) (hx : (Jvm.Cond.eq (Term.elem t (Term.int j)) u).value args s none s [] = some true) : cl.slots[j.toNatClampNeg]? = some (.ref z) := by
  have e1 := elem_f ev (Term.int_eval j) ha hn
  cases hv : cl.slots[j.toNatClampNeg]? with
  | none => rw [hv] at e1; simp [Cond.value, e1] at hx
  | some v =>
    rw [hv] at e1
    cases v <;> simp [Cond.value, e1, eu] at hx ⊢
    exact hx
theorem own_fldN {s : State} {args : Array Value} {t : Term} {w : Addr} {C n d : String} (ev : t.eval args s none [] s = some (.ref w)) (hx : (Jvm.Cond.eq (Term.field t C n d) Term.null).value args s none s [] = some true) : Fld s s.heap w C n d .null := by
  have e1 := fld_at (C := C) (n := n) (dd := d) ev
  have e2 := null_v hx
  rw [e1] at e2
  exact Fld.start e2
theorem refCat {v : Value} (h : v.isRef = true) : v.category = 1 := by rcases ref_cases h with rfl | ⟨a, rfl⟩ <;> rfl
theorem refNar {v : Value} {C : String} (h : v.isRef = true) : narrow (.object C) v = v := by rcases ref_cases h with rfl | ⟨a, rfl⟩ <;> rfl
theorem refFit {v : Value} {C : String} (h : v.isRef = true) : fits (.object C) v = true := by rcases ref_cases h with rfl | ⟨a, rfl⟩ <;> rfl
theorem own_c255 (x : Int32) : ¬ nar .char ((x &&& (255 : Int32)).toUInt32.toUInt16.toUInt32.toInt32) < 0 ∧ ¬ (255 : Int32) < nar .char ((x &&& (255 : Int32)).toUInt32.toUInt16.toUInt32.toInt32) := by
  have h1 := c_and x 255 (by decide)
  have h2 := c_i2c (x &&& 255)
  have h3 := c_i2c ((x &&& (255 : Int32)).toUInt32.toUInt16.toUInt32.toInt32)
  show ¬ ((x &&& (255 : Int32)).toUInt32.toUInt16.toUInt32.toInt32).toUInt32.toUInt16.toUInt32.toInt32 < 0 ∧ ¬ (255 : Int32) < ((x &&& (255 : Int32)).toUInt32.toUInt16.toUInt32.toInt32).toUInt32.toUInt16.toUInt32.toInt32
  simp only [Int32.lt_iff_toInt_lt, show (255 : Int32).toInt = 255 from by decide, show (0 : Int32).toInt = 0 from by decide] at *
  omega
theorem own_up (cs : List Int32) (h : ∀ c ∈ cs, ¬ c < 0 ∧ ¬ (255 : Int32) < c) : ∀ c ∈ cs, ¬ c < 0 ∧ ¬ (65535 : Int32) < c := fun c hc => ⟨(h c hc).1, fun q => (h c hc).2 (by
  simp only [Int32.lt_iff_toInt_lt, show (255 : Int32).toInt = 255 from by decide, show (65535 : Int32).toInt = 65535 from by decide] at *; omega)⟩
theorem own_p1 {a : Int32} (ha : ¬ a < 0 ∧ ¬ (255 : Int32) < a) : ∀ c ∈ ([a] : List Int32), ¬ c < 0 ∧ ¬ (255 : Int32) < c := fun c hc => by
  cases List.mem_singleton.mp hc; exact ha
theorem own_p2 {a b : Int32} {L : List Int32} (ha : ¬ a < 0 ∧ ¬ (255 : Int32) < a) (hL : ∀ c ∈ b :: L, ¬ c < 0 ∧ ¬ (255 : Int32) < c) : ∀ c ∈ a :: b :: L, ¬ c < 0 ∧ ¬ (255 : Int32) < c := fun c hc => by
  rcases List.mem_cons.mp hc with q | q
  · cases q; exact ha
  · exact hL c q
theorem own_words {Z : State} {a0 : Array Value} (hw : ∀ d ∈ tables_1, d.before a0 Z = true) : ∀ d ∈ StrChars.Road.words, d.before a0 Z = true := fun d hd => hw d ((by decide +kernel : ∀ d ∈ StrChars.Road.words, d ∈ tables_1) d hd)
section OwnLit
variable {p : Program} {l : Launch} {e : Env} {R : Room} {s : State} {m : MethodId} {args : Array Value} {below : List Frame} {meth : Method} {c : Code} {T : State} {locs : List Loc} {cells slots : Nat} {Z : State} {a0 : Array Value} {h h' : Heap} {vm0 vm1 : Vm} {own : String} {i N N' : Nat} {A : List String} {o : Addr} {sl : Nat} {v : Value} {ws : List Addr}
/-- no place of the start was written: the list of places is empty -/
theorem own_noL (X : Stand p l e R s m args below meth c T locs cells slots) (hold : ∀ (b : Addr) (cl : Cell), s.heap[b]? = some cl → T.heap[b]? = some cl) : Stand p l e R s m args below meth c T [] cells slots :=
  ⟨X.admits, X.cas, X.clock, X.frames, X.room, X.hears, X.method, X.code, X.here, X.tail, X.warmed, X.limits, X.bytes,
    ⟨X.same.1, X.same.2.1, X.same.2.2.1, X.same.2.2.2.1, X.same.2.2.2.2.1, fun a cc hc => ⟨cc, hold a cc hc, rfl, rfl, fun _ _ => rfl⟩⟩⟩
/-- the literal "" at the entry i of own: not loaded yet (only texts of A and "" may have come), or loaded: a String of no bytes, below N -/
def LS (Z : State) (own : String) (i : Nat) (A : List String) (vm : Vm) (h : Heap) (N : Nat) : Prop :=
  N ≤ h.size ∧ ∃ Ts, IB Z vm Ts ∧ (∀ t ∈ Ts, t = "" ∨ t ∈ A) ∧ ("" ∉ Ts ∨ ∃ (a b : Addr) (k : ClassId), Lit (Z.setVm vm) own i a ∧ a < N ∧ b < N ∧ Exa Z h a "java/lang/String" ∧ Fld Z h a "java/lang/String" "coder" "B" (.int 0) ∧ Fld Z h a "java/lang/String" "value" "[B" (.ref b) ∧ Arv Z h b k .byte 0 [] (.int 0))
theorem LS.start (hZ : IB Z vm0 []) : LS Z own i A vm0 h 0 := ⟨Nat.zero_le _, [], hZ, fun _ q => (nomatch q), Or.inl (fun q => nomatch q)⟩
theorem LS.ext (L : LS Z own i A vm0 h N) (E : Ext h h') : LS Z own i A vm0 h' N := by
  obtain ⟨q, Ts, I, ha, r⟩ := L
  refine ⟨Nat.le_trans q E.1, Ts, I, ha, r.imp id ?_⟩
  rintro ⟨a, b, k, r1, r2, r3, r4, r5, r6, r7⟩
  exact ⟨a, b, k, r1, r2, r3, r4.ext E, r5.ext E, r6.ext E, r7.ext E⟩
theorem LS.keep (L : LS Z own i A vm0 h N) (K : Keep h h' ws) (w : ∀ x ∈ ws, N ≤ x) : LS Z own i A vm0 h' N := by
  obtain ⟨q, Ts, I, ha, r⟩ := L
  refine ⟨Nat.le_trans q K.1, Ts, I, ha, r.imp id ?_⟩
  rintro ⟨a, b, k, r1, r2, r3, r4, r5, r6, r7⟩
  have na : a ∉ ws := fun z => absurd r2 (Nat.not_lt.mpr (w a z))
  have nb : b ∉ ws := fun z => absurd r3 (Nat.not_lt.mpr (w b z))
  exact ⟨a, b, k, r1, r2, r3, r4.keep K, r5.keep K na, r6.keep K na, r7.keep K nb⟩
theorem LS.wr (L : LS Z own i A vm0 h N) (W : Wr h h' o sl v) (q : N ≤ o) : LS Z own i A vm0 h' N := L.keep (Keep.of_wr W) (allS q all0)
theorem LS.keepC {C : String} {n : Nat} (L : LS Z own i A vm0 h N) (K : Keep h h' [o]) (E : Exa Z h o C) (hC : C ≠ "java/lang/String") (wi : (Jvm.Cond.instantiable C n).before a0 Z = true) : LS Z own i A vm0 h' N := by
  obtain ⟨q, Ts, I, ha, r⟩ := L
  refine ⟨Nat.le_trans q K.1, Ts, I, ha, r.imp id ?_⟩
  rintro ⟨a, b, k, r1, r2, r3, r4, r5, r6, r7⟩
  have na : a ∉ [o] := ninS (Ne.symm (E.ne r4 hC)) nin0
  have nb : b ∉ [o] := ninS (Ne.symm (E.neArv r7 wi)) nin0
  exact ⟨a, b, k, r1, r2, r3, r4.keep K, r5.keep K na, r6.keep K na, r7.keep K nb⟩
theorem own_fldU {a : Addr} {C n d : String} {u w : Value} (F : Fld Z h a C n d u) (G : Fld Z h a C n d w) : u = w := by
  obtain ⟨c1, f1, k1, i1, g1, a1, a2, -, -, -, -, a7⟩ := F
  obtain ⟨c2, f2, k2, i2, g2, b1, b2, -, -, -, -, b7⟩ := G
  cases a1.symm.trans b1
  cases a2.symm.trans b2
  exact Option.some.inj (a7.symm.trans b7)
theorem LS.keepX {a b : Addr} (L : LS Z own i A vm0 h N) (La : Lit (s.setVm vm0) own i a) (Va : Fld Z h a "java/lang/String" "value" "[B" (.ref b)) (K : Keep h h' ws) (na : a ∉ ws) (nb : b ∉ ws) : LS Z own i A vm0 h' N := by
  obtain ⟨q, Ts, I, ha, r⟩ := L
  refine ⟨Nat.le_trans q K.1, Ts, I, ha, r.imp id ?_⟩
  rintro ⟨a', b', k, r1, r2, r3, r4, r5, r6, r7⟩
  have e1 : (Z.setVm vm0).resolvedAt? own i = some (.string a') := r1
  have e2 : (Z.setVm vm0).resolvedAt? own i = some (.string a) := La
  obtain rfl : a' = a := by rw [e1] at e2; cases e2; rfl
  obtain rfl : b' = b := Value.ref.inj (own_fldU r6 Va)
  exact ⟨a', b', k, r1, r2, r3, r4.keep K, r5.keep K na, r6.keep K na, r7.keep K nb⟩
theorem LS.up (L : LS Z own i A vm0 h N) (q : N ≤ N') (q' : N' ≤ h.size) : LS Z own i A vm0 h N' := by
  obtain ⟨_, Ts, I, ha, r⟩ := L
  refine ⟨q', Ts, I, ha, r.imp id ?_⟩
  rintro ⟨a, b, k, r1, r2, r3, r4⟩
  exact ⟨a, b, k, r1, Nat.lt_of_lt_of_le r2 q, Nat.lt_of_lt_of_le r3 q, r4⟩
theorem IB.same {Ts : List String} (I : IB Z vm0 Ts) (q : vm1.interned = vm0.interned) : IB Z vm1 Ts := by
  obtain ⟨more, h1, h2⟩ := I
  exact ⟨more, q.trans h1, h2⟩
theorem LS.warm (L : LS Z own i A vm0 h N) (hW : (s.setVm vm0).WarmedH vm1) : LS Z own i A vm1 h N := by
  obtain ⟨q, Ts, I, ha, r⟩ := L
  refine ⟨q, Ts, IB.same I hW.interned_eq, ha, r.imp id ?_⟩
  rintro ⟨a, b, k, r1, r4⟩
  exact ⟨a, b, k, Lit.stays (s := s) (vm0 := vm0) r1 hW.wide, r4⟩
/-- 'ldc' of the literal "", its fields known, whether it is the first load or not -/
theorem own_ldcE (X : Stand p l e R (s.setVm vm0) m args below meth c T locs cells slots) (hx : p.tables.exec = Jvm.exec) (hZ : Z.Warmed39 (s.setVm vm0).vm) (hown : (s.setVm vm0).vm.findClass own = some m.cls) (w : (Jvm.Cond.stringLink own i "").before a0 Z = true) (wS : ∀ a ∈ Bundle.stringAtoms, a.before a0 Z = true)
    (eT : T.heap = h) {k0 : Nat} (hS : s.Since vm0 k0) (hk : k0 ≤ h.size) (hold : ∀ (b : Addr) (cl : Cell), s.heap[b]? = some cl → T.heap[b]? = some cl) (hkeep : ∀ (b : Addr) (cl : Cell), Z.heap[b]? = some cl → s.heap[b]? = some cl) (LL : LS Z own i A vm0 h N) (hh : Jvm.Lit.constHeld Z own i) (hcw : Jvm.Lit.compactW.before a0 Z = true)
    {g : JFrame} (hg : g.method = m) (hd : decode c.code g.pc = .ok (.ldc i, 2)) (hc : cells + 2 ≤ R.cells) (hl' : slots + 4 ≤ R.slots) :
    ∃ (a : Addr) (T' : State) (h' : Heap) (k1 : Nat) (b : Addr) (k : ClassId), Stand p l e R (s.setVm T'.vm) m args below meth c T' [] (cells + 2) (slots + 4) ∧ T'.heap = h' ∧ Ext h h' ∧ s.Since T'.vm k1 ∧ k1 ≤ h'.size ∧ Z.Warmed39 (s.setVm T'.vm).vm ∧ (s.setVm T'.vm).vm.findClass own = some m.cls ∧
      Exa Z h' a "java/lang/String" ∧ Fld Z h' a "java/lang/String" "coder" "B" (.int 0) ∧ Fld Z h' a "java/lang/String" "value" "[B" (.ref b) ∧ Arv Z h' b k .byte 0 [] (.int 0) ∧ a < h'.size ∧ b < h'.size ∧ LS Z own i A T'.vm h' h'.size ∧ Lit (s.setVm T'.vm) own i a ∧
      ∀ target, Steps p.tables e below (T'.setTop { g with pc := g.pc + 2, stack := .ref a :: g.stack }) target → Steps p.tables e below (T.setTop g) target := by
  have X0 : Stand p l e R (s.setVm vm0) m args below meth c T [] cells slots := own_noL X hold
  obtain ⟨q0, Ts, I, ha, r⟩ := LL
  by_cases hnot : "" ∈ Ts
  · rcases r with r | ⟨a, b, k, r1, r2, r3, r4, r5, r6, r7⟩
    · exact absurd hnot r
    · have hW := X0.warmed
      refine ⟨a, T, h, k0, b, k, ?_, eT, ⟨Nat.le_refl _, fun _ _ q => q⟩, ?_, hk, State.Warmed39.trans (t := s.setVm vm0) hZ hW.wide, ?_, r4, r5, r6, r7, Nat.lt_of_lt_of_le r2 q0, Nat.lt_of_lt_of_le r3 q0, ⟨Nat.le_refl _, Ts, IB.same I hW.interned_eq, ha, Or.inr ⟨a, b, k, Lit.stays (s := s) (vm0 := vm0) r1 hW.wide, Nat.lt_of_lt_of_le r2 q0, Nat.lt_of_lt_of_le r3 q0, r4, r5, r6, r7⟩⟩, Lit.stays (s := s) (vm0 := vm0) r1 hW.wide, ldcAgain X hx hZ hown w r1 hg hd⟩
      · have := (X0.retabled hW.wide).more (cells' := cells + 2) (slots' := slots + 4) (Nat.le_add_right _ _) (Nat.le_add_right _ _)
        exact this
      · exact hS.trans (hW.since k0) (Nat.le_refl _)
      · show T.vm.findClass own = _
        rw [hW.alike.findClass]; exact hown
  · obtain ⟨a, T', h', k1, b, k, r1, r2, r3, r4, r5, r6, r7, r8, r9, r10, r11, r12, r13, r14, r15, r16⟩ := ldcSVL X0 hx hZ hown w wS eT hS hk (Fr.nil _) hkeep I hnot hh hcw (vs := []) (z := 0) ⟨fun _ q => by simp at q, rfl⟩ (by decide) (by decide) hg hd (n := 0) (by decide) (by decide) hc hl'
    exact ⟨a, T', h', k1, b, k, r1, r2, r3, r4, r5, r6, r7, r8, r9, r10, r11, r12, r13, ⟨Nat.le_refl _, _, r14, fun t q => (List.mem_cons.mp q).elim Or.inl (ha t), Or.inr ⟨a, b, k, r15, r12, r13, r8, r9, r10, r11⟩⟩, r15, r16⟩
end OwnLit
section OwnBack
variable {p : Program} {l : Launch} {e : Env} {R : Room} {s : State} {args : Array Value} {below : List Frame} {Z : State} {a0 : Array Value} {h : Heap}
/-- a callee that may intern, whose contract speaks of the tables too (Pv at its start, Q at its end) -/
theorem own_backV {y : MethodName} {bytes : ByteArray} {maxL : Nat} {ret : Option FieldType} {rm : Room} {len W : Nat} {as' : Array Value} {Pv : Vm → Prop} {Q : Option Value → Heap → Vm → List Loc → Prop}
    (hM : MetFree l y (head1 [Jvm.Cond.code y bytes maxL ret] rm) (fun a U => a = as' ∧ (Z.Warmed39 U.vm ∧ Pv U.vm) ∧ U.heap = h) (fun _ _ _ _ _ => True) (fun _ U o U' => ∃ v L, o = .returned v ∧ Q v U'.heap U'.vm L ∧ ReturnedEndW U o U' L rm.cells rm.slots))
    (hZ : Z.Warmed39 s.vm) (hv : ∀ vm', s.WarmedH vm' → Pv vm') (wc : (Jvm.Cond.code y bytes maxL ret).before a0 Z = true) (wz : (Jvm.Cond.initialized y.cls).before a0 Z = true) (hf : rm.frames + 1 ≤ R.frames) (hl : W + (maxL + 11) + rm.locals ≤ R.locals) :
    BackS l R p e below s args y len W (fun A a => a = as' ∧ A.U.heap = h ∧ A.cells + rm.cells ≤ R.cells ∧ A.slots + rm.slots ≤ R.slots)
      (fun A _ v B => ∃ L, Q v B.U.heap B.U.vm L ∧ B.locs = A.locs ++ L ∧ B.cells = A.cells + rm.cells ∧ B.slots = A.slots + rm.slots) := by
  refine BackS.of_freeW (bytes := bytes) (maxL := maxL) (ret := ret) (E := fun _ _ o t L k n => k = rm.cells ∧ n = rm.slots ∧ ∃ v, o = .returned v ∧ Q v t.heap t.vm L) hM hf hl ?_ ?_ (fun _ _ _ _ _ _ _ _ _ => trivial) ?_ ?_
  · intro m meth c A a Y hp
    have hU : Z.Warmed39 A.U.vm := wtrans hZ Y.warmed
    refine ⟨?_, mv hU wc, mv hU wz, hp.2.2.1, hp.2.2.2⟩
    show (Jvm.Cond.and _ .tt).before a A.U = true
    rw [Cond.before_and, mv hU wc]; rfl
  · exact fun m meth c A a g mk Y hp => ⟨hp.1, ⟨wtrans hZ Y.warmed, hv _ Y.warmed⟩, hp.2.1⟩
  · exact fun _ _ _ _ ⟨v, L, h1, h2, h3⟩ => ⟨L, _, _, h3, rfl, rfl, v, h1, h2⟩
  · intro m meth c A a g mk v t L k n Y hp _ _ hE
    obtain ⟨e1, e2, v', e3, e4⟩ := hE
    cases e3; subst e1 e2
    exact ⟨L, e4, rfl, rfl, rfl⟩
end OwnBack
section OwnRoot
variable {p : Program} {l : Launch} {e : Env} {R : Room} {s : State} {m : MethodId} {args : Array Value} {below : List Frame} {meth : Method} {c : Code} {T : State} {locs : List Loc} {cells slots : Nat} {Z : State} {a0 : Array Value} {h h' : Heap} {vm0 vm1 : Vm} {own : String} {index : Nat} {text : String} {Ts : List String}
/-- the start, with the heap and the slots of the state at hand -/
def Ro (s T : State) : State := { s with heap := T.heap, slotsUsed := T.slotsUsed }
theorem own_root0 (X : Stand p l e R s m args below meth c T locs cells slots) (hc : cells ≤ R.cells) (hl : slots ≤ R.slots) : Stand p l e { R with cells := R.cells - cells, slots := R.slots - slots } (Ro s T) m args below meth c T [] 0 0 := by
  have hb : T.slotsTrue = true := X.book
  have h1 := X.heapSize
  have h2 := X.used
  refine ⟨X.admits, X.cas, X.clock, X.frames, ?_, ?_, X.method, X.code, X.here, X.tail, X.warmed, X.limits, X.bytes, ?_⟩
  · have h := X.room
    simp only [State.hasRoom, Bool.and_eq_true, decide_eq_true_eq] at h ⊢
    obtain ⟨⟨⟨⟨g1, g2⟩, g3⟩, g4⟩, g5⟩ := h
    refine ⟨⟨⟨⟨g1, g2⟩, ?_⟩, ?_⟩, hb⟩
    · show T.heap.size + (R.cells - cells) ≤ _
      omega
    · show T.slotsUsed + (R.slots - slots) ≤ _
      omega
  · have h := X.hears
    cases hb : below with
    | nil => rw [hb] at h; exact h
    | cons f r => rw [hb] at h; cases f <;> exact h
  · have q := X.same.1
    refine ⟨?_, Nat.le_refl _, Nat.le_refl _, ?_, ?_, fun a cc hc => ⟨cc, hc, rfl, rfl, fun _ _ => rfl⟩⟩
    · exact q
    · show T.slotsUsed = T.slotsUsed + ((T.heap.toList.drop T.heap.size).map (·.slots.size)).sum
      rw [List.drop_of_length_le (by simp)]; rfl
    · show ((T.heap.toList.drop T.heap.size).map (·.slots.size)).sum ≤ 0
      rw [List.drop_of_length_le (by simp)]; exact Nat.le_refl _
theorem own_root (X : Stand p l e R s m args below meth c T locs cells slots) (hc : cells ≤ R.cells) (hl : slots ≤ R.slots) : Stand p l e { R with cells := R.cells - cells, slots := R.slots - slots } ((Ro (s.setVm T.vm) T).setVm T.vm) m args below meth c T [] 0 0 :=
  own_root0 (T := T) (X.retabled X.warmed.wide) hc hl
/-- 'ldc' of a text that was not loaded before: what it holds is known, whatever was written -/
theorem own_ldcR (X : Stand p l e R (s.setVm vm0) m args below meth c T locs cells slots) (hx : p.tables.exec = Jvm.exec) (hZ : Z.Warmed39 (s.setVm vm0).vm) (hown : (s.setVm vm0).vm.findClass own = some m.cls) (w : (Jvm.Cond.stringLink own index text).before a0 Z = true) (wS : ∀ a ∈ Bundle.stringAtoms, a.before a0 Z = true)
    (eT : T.heap = h) {k0 : Nat} (hS : s.Since vm0 k0) (hk : k0 ≤ h.size) (hkeep : ∀ (b : Addr) (cl : Cell), Z.heap[b]? = some cl → h[b]? = some cl) (I : IB Z vm0 Ts) (hnot : text ∉ Ts) (hh : Jvm.Lit.constHeld Z own index) (hcw : Jvm.Lit.compactW.before a0 Z = true)
    {vs : List Value} {z : Int32} (ht : (∀ c ∈ text.toList, c.toNat < 256) ∧ text.toList.map (fun c => Value.int (Jvm.Lit.byteI c.toNat.toUInt16)) = vs) (hz : ¬ z < 0) (hl : z.toNatClampNeg = vs.length)
    {g : JFrame} (hg : g.method = m) (hd : decode c.code g.pc = .ok (.ldc index, 2)) {n : Nat} (hn : 4 * text.toList.length ≤ n) (hbig : n ≤ 536870912) (hc : cells + 2 ≤ R.cells) (hl' : slots + (n + 4) ≤ R.slots) :
    ∃ (a : Addr) (T' : State) (h' : Heap) (k1 : Nat) (b : Addr) (k : ClassId), Stand p l e R (s.setVm T'.vm) m args below meth c T' locs (cells + 2) (slots + (n + 4)) ∧ T'.heap = h' ∧ Ext h h' ∧ s.Since T'.vm k1 ∧ k1 ≤ h'.size ∧ Z.Warmed39 (s.setVm T'.vm).vm ∧ (s.setVm T'.vm).vm.findClass own = some m.cls ∧
      Exa Z h' a "java/lang/String" ∧ Fld Z h' a "java/lang/String" "coder" "B" (.int 0) ∧ Fld Z h' a "java/lang/String" "value" "[B" (.ref b) ∧ Arv Z h' b k .byte z vs (.int 0) ∧ a < h'.size ∧ b < h'.size ∧ IB Z T'.vm (text :: Ts) ∧ Lit (s.setVm T'.vm) own index a ∧ (s.setVm vm0).Warmed39 T'.vm ∧
      ∀ target, Steps p.tables e below (T'.setTop { g with pc := g.pc + 2, stack := .ref a :: g.stack }) target → Steps p.tables e below (T.setTop g) target := by
  have hW := X.warmed
  have X0 := own_root X (Nat.le_trans (Nat.le_add_right _ _) hc) (Nat.le_trans (Nat.le_add_right _ _) hl')
  have hS0 : (Ro ((s.setVm vm0).setVm T.vm) T).Since T.vm 0 := ⟨State.Warmed39.refl _, fun j p q1 q2 => absurd (Array.getElem?_eq_some_iff.mp q2).1 (Nat.not_lt.mpr q1)⟩
  have hI : IB Z T.vm Ts := by
    obtain ⟨more, i1, i2⟩ := I
    exact ⟨more, hW.interned_eq.trans i1, i2⟩
  obtain ⟨a, T', h', k1, b, k, r1, r2, r3, r4, r5, r6, r7, r8, r9, r10, r11, r12, r13, r14, r15, r16⟩ := ldcSVL X0 hx (State.Warmed39.trans (t := s.setVm vm0) hZ hW.wide) (by rw [hW.alike.findClass]; exact hown) w wS eT hS0 (Nat.zero_le _) (Fr.nil _) (fun b cl q => by show T.heap[b]? = some cl; rw [eT]; exact hkeep b cl q) hI hnot hh hcw ht hz hl hg hd hn hbig (by show 0 + 2 ≤ R.cells - cells; omega) (by show 0 + (n + 4) ≤ R.slots - slots; omega)
  have q := r1.same
  have hT := X.same.1
  obtain ⟨X', hS'⟩ := X.movedW (T₂ := T') (l₂ := []) (c₂ := 2) (n₂ := n + 4) r1.here r1.tail (r1.limits.trans X.limits.symm) (r1.bytes.trans X.bytes.symm) r4.1 (r4.2.mono (by rw [r2]; exact r5)) (by
    obtain ⟨q1, q2, q3, q4, q5, q6⟩ := q
    refine ⟨?_, q2, ?_, q4, ?_, q6⟩
    · have e1 := congrArg (fun u : State => u.setVm T.vm) q1
      have e2 : T = ({ (s.setFrames T.frames) with heap := T.heap, slotsUsed := T.slotsUsed } : State).setVm T.vm := by
        have e0 := congrArg (fun u : State => u.setVm T.vm) hT
        exact e0
      have e3 : ∀ f, T.setFrames f = ({ (s.setFrames f) with heap := T.heap, slotsUsed := T.slotsUsed } : State).setVm T.vm := fun f => by
        have e4 := congrArg (fun u : State => u.setFrames f) e2
        have e5 : (({ (s.setFrames T.frames) with heap := T.heap, slotsUsed := T.slotsUsed } : State).setVm T.vm).setFrames f = ({ ((s.setFrames T.frames).setFrames f) with heap := T.heap, slotsUsed := T.slotsUsed } : State).setVm T.vm := rfl
        rw [State.setFrames_setFrames] at e5
        exact e4.trans e5
      show T'.setVm T.vm = { T.setFrames T'.frames with heap := T'.heap, slotsUsed := T'.slotsUsed }
      rw [e3]
      exact e1
    · rw [Nat.zero_add] at q3; exact q3
    · rw [Nat.zero_add] at q5; exact q5)
  rw [List.append_nil] at X'
  exact ⟨a, T', h', T'.heap.size, b, k, X', r2, r3, hS.trans hS' (Nat.le_trans hk (by rw [r2]; exact r3.1)), Nat.le_of_eq (by rw [r2]), r6, r7, r8, r9, r10, r11, r12, r13, r14, r15, hS'.1, r16⟩
end OwnRoot
section OwnText
variable {p : Program} {l : Launch} {e : Env} {R : Room} {s : State} {m : MethodId} {args : Array Value} {below : List Frame} {meth : Method} {c : Code} {T : State} {locs : List Loc} {cells slots : Nat} {Z : State} {a0 : Array Value} {h h' : Heap} {vm0 vm1 : Vm} {own own' : String} {i index N : Nat} {text : String} {A : List String}
/-- 'ldc' of a text that is not "" and not among A: what it holds is known -/
theorem own_ldcT (X : Stand p l e R (s.setVm vm0) m args below meth c T locs cells slots) (hx : p.tables.exec = Jvm.exec) (hZ : Z.Warmed39 (s.setVm vm0).vm) (hown : (s.setVm vm0).vm.findClass own' = some m.cls) (w : (Jvm.Cond.stringLink own' index text).before a0 Z = true) (wS : ∀ a ∈ Bundle.stringAtoms, a.before a0 Z = true)
    (eT : T.heap = h) {k0 : Nat} (hS : s.Since vm0 k0) (hk : k0 ≤ h.size) (hkeep : ∀ (b : Addr) (cl : Cell), Z.heap[b]? = some cl → h[b]? = some cl) (LL : LS Z own i A vm0 h N) (hn1 : text ≠ "") (hn2 : text ∉ A) (hh : Jvm.Lit.constHeld Z own' index) (hcw : Jvm.Lit.compactW.before a0 Z = true)
    {vs : List Value} {z : Int32} (ht : (∀ c ∈ text.toList, c.toNat < 256) ∧ text.toList.map (fun c => Value.int (Jvm.Lit.byteI c.toNat.toUInt16)) = vs) (hz : ¬ z < 0) (hl : z.toNatClampNeg = vs.length)
    {g : JFrame} (hg : g.method = m) (hd : decode c.code g.pc = .ok (.ldc index, 2)) {n : Nat} (hn : 4 * text.toList.length ≤ n) (hbig : n ≤ 536870912) (hc : cells + 2 ≤ R.cells) (hl' : slots + (n + 4) ≤ R.slots) :
    ∃ (a : Addr) (T' : State) (h' : Heap) (k1 : Nat) (b : Addr) (k : ClassId), Stand p l e R (s.setVm T'.vm) m args below meth c T' locs (cells + 2) (slots + (n + 4)) ∧ T'.heap = h' ∧ Ext h h' ∧ s.Since T'.vm k1 ∧ k1 ≤ h'.size ∧ Z.Warmed39 (s.setVm T'.vm).vm ∧ (s.setVm T'.vm).vm.findClass own' = some m.cls ∧
      Exa Z h' a "java/lang/String" ∧ Fld Z h' a "java/lang/String" "coder" "B" (.int 0) ∧ Fld Z h' a "java/lang/String" "value" "[B" (.ref b) ∧ Arv Z h' b k .byte z vs (.int 0) ∧ LS Z own i (text :: A) T'.vm h' N ∧
      ∀ target, Steps p.tables e below (T'.setTop { g with pc := g.pc + 2, stack := .ref a :: g.stack }) target → Steps p.tables e below (T.setTop g) target := by
  obtain ⟨q0, Ts, I, ha, r⟩ := LL
  have hnot : text ∉ Ts := fun q => (ha text q).elim hn1 hn2
  obtain ⟨a, T', h', k1, b, k, r1, r2, r3, r4, r5, r6, r7, r8, r9, r10, r11, r12, r13, r14, r15, rW, r16⟩ := own_ldcR X hx hZ hown w wS eT hS hk hkeep I hnot hh hcw ht hz hl hg hd hn hbig hc hl'
  refine ⟨a, T', h', k1, b, k, r1, r2, r3, r4, r5, r6, r7, r8, r9, r10, r11, ⟨Nat.le_trans q0 r3.1, _, r14, fun t q => ?_, ?_⟩, r16⟩
  · rcases List.mem_cons.mp q with rfl | q
    · exact Or.inr (List.mem_cons_self ..)
    · exact (ha t q).imp id (List.mem_cons_of_mem _)
  · rcases r with r | ⟨a', b', k', g1, g2, g3, g4, g5, g6, g7⟩
    · exact Or.inl fun q => (List.mem_cons.mp q).elim (fun z => hn1 z.symm) r
    · exact Or.inr ⟨a', b', k', Lit.stays (s := s) (vm0 := vm0) g1 rW, g2, g3, g4.ext r3, g5.ext r3, g6.ext r3, g7.ext r3⟩
end OwnText
theorem own_sat {Z : State} {a0 : Array Value} (hw : ∀ d ∈ tables_1, d.before a0 Z = true) : ∀ d ∈ Bundle.stringAtoms, d.before a0 Z = true := fun d hd => hw d ((by decide +kernel : ∀ d ∈ Bundle.stringAtoms, d ∈ tables_1) d hd)
section OwnTxt
/-- n counts v, at most k ints -/
def own_N (k : Nat) (n : Int32) (v : List Value) : Prop := ¬ n < (0 : Int32) ∧ n.toNatClampNeg = v.length ∧ v.length ≤ k ∧ ∀ x ∈ v, ∃ i : Int32, x = .int i
theorem own_ti {k : Nat} {n : Int32} {v : List Value} (h : own_N k n v) : n.toInt = (v.length : Int) := by
  have h1 := h.1
  have h2 : n.toInt.toNat = v.length := h.2.1
  simp only [Int32.lt_iff_toInt_lt, show (0 : Int32).toInt = 0 from by decide] at h1
  omega
theorem own_nt {n : Int32} {m : Nat} (h : n.toInt = (m : Int)) : ¬ n < (0 : Int32) ∧ n.toNatClampNeg = m := by
  constructor
  · simp only [Int32.lt_iff_toInt_lt, show (0 : Int32).toInt = 0 from by decide]; omega
  · show n.toInt.toNat = m
    omega
theorem own_N0 : own_N 0 (0 : Int32) [] := ⟨by decide, rfl, Nat.le_refl _, fun x h => nomatch h⟩
theorem own_N1 (a : Int32) : own_N 1 (1 : Int32) [.int a] := ⟨by decide, rfl, Nat.le_refl _, fun x h => ⟨a, List.mem_singleton.mp h⟩⟩
theorem own_N2 (a b : Int32) : own_N 2 (2 : Int32) [.int a, .int b] := ⟨by decide, rfl, Nat.le_refl _, fun x h => by
  rcases List.mem_cons.mp h with q | q
  · exact ⟨a, q⟩
  · exact ⟨b, List.mem_singleton.mp q⟩⟩
theorem own_Nm {k k' : Nat} {n : Int32} {v : List Value} (h : own_N k n v) (q : k ≤ k') : own_N k' n v := ⟨h.1, h.2.1, Nat.le_trans h.2.2.1 q, h.2.2.2⟩
theorem own_iadd (a b : Int32) (m : Nat) (h : a.toInt + b.toInt = (m : Int)) (hm : m ≤ 1000000) : (a + b).toInt = (m : Int) := by
  have h3 := c_iadd a b
  have h4 := Int32.toInt_lt (a + b)
  have h5 := Int32.le_toInt (a + b)
  omega
theorem own_Nadd {k1 k2 : Nat} {a b : Int32} {u v : List Value} (A : own_N k1 a u) (B : own_N k2 b v) (hk : k1 + k2 ≤ 1000) : own_N (k1 + k2) (a + b) (u ++ v) := by
  have h1 := own_ti A
  have h2 := own_ti B
  have l1 := A.2.2.1
  have l2 := B.2.2.1
  have e : (a + b).toInt = (((u ++ v).length : Nat) : Int) := own_iadd a b _ (by rw [List.length_append]; omega) (by rw [List.length_append]; omega)
  refine ⟨(own_nt e).1, (own_nt e).2, by rw [List.length_append]; omega, fun x hx => ?_⟩
  rcases List.mem_append.mp hx with q | q
  · exact A.2.2.2 x q
  · exact B.2.2.2 x q
/-- a builder's array: its text and zeros up to z -/
def own_bl (z : Nat) (c : List Value) : List Value := c ++ List.replicate (z - c.length) (.int (0 : Int32))
theorem own_mg (vs : List Value) (d : Value) : List.map (fun i => List.getD vs ((0 : Int32).toNatClampNeg + i) d) (List.range vs.length) = vs := by
  refine List.ext_getElem (by simp) (fun i h1 h2 => ?_)
  simp [show (0 : Int32).toNatClampNeg = 0 from rfl, List.getElem?_eq_getElem h2]
theorem own_ns {z k1 k2 : Nat} {dp nn : Int32} {c vs : List Value} (A : own_N k1 dp c) (B : own_N k2 nn vs) (hk : k1 + k2 ≤ z) :
    (List.take dp.toNatClampNeg (own_bl z c) ++ (List.map (fun i => List.getD vs ((0 : Int32).toNatClampNeg + i) (.int 0)) (List.range nn.toNatClampNeg)) ++ List.drop (dp.toNatClampNeg + nn.toNatClampNeg) (own_bl z c)) = own_bl z (c ++ vs) := by
  have l1 := A.2.2.1
  have l2 := B.2.2.1
  rw [A.2.1, B.2.1, own_mg vs]
  have e1 : List.take c.length (own_bl z c) = c := by simp [own_bl]
  have e2 : List.drop (c.length + vs.length) (own_bl z c) = List.replicate (z - (c ++ vs).length) (.int (0 : Int32)) := by
    rw [← List.drop_drop, own_bl, List.drop_left, List.drop_replicate, List.length_append]
    congr 1
    omega
  rw [e1, e2]
  rfl
theorem own_rs {z k : Nat} {sm : Int32} {c : List Value} (A : own_N k sm c) :
    (List.take (0 : Int32).toNatClampNeg (List.replicate sm.toNatClampNeg (.int 0)) ++ (List.map (fun i => List.getD (own_bl z c) ((0 : Int32).toNatClampNeg + i) (.int 0)) (List.range sm.toNatClampNeg)) ++ List.drop ((0 : Int32).toNatClampNeg + sm.toNatClampNeg) (List.replicate sm.toNatClampNeg (.int 0))) = c := by
  rw [A.2.1, show (0 : Int32).toNatClampNeg = 0 from rfl]
  have e1 : List.map (fun i => List.getD (own_bl z c) (0 + i) (.int 0)) (List.range c.length) = c := by
    refine List.ext_getElem (by simp) (fun i h1 h2 => ?_)
    simp [own_bl, List.getElem?_append_left h2, List.getElem?_eq_getElem h2]
  rw [e1]
  simp
theorem own_b5 {z : Int32} {k1 k2 : Nat} {dp nn : Int32} {c vs : List Value} (A : own_N k1 dp c) (B : own_N k2 nn vs) (hk : k1 + k2 ≤ z.toNatClampNeg) : dp.toNatClampNeg + nn.toNatClampNeg ≤ z.toNatClampNeg := by
  rw [A.2.1, B.2.1]
  have l1 := A.2.2.1
  have l2 := B.2.2.1
  omega
theorem own_bw {z k1 k2 : Nat} {dp nn : Int32} {c vs : List Value} (A : own_N k1 dp c) (B : own_N k2 nn vs) (hk : k1 + k2 ≤ z) : dp.toNatClampNeg + nn.toNatClampNeg ≤ (own_bl z c).length := by
  rw [A.2.1, B.2.1]
  have l1 := A.2.2.1
  have l2 := B.2.2.1
  simp [own_bl]
  omega
theorem own_cmp {z : Int32} {k : Nat} {sm : Int32} {c : List Value} (C : own_N k sm c) (hz : (k : Int) < z.toInt) : ¬ ((0 : Int32) < (sm - z)) ∧ sm < z ∧ ¬ (sm = z) := by
  have h1 := own_ti C
  have l1 := C.2.2.1
  have h3 := c_isub sm z
  have h4 := Int32.toInt_lt (sm - z)
  have h5 := Int32.le_toInt (sm - z)
  have h6 := Int32.toInt_lt z
  simp only [Int32.lt_iff_toInt_lt, ← Int32.toInt_inj, show (0 : Int32).toInt = 0 from by decide]
  omega
theorem own_cap {k m : Nat} {sm : Int32} {c : List Value} (C : own_N k sm c) (hz : k ≤ m) : sm.toNatClampNeg ≤ m := by
  rw [C.2.1]
  exact Nat.le_trans C.2.2.1 hz
theorem own_at {k kp km : Nat} {off nn mm j : Int32} {P us Q vs : List Value} (hvs : vs = P ++ (us ++ Q)) (hN : own_N k nn vs) (hP : own_N kp off P) (hM : own_N km mm us) (hj : ¬ j < (0 : Int32)) (hjm : j < mm) (hk : k ≤ 1000) :
    ∃ v : Int32, ¬ (off + j) < (0 : Int32) ∧ (off + j) < nn ∧ List.getD vs (off + j).toNatClampNeg (.int 0) = .int v ∧ List.getD us j.toNatClampNeg (.int 0) = .int v := by
  have h1 := own_ti hN
  have h2 := own_ti hP
  have h3 := own_ti hM
  have l1 := hN.2.2.1
  have lv : vs.length = P.length + (us.length + Q.length) := by rw [hvs, List.length_append, List.length_append]
  simp only [Int32.lt_iff_toInt_lt, show (0 : Int32).toInt = 0 from by decide] at hj hjm
  obtain ⟨i, hi⟩ : ∃ i : Nat, j.toInt = (i : Int) := ⟨j.toInt.toNat, by omega⟩
  have e : (off + j).toInt = ((P.length + i : Nat) : Int) := own_iadd off j _ (by omega) (by omega)
  have hiu : i < us.length := by omega
  obtain ⟨v, hv⟩ := hM.2.2.2 us[i] (List.getElem_mem hiu)
  have e2 : us[i]? = some (.int v) := by rw [List.getElem?_eq_getElem hiu, hv]
  refine ⟨v, (own_nt e).1, ?_, ?_, ?_⟩
  · simp only [Int32.lt_iff_toInt_lt]; omega
  · rw [(own_nt e).2, List.getD_eq_getElem?_getD, hvs, List.getElem?_append_right (Nat.le_add_right _ _), Nat.add_sub_cancel_left, List.getElem?_append_left hiu, e2]; rfl
  · rw [(own_nt hi).2, List.getD_eq_getElem?_getD, e2]; rfl
theorem own_at0 {k kp km : Nat} {off nn mm : Int32} {P us Q vs : List Value} (hvs : vs = P ++ (us ++ Q)) (hN : own_N k nn vs) (hP : own_N kp off P) (hM : own_N km mm us) (hk : k ≤ 1000) (hjm : (0 : Int32) < mm) :
    ∃ v : Int32, ¬ (off < (0 : Int32)) ∧ off < nn ∧ List.getD vs off.toNatClampNeg (.int 0) = .int v ∧ List.getD us (0 : Int32).toNatClampNeg (.int 0) = .int v := by
  have h := own_at hvs hN hP hM (j := (0 : Int32)) (by decide) hjm hk
  rwa [Int32.add_zero] at h
theorem own_atL {k kp : Nat} {off nn a : Int32} {P Q vs : List Value} (hvs : vs = P ++ ([.int a] ++ Q)) (hN : own_N k nn vs) (hP : own_N kp off P) (hk : k ≤ 1000) : ¬ (off < (0 : Int32)) ∧ off < nn ∧ List.getD vs off.toNatClampNeg (.int 0) = .int a := by
  obtain ⟨v, h1, h2, h3, h4⟩ := own_at0 hvs hN hP (own_N1 a) hk (by decide)
  have e : Value.int a = .int v := h4
  cases e
  exact ⟨h1, h2, h3⟩
theorem own_01 {n : Int32} (h : ¬ (0 : Int32) < n) : ¬ (1 : Int32) < n := by
  simp only [Int32.lt_iff_toInt_lt, show (0 : Int32).toInt = 0 from by decide, show (1 : Int32).toInt = 1 from by decide] at *
  omega
end OwnTxt
section OwnSel
variable {Z : State} {a0 : Array Value}
theorem own_decl {y : MethodName} {bytes : ByteArray} {maxL : Nat} {ret : Option FieldType} (hi : (Jvm.Cond.instanceMethod y).before a0 Z = true) (wc : (Jvm.Cond.code y bytes maxL ret).before a0 Z = true) : (Jvm.Cond.declares y).before a0 Z = true := by
  obtain ⟨mk, methM, hn, hm, hst, -⟩ := Cond.instanceMethod_spec hi
  obtain ⟨m2, cM, q1, -, -, -, -, -, -, hsig⟩ := Cond.code_spec hn wc
  cases hm.symm.trans q1
  simp [Cond.before, Cond.holds, Cond.value, hn, hm, hst, hsig]
theorem own_same {y : MethodName} {n' d' K : String} (hi : (Jvm.Cond.instanceMethod y).before a0 Z = true) (hs : (Jvm.Cond.selects K ⟨y.cls, n', d'⟩ ⟨y.cls, n', d'⟩).before a0 Z = true) (hmh : y.cls ≠ "java/lang/invoke/MethodHandle" ∧ y.cls ≠ "java/lang/invoke/VarHandle") : (Jvm.Cond.sameMethod y.cls y.cls y.name y.desc).before a0 Z = true := by
  obtain ⟨mk, methM, hn, hm, hst, -⟩ := Cond.instanceMethod_spec hi
  obtain ⟨c2, r2, m2, q1, q2, q3, q4, kP, hkP, hkPi⟩ := Cond.selects_spec hs
  have hc := findClass_of_methodNamed hn
  have hc' := findClass_of_methodNamed q3
  have hf := State.methodFound?_of_named hn hmh
  have e : mk.cls = m2.cls := Option.some.inj (hc.symm.trans (show Z.vm.findClass y.cls = some m2.cls from hc'))
  have hk : Z.vm.classes[mk.cls]? = some kP := by rw [e]; exact hkP
  simp [Cond.before, Cond.holds, Cond.value, hn, hc, hf, hk, hkPi]
theorem own_nf {s : State} {args : Array Value} {y z : MethodName} {K : String} (hs : (Jvm.Cond.selects K z z).before args s = true) (hc : z.cls = y.cls) : NotFace s y := fun r0 h0 => by
  obtain ⟨c2, r2, m2, q1, q2, q3, q4, kP, hkP, hkPi⟩ := Cond.selects_spec hs
  have e1 := findClass_of_methodNamed h0
  have e2 := findClass_of_methodNamed q3
  rw [hc, e1] at e2
  refine ⟨kP, ?_, hkPi⟩
  rw [Option.some.inj e2]; exact hkP
theorem own_shr0 (n : Int32) : (n >>> ((0 : Int32) &&& 31)) = n := by
  rw [show ((0 : Int32) &&& 31) = 0 from by decide]; simp
theorem own_shl0 (n : Int32) : (n <<< ((0 : Int32) &&& 31)) = n := by
  rw [show ((0 : Int32) &&& 31) = 0 from by decide]; simp
theorem own_sub0 (n : Int32) : (n - (0 : Int32)) = n := by simp
theorem own_add0 (n : Int32) : ((0 : Int32) + n) = n := by simp
end OwnSel
theorem d13_0 : decode jdk_42_method_152_code 0 = .ok (.getstatic 38, 3) := by decide +kernel
theorem d13_3 : decode jdk_42_method_152_code 3 = .ok (.ifCond .eq 10, 3) := by decide +kernel
theorem d13_6 : decode jdk_42_method_152_code 6 = .ok (.aload_n 0, 1) := by decide +kernel
theorem d13_7 : decode jdk_42_method_152_code 7 = .ok (.getfield 15, 3) := by decide +kernel
theorem d13_10 : decode jdk_42_method_152_code 10 = .ok (.goto 4, 3) := by decide +kernel
theorem d13_14 : decode jdk_42_method_152_code 14 = .ok (.ireturn, 1) := by decide +kernel
theorem pn_java_lang_String : plainName "java/lang/String" = true := by first | (simp [plainName, overriddenIn]; done) | decide +kernel
theorem ef_coder (m : MethodId) (a : Addr) : entryFrame m #[(.ref a)] 1 = mkF m 0 #[.val (.ref a)] [] := by first | (simp [entryFrame, mkF, argsToLocals, Value.category]; done) | rfl
def Q_coder (Z : State) (zCS : Int32) (vFM : Value) (a : Addr) (h0 : Heap) (n0 : Nat) (vv_ : Option Value) (hh_ : Heap) (LL_ : List Loc) : Prop := vv_ = some (.int (0 : Int32)) ∧ (Fr n0 LL_) ∧ (hh_ = h0)
set_option maxRecDepth 65536 in
set_option maxHeartbeats 40000000 in
theorem coder (l : Launch) (Z : State) (a0 : Array Value) (hw : ∀ d ∈ tables_1, d.before a0 Z = true) (ws : List Jvm.Cond) (zCS : Int32) (vFM : Value) (a : Addr) (h0 : Heap) (n0 : Nat) (O0 : Old Z n0 h0) (S_CS : Sta Z Z.heap "java/lang/String" "COMPACT_STRINGS" "Z" (.int zCS)) (hCS : ¬ (zCS = (0 : Int32))) (hcT0 : Jvm.Lit.constHeld Z "com/example/relayout/relayout/plan/Transfer" 7) (hcT1 : Jvm.Lit.constHeld Z "com/example/relayout/relayout/plan/Transfer" 22) (hcT2 : Jvm.Lit.constHeld Z "com/example/relayout/relayout/plan/Transfer" 26) (hcT3 : Jvm.Lit.constHeld Z "com/example/relayout/relayout/plan/Transfer" 45) (hcT4 : Jvm.Lit.constHeld Z "com/example/relayout/relayout/plan/Transfer" 47) (hcH : Jvm.Lit.constHeld Z "java/lang/String" 7) (hcW : Jvm.Lit.compactW.before a0 Z = true) (S_FM : Sta Z Z.heap "jdk/internal/util/Preconditions" "SIOOBE_FORMATTER" "Ljava/util/function/BiFunction;" vFM) (rFM : vFM.isRef = true) (Ea : Exa Z h0 a "java/lang/String") (Fc : Fld Z h0 a "java/lang/String" "coder" "B" (.int (0 : Int32))) :
    MetFree l (⟨"java/lang/String", "coder", "()B"⟩ : MethodName) (head1 (Jvm.Cond.code (⟨"java/lang/String", "coder", "()B"⟩ : MethodName) jdk_42_method_152_code 1 (some .byte) :: ws) ({ frames := 0, cells := 0, slots := 0, locals := 0 } : Room)) (fun aa_ U_ => aa_ = #[(.ref a)] ∧ Z.Warmed39 U_.vm ∧ U_.heap = h0) (fun _ _ _ _ _ => True) (fun _ U_ oo_ V_ => ∃ vv_ LL_, oo_ = .returned vv_ ∧ Q_coder Z zCS vFM a h0 n0 vv_ V_.heap LL_ ∧ FrameEnd U_ oo_ V_ LL_ ({ frames := 0, cells := 0, slots := 0, locals := 0 } : Room).cells ({ frames := 0, cells := 0, slots := 0, locals := 0 } : Room).slots) := by
  refine MetFree.of_bodySF (plainFor_of_name pn_java_lang_String) hisR ?_
  intro p e s m args below meth c s₁ Bd hml0 hP hK
  obtain ⟨rfl, hZ, hh⟩ := hP
  have hx := Bd.exec
  have hby := Bd.bytes
  have hml : c.maxLocals = 1 := hml0
  have hown : s.vm.findClass "java/lang/String" = some m.cls := findClass_of_methodNamed Bd.named
  have hnm := (name_of_methodNamed Bd.named Bd.method).1
  have X0 : Stand p l e ({ frames := 0, cells := 0, slots := 0, locals := 0 } : Room) s m #[(.ref a)] below meth c s₁ [] 0 0 := Stand.of_body Bd
  have e0 : s₁.heap = h0 := by rw [← hh, Bd.state]; rfl
  have N0 := Fr.nil n0
  have Z0 : n0 ≤ h0.size := O0.1 ▸ O0.2.1
  have hk0 := Nat.zero_le h0.size
  have K0 : Keep h0 h0 [] := Keep.refl _ _
  have R0 : ∀ t, Steps p.tables e below (s₁.setTop (mkF m 0 #[.val (.ref a)] [])) t → Steps p.tables e below (s₁.setTop (entryFrame m #[(.ref a)] 1)) t := fun t k => castTop (ef_coder m a) k
  obtain ⟨T1, X1, e1, st1⟩ := getS2 X0 hx hZ hown (host := "") (Or.inl (hw _ (List.mem_of_getElem? (i := 90) rfl))) Via.refl e0 (S_CS.ext O0.2) (g := (mkF m 0 #[.val (.ref a)] [])) rfl (hb hby d13_0)
  obtain ⟨T2, X2, e2, st2⟩ := getF X1 hx hZ hown (host := "") (Or.inl (hw _ (List.mem_of_getElem? (i := 25) rfl))) Via.refl e1 Fc (g := (mkF m 7 #[.val (.ref a)] [(.ref a)])) rfl rfl (hb hby d13_7)
  have R3 : ∀ t, Steps p.tables e below (T2.setTop (mkF m 14 #[.val (.ref a)] [(.int (0 : Int32))])) t → Steps p.tables e below (s₁.setTop (entryFrame m #[(.ref a)] 1)) t := by
    intro t k
    refine R0 t ?_
    show Steps p.tables e below (s₁.setTop (mkF m 0 #[.val (.ref a)] [])) t
    refine st1 _ ?_
    show Steps p.tables e below (T1.setTop (mkF m 3 #[.val (.ref a)] [(.int zCS)])) t
    refine XS.ifNo X1.here hx rfl (hb hby d13_3) rfl ((if0 _ _).trans (feq (hCS : ¬ (zCS = (0 : Int32)))).1) ?_
    show Steps p.tables e below (T1.setTop (mkF m 6 #[.val (.ref a)] [])) t
    refine XS.aloadN X1.here hx rfl (hb hby d13_6) rfl rfl ?_
    show Steps p.tables e below (T1.setTop (mkF m 7 #[.val (.ref a)] [(.ref a)])) t
    refine st2 _ ?_
    show Steps p.tables e below (T2.setTop (mkF m 10 #[.val (.ref a)] [(.int (0 : Int32))])) t
    refine XS.goto X2.here hx rfl (pc0 := 10) (pc' := 14) rfl (hb hby d13_10) (by decide) (by decide) ?_
    exact k
  obtain ⟨fs, hr, hrun, hended, hW, hsame⟩ := X2.leave (v := some (.int (0 : Int32))) (fun h => by rw [Bd.returns] at h; cases h)
  refine ⟨_, _, R3 _ ?_, hrun, hended, _, _, rfl, ?_, ⟨_, rfl⟩, hW, hsame.mono (by decide) (by decide)⟩
  · show Steps p.tables e below (T2.setTop (mkF m 14 #[.val (.ref a)] [(.int (0 : Int32))])) _
    exact retN X2 hx (t := .byte) Bd.returns (by simp) (hb hby d13_14) hr
  · show Q_coder Z zCS vFM a h0 n0 _ T2.heap _
    rw [e2]
    exact ⟨rfl, N0, rfl⟩
theorem d12_0 : decode jdk_42_method_54_code 0 = .ok (.aload_n 0, 1) := by decide +kernel
theorem d12_1 : decode jdk_42_method_54_code 1 = .ok (.getfield 9, 3) := by decide +kernel
theorem d12_4 : decode jdk_42_method_54_code 4 = .ok (.arraylength, 1) := by decide +kernel
theorem d12_5 : decode jdk_42_method_54_code 5 = .ok (.aload_n 0, 1) := by decide +kernel
theorem pd_0 : parseMethodDescriptor "()B" = some ⟨[], some .byte⟩ := by decide +kernel
theorem d12_6 : decode jdk_42_method_54_code 6 = .ok (.invokevirtual 335, 3) := by decide +kernel
theorem d12_9 : decode jdk_42_method_54_code 9 = .ok (.ishr, 1) := by decide +kernel
theorem d12_10 : decode jdk_42_method_54_code 10 = .ok (.ireturn, 1) := by decide +kernel
theorem ef_slen (m : MethodId) (a : Addr) (tv : Addr) (kv : ClassId) (nn : Int32) (vs : List Value) : entryFrame m #[(.ref a)] 1 = mkF m 0 #[.val (.ref a)] [] := by first | (simp [entryFrame, mkF, argsToLocals, Value.category]; done) | rfl
def Q_slen (Z : State) (zCS : Int32) (vFM : Value) (a : Addr) (tv : Addr) (kv : ClassId) (nn : Int32) (vs : List Value) (h0 : Heap) (n0 : Nat) (vv_ : Option Value) (hh_ : Heap) (LL_ : List Loc) : Prop := vv_ = some (.int nn) ∧ (Fr n0 LL_) ∧ (hh_ = h0)
set_option maxRecDepth 65536 in
set_option maxHeartbeats 40000000 in
theorem slen (l : Launch) (Z : State) (a0 : Array Value) (hw : ∀ d ∈ tables_1, d.before a0 Z = true) (ws : List Jvm.Cond) (zCS : Int32) (vFM : Value) (a : Addr) (tv : Addr) (kv : ClassId) (nn : Int32) (vs : List Value) (h0 : Heap) (n0 : Nat) (O0 : Old Z n0 h0) (S_CS : Sta Z Z.heap "java/lang/String" "COMPACT_STRINGS" "Z" (.int zCS)) (hCS : ¬ (zCS = (0 : Int32))) (hcT0 : Jvm.Lit.constHeld Z "com/example/relayout/relayout/plan/Transfer" 7) (hcT1 : Jvm.Lit.constHeld Z "com/example/relayout/relayout/plan/Transfer" 22) (hcT2 : Jvm.Lit.constHeld Z "com/example/relayout/relayout/plan/Transfer" 26) (hcT3 : Jvm.Lit.constHeld Z "com/example/relayout/relayout/plan/Transfer" 45) (hcT4 : Jvm.Lit.constHeld Z "com/example/relayout/relayout/plan/Transfer" 47) (hcH : Jvm.Lit.constHeld Z "java/lang/String" 7) (hcW : Jvm.Lit.compactW.before a0 Z = true) (S_FM : Sta Z Z.heap "jdk/internal/util/Preconditions" "SIOOBE_FORMATTER" "Ljava/util/function/BiFunction;" vFM) (rFM : vFM.isRef = true) (Ea : Exa Z h0 a "java/lang/String") (Fc : Fld Z h0 a "java/lang/String" "coder" "B" (.int (0 : Int32))) (Fv : Fld Z h0 a "java/lang/String" "value" "[B" (.ref tv)) (Av : Arv Z h0 tv kv .byte nn vs (.int 0)) :
    MetFree l (⟨"java/lang/String", "length", "()I"⟩ : MethodName) (head1 (Jvm.Cond.code (⟨"java/lang/String", "length", "()I"⟩ : MethodName) jdk_42_method_54_code 1 (some .int) :: ws) ({ frames := 1, cells := 0, slots := 0, locals := 13 } : Room)) (fun aa_ U_ => aa_ = #[(.ref a)] ∧ Z.Warmed39 U_.vm ∧ U_.heap = h0) (fun _ _ _ _ _ => True) (fun _ U_ oo_ V_ => ∃ vv_ LL_, oo_ = .returned vv_ ∧ Q_slen Z zCS vFM a tv kv nn vs h0 n0 vv_ V_.heap LL_ ∧ FrameEnd U_ oo_ V_ LL_ ({ frames := 1, cells := 0, slots := 0, locals := 13 } : Room).cells ({ frames := 1, cells := 0, slots := 0, locals := 13 } : Room).slots) := by
  refine MetFree.of_bodySF (plainFor_of_name pn_java_lang_String) hisR ?_
  intro p e s m args below meth c s₁ Bd hml0 hP hK
  obtain ⟨rfl, hZ, hh⟩ := hP
  have hx := Bd.exec
  have hby := Bd.bytes
  have hml : c.maxLocals = 1 := hml0
  have hown : s.vm.findClass "java/lang/String" = some m.cls := findClass_of_methodNamed Bd.named
  have hnm := (name_of_methodNamed Bd.named Bd.method).1
  have X0 : Stand p l e ({ frames := 1, cells := 0, slots := 0, locals := 13 } : Room) s m #[(.ref a)] below meth c s₁ [] 0 0 := Stand.of_body Bd
  have e0 : s₁.heap = h0 := by rw [← hh, Bd.state]; rfl
  have N0 := Fr.nil n0
  have Z0 : n0 ≤ h0.size := O0.1 ▸ O0.2.1
  have hk0 := Nat.zero_le h0.size
  have K0 : Keep h0 h0 [] := Keep.refl _ _
  have R0 : ∀ t, Steps p.tables e below (s₁.setTop (mkF m 0 #[.val (.ref a)] [])) t → Steps p.tables e below (s₁.setTop (entryFrame m #[(.ref a)] 1)) t := fun t k => castTop (ef_slen m a tv kv nn vs) k
  obtain ⟨T1, X1, e1, st1⟩ := getF X0 hx hZ hown (host := "") (Or.inl (hw _ (List.mem_of_getElem? (i := 24) rfl))) Via.refl e0 Fv (g := (mkF m 1 #[.val (.ref a)] [(.ref a)])) rfl rfl (hb hby d12_1)
  obtain ⟨cl2, Ar2, -, S2, M2, -, -⟩ := id Av
  obtain ⟨cq3, kq3, q3a, q3b, q3c⟩ := isOf hZ e1 Ea
  obtain ⟨_, _, ⟨T3, L3, k3, n3⟩, -, X3, ⟨Lc3, hQ3, cl_3, cy_3, cz_3⟩, st3⟩ := X1.virtualBack hx (y := (⟨"java/lang/String", "coder", "()B"⟩ : MethodName)) (z := (⟨"java/lang/String", "coder", "()B"⟩ : MethodName)) hown (mvT hZ (hw _ (List.mem_of_getElem? (i := 85) rfl))) (mvT hZ (hw _ (List.mem_of_getElem? (i := 86) rfl))) (notFace_of_selects (args := #[]) (mvT hZ (hw _ (List.mem_of_getElem? (i := 88) rfl)))) (mvT hZ (hw _ (List.mem_of_getElem? (i := 88) rfl))) (mvT hZ (hw _ (List.mem_of_getElem? (i := 87) rfl))) (by decide) (backOf (W := 1) (coder l Z a0 hw [] zCS vFM a h0 n0 O0 S_CS hCS hcT0 hcT1 hcT2 hcT3 hcT4 hcH hcW S_FM rFM   Ea Fc) hZ (hw _ (List.mem_of_getElem? (i := 89) rfl)) (hw _ (List.mem_of_getElem? (i := 6) rfl)) (by decide) (by decide)) q3a q3c (g := (mkF m 6 #[.val (.ref a)] [(.ref a), (.int nn)])) rfl (by rw [hml]; rfl) (Steps.refl _) (argsL := []) (rest := [(.int nn)]) (lenOf pd_0 rfl) rfl (by show 2 * 0 + _ ≤ _; exact Nat.le_of_eq rfl) (hb hby d12_6) (fun _ _ => ⟨rfl, e1, (by decide : 0 + 0 ≤ _), (by decide : 0 + 0 ≤ _)⟩)
  dsimp only [Pt.U, Pt.locs, Pt.cells, Pt.slots] at X3 cl_3 cy_3 cz_3 st3 hQ3
  rw [cl_3, cy_3, cz_3] at X3
  obtain ⟨rfl, N3q, e3⟩ := hQ3
  have N3 := Fr.app N0 N3q
  have R4 : ∀ t, Steps p.tables e below (T3.setTop (mkF m 10 #[.val (.ref a)] [(.int (nn >>> ((0 : Int32) &&& 31)))])) t → Steps p.tables e below (s₁.setTop (entryFrame m #[(.ref a)] 1)) t := by
    intro t k
    refine R0 t ?_
    show Steps p.tables e below (s₁.setTop (mkF m 0 #[.val (.ref a)] [])) t
    refine XS.aloadN X0.here hx rfl (hb hby d12_0) rfl rfl ?_
    show Steps p.tables e below (s₁.setTop (mkF m 1 #[.val (.ref a)] [(.ref a)])) t
    refine st1 _ ?_
    show Steps p.tables e below (T1.setTop (mkF m 4 #[.val (.ref a)] [(.ref tv)])) t
    refine X1.arraylength hx (by rw [e1]; exact Ar2.1) (State.isArrayOf_alike hZ.alike Ar2.2.1) (g := (mkF m 4 #[.val (.ref a)] [(.ref tv)])) rfl rfl (hb hby d12_4) _ ?_
    rw [len_of S2 M2]
    show Steps p.tables e below (T1.setTop (mkF m 5 #[.val (.ref a)] [(.int nn)])) t
    refine XS.aloadN X1.here hx rfl (hb hby d12_5) rfl rfl ?_
    show Steps p.tables e below (T1.setTop (mkF m 6 #[.val (.ref a)] [(.ref a), (.int nn)])) t
    refine st3.trans ?_
    show Steps p.tables e below (T3.setTop (mkF m 9 #[.val (.ref a)] [(.int (0 : Int32)), (.int nn)])) t
    refine XS.ishr X3.here hx rfl (hb hby d12_9) rfl ?_
    exact k
  have R5 := R4
  rw [own_shr0 nn] at R5
  obtain ⟨fs, hr, hrun, hended, hW, hsame⟩ := X3.leave (v := some (.int nn)) (fun h => by rw [Bd.returns] at h; cases h)
  refine ⟨_, _, R5 _ ?_, hrun, hended, _, _, rfl, ?_, ⟨_, rfl⟩, hW, hsame.mono (by decide) (by decide)⟩
  · show Steps p.tables e below (T3.setTop (mkF m 10 #[.val (.ref a)] [(.int nn)])) _
    exact retOut X3 hx Bd.returns rfl (Or.inl ⟨rfl, Or.inl rfl, _, rfl⟩) (hb hby d12_10) hr
  · show Q_slen Z zCS vFM a tv kv nn vs h0 n0 _ T3.heap _
    rw [e3]
    exact ⟨rfl, N3, rfl⟩
theorem d14_0 : decode jdk_68_method_9_code 0 = .ok (.aload_n 0, 1) := by decide +kernel
theorem d14_1 : decode jdk_68_method_9_code 1 = .ok (.getfield 15, 3) := by decide +kernel
theorem d14_4 : decode jdk_68_method_9_code 4 = .ok (.arraylength, 1) := by decide +kernel
theorem d14_5 : decode jdk_68_method_9_code 5 = .ok (.aload_n 0, 1) := by decide +kernel
theorem d14_6 : decode jdk_68_method_9_code 6 = .ok (.getfield 22, 3) := by decide +kernel
theorem d14_9 : decode jdk_68_method_9_code 9 = .ok (.ishr, 1) := by decide +kernel
theorem d14_10 : decode jdk_68_method_9_code 10 = .ok (.istore_n 2, 1) := by decide +kernel
theorem d14_11 : decode jdk_68_method_9_code 11 = .ok (.iload_n 1, 1) := by decide +kernel
theorem d14_12 : decode jdk_68_method_9_code 12 = .ok (.iload_n 2, 1) := by decide +kernel
theorem d14_13 : decode jdk_68_method_9_code 13 = .ok (.isub, 1) := by decide +kernel
theorem d14_14 : decode jdk_68_method_9_code 14 = .ok (.ifCond .le 24, 3) := by decide +kernel
theorem d14_38 : decode jdk_68_method_9_code 38 = .ok (.return_, 1) := by decide +kernel
theorem pn_java_lang_AbstractStringBuilder : plainName "java/lang/AbstractStringBuilder" = true := by first | (simp [plainName, overriddenIn]; done) | decide +kernel
theorem ef_ens (m : MethodId) (sb : Addr) (td : Addr) (kd : ClassId) (zd : Int32) (vd : List Value) (mc : Int32) : entryFrame m #[(.ref sb), (.int mc)] 3 = mkF m 0 #[.val (.ref sb), .val (.int mc), .unset] [] := by first | (simp [entryFrame, mkF, argsToLocals, Value.category]; done) | rfl
def Q_ens (Z : State) (zCS : Int32) (vFM : Value) (sb : Addr) (td : Addr) (kd : ClassId) (zd : Int32) (vd : List Value) (mc : Int32) (h0 : Heap) (n0 : Nat) (vv_ : Option Value) (hh_ : Heap) (LL_ : List Loc) : Prop := vv_ = none ∧ (Fr n0 LL_) ∧ (hh_ = h0)
set_option maxRecDepth 65536 in
set_option maxHeartbeats 40000000 in
theorem ens (l : Launch) (Z : State) (a0 : Array Value) (hw : ∀ d ∈ tables_1, d.before a0 Z = true) (ws : List Jvm.Cond) (zCS : Int32) (vFM : Value) (sb : Addr) (td : Addr) (kd : ClassId) (zd : Int32) (vd : List Value) (mc : Int32) (h0 : Heap) (n0 : Nat) (O0 : Old Z n0 h0) (S_CS : Sta Z Z.heap "java/lang/String" "COMPACT_STRINGS" "Z" (.int zCS)) (hCS : ¬ (zCS = (0 : Int32))) (hcT0 : Jvm.Lit.constHeld Z "com/example/relayout/relayout/plan/Transfer" 7) (hcT1 : Jvm.Lit.constHeld Z "com/example/relayout/relayout/plan/Transfer" 22) (hcT2 : Jvm.Lit.constHeld Z "com/example/relayout/relayout/plan/Transfer" 26) (hcT3 : Jvm.Lit.constHeld Z "com/example/relayout/relayout/plan/Transfer" 45) (hcT4 : Jvm.Lit.constHeld Z "com/example/relayout/relayout/plan/Transfer" 47) (hcH : Jvm.Lit.constHeld Z "java/lang/String" 7) (hcW : Jvm.Lit.compactW.before a0 Z = true) (S_FM : Sta Z Z.heap "jdk/internal/util/Preconditions" "SIOOBE_FORMATTER" "Ljava/util/function/BiFunction;" vFM) (rFM : vFM.isRef = true) (Eb : Exa Z h0 sb "java/lang/StringBuilder") (Fbc : Fld Z h0 sb "java/lang/AbstractStringBuilder" "coder" "B" (.int (0 : Int32))) (Fbv : Fld Z h0 sb "java/lang/AbstractStringBuilder" "value" "[B" (.ref td)) (Ad : Arv Z h0 td kd .byte zd vd (.int 0)) (hle : ¬ ((0 : Int32) < (mc - zd))) :
    MetFree l (⟨"java/lang/AbstractStringBuilder", "ensureCapacityInternal", "(I)V"⟩ : MethodName) (head1 (Jvm.Cond.code (⟨"java/lang/AbstractStringBuilder", "ensureCapacityInternal", "(I)V"⟩ : MethodName) jdk_68_method_9_code 3 none :: ws) ({ frames := 0, cells := 0, slots := 0, locals := 0 } : Room)) (fun aa_ U_ => aa_ = #[(.ref sb), (.int mc)] ∧ Z.Warmed39 U_.vm ∧ U_.heap = h0) (fun _ _ _ _ _ => True) (fun _ U_ oo_ V_ => ∃ vv_ LL_, oo_ = .returned vv_ ∧ Q_ens Z zCS vFM sb td kd zd vd mc h0 n0 vv_ V_.heap LL_ ∧ FrameEnd U_ oo_ V_ LL_ ({ frames := 0, cells := 0, slots := 0, locals := 0 } : Room).cells ({ frames := 0, cells := 0, slots := 0, locals := 0 } : Room).slots) := by
  refine MetFree.of_bodySF (plainFor_of_name pn_java_lang_AbstractStringBuilder) hisR ?_
  intro p e s m args below meth c s₁ Bd hml0 hP hK
  obtain ⟨rfl, hZ, hh⟩ := hP
  have hx := Bd.exec
  have hby := Bd.bytes
  have hml : c.maxLocals = 3 := hml0
  have hown : s.vm.findClass "java/lang/AbstractStringBuilder" = some m.cls := findClass_of_methodNamed Bd.named
  have hnm := (name_of_methodNamed Bd.named Bd.method).1
  have X0 : Stand p l e ({ frames := 0, cells := 0, slots := 0, locals := 0 } : Room) s m #[(.ref sb), (.int mc)] below meth c s₁ [] 0 0 := Stand.of_body Bd
  have e0 : s₁.heap = h0 := by rw [← hh, Bd.state]; rfl
  have N0 := Fr.nil n0
  have Z0 : n0 ≤ h0.size := O0.1 ▸ O0.2.1
  have hk0 := Nat.zero_le h0.size
  have K0 : Keep h0 h0 [] := Keep.refl _ _
  have R0 : ∀ t, Steps p.tables e below (s₁.setTop (mkF m 0 #[.val (.ref sb), .val (.int mc), .unset] [])) t → Steps p.tables e below (s₁.setTop (entryFrame m #[(.ref sb), (.int mc)] 3)) t := fun t k => castTop (ef_ens m sb td kd zd vd mc) k
  obtain ⟨T1, X1, e1, st1⟩ := getF X0 hx hZ hown (host := "") (Or.inl (hw _ (List.mem_of_getElem? (i := 66) rfl))) Via.refl e0 Fbv (g := (mkF m 1 #[.val (.ref sb), .val (.int mc), .unset] [(.ref sb)])) rfl rfl (hb hby d14_1)
  obtain ⟨cl2, Ar2, -, S2, M2, -, -⟩ := id Ad
  obtain ⟨T3, X3, e3, st3⟩ := getF X1 hx hZ hown (host := "") (Or.inl (hw _ (List.mem_of_getElem? (i := 68) rfl))) Via.refl e1 Fbc (g := (mkF m 6 #[.val (.ref sb), .val (.int mc), .unset] [(.ref sb), (.int zd)])) rfl rfl (hb hby d14_6)
  have R4 : ∀ t, Steps p.tables e below (T3.setTop (mkF m 10 #[.val (.ref sb), .val (.int mc), .unset] [(.int (zd >>> ((0 : Int32) &&& 31)))])) t → Steps p.tables e below (s₁.setTop (entryFrame m #[(.ref sb), (.int mc)] 3)) t := by
    intro t k
    refine R0 t ?_
    show Steps p.tables e below (s₁.setTop (mkF m 0 #[.val (.ref sb), .val (.int mc), .unset] [])) t
    refine XS.aloadN X0.here hx rfl (hb hby d14_0) rfl rfl ?_
    show Steps p.tables e below (s₁.setTop (mkF m 1 #[.val (.ref sb), .val (.int mc), .unset] [(.ref sb)])) t
    refine st1 _ ?_
    show Steps p.tables e below (T1.setTop (mkF m 4 #[.val (.ref sb), .val (.int mc), .unset] [(.ref td)])) t
    refine X1.arraylength hx (by rw [e1]; exact Ar2.1) (State.isArrayOf_alike hZ.alike Ar2.2.1) (g := (mkF m 4 #[.val (.ref sb), .val (.int mc), .unset] [(.ref td)])) rfl rfl (hb hby d14_4) _ ?_
    rw [len_of S2 M2]
    show Steps p.tables e below (T1.setTop (mkF m 5 #[.val (.ref sb), .val (.int mc), .unset] [(.int zd)])) t
    refine XS.aloadN X1.here hx rfl (hb hby d14_5) rfl rfl ?_
    show Steps p.tables e below (T1.setTop (mkF m 6 #[.val (.ref sb), .val (.int mc), .unset] [(.ref sb), (.int zd)])) t
    refine st3 _ ?_
    show Steps p.tables e below (T3.setTop (mkF m 9 #[.val (.ref sb), .val (.int mc), .unset] [(.int (0 : Int32)), (.int zd)])) t
    refine XS.ishr X3.here hx rfl (hb hby d14_9) rfl ?_
    exact k
  have R5 := R4
  rw [own_shr0 zd] at R5
  have R6 : ∀ t, Steps p.tables e below (T3.setTop (mkF m 38 #[.val (.ref sb), .val (.int mc), .val (.int zd)] [])) t → Steps p.tables e below (s₁.setTop (entryFrame m #[(.ref sb), (.int mc)] 3)) t := by
    intro t k
    refine R5 t ?_
    show Steps p.tables e below (T3.setTop (mkF m 10 #[.val (.ref sb), .val (.int mc), .unset] [(.int zd)])) t
    refine XS.istoreN X3.here hx rfl (hb hby d14_10) rfl (l' := #[.val (.ref sb), .val (.int mc), .val (.int zd)]) rfl ?_
    show Steps p.tables e below (T3.setTop (mkF m 11 #[.val (.ref sb), .val (.int mc), .val (.int zd)] [])) t
    refine XS.iloadN X3.here hx rfl (hb hby d14_11) rfl ?_
    show Steps p.tables e below (T3.setTop (mkF m 12 #[.val (.ref sb), .val (.int mc), .val (.int zd)] [(.int mc)])) t
    refine XS.iloadN X3.here hx rfl (hb hby d14_12) rfl ?_
    show Steps p.tables e below (T3.setTop (mkF m 13 #[.val (.ref sb), .val (.int mc), .val (.int zd)] [(.int zd), (.int mc)])) t
    refine XS.isub X3.here hx rfl (hb hby d14_13) rfl ?_
    show Steps p.tables e below (T3.setTop (mkF m 14 #[.val (.ref sb), .val (.int mc), .val (.int zd)] [(.int (mc - zd))])) t
    refine XS.ifYes X3.here hx rfl (pc0 := 14) (pc' := 38) rfl (hb hby d14_14) rfl ((if0 _ _).trans (flt (hle : ¬ ((0 : Int32) < (mc - zd)))).2.2.2) (by decide) (by decide) ?_
    exact k
  obtain ⟨fs, hr, hrun, hended, hW, hsame⟩ := X3.leave (v := none) (fun _ => rfl)
  refine ⟨_, _, R6 _ ?_, hrun, hended, _, _, rfl, ?_, ⟨_, rfl⟩, hW, hsame.mono (by decide) (by decide)⟩
  · show Steps p.tables e below (T3.setTop (mkF m 38 #[.val (.ref sb), .val (.int mc), .val (.int zd)] [])) _
    exact X3.returnOut hx Bd.returns (hb hby d14_38) hr
  · show Q_ens Z zCS vFM sb td kd zd vd mc h0 n0 _ T3.heap _
    rw [e3]
    exact ⟨rfl, N0, rfl⟩
theorem d16_0 : decode jdk_68_method_71_code 0 = .ok (.getstatic 18, 3) := by decide +kernel
theorem d16_3 : decode jdk_68_method_71_code 3 = .ok (.ifCond .eq 18, 3) := by decide +kernel
theorem d16_6 : decode jdk_68_method_71_code 6 = .ok (.aload_n 0, 1) := by decide +kernel
theorem d16_7 : decode jdk_68_method_71_code 7 = .ok (.getfield 22, 3) := by decide +kernel
theorem d16_10 : decode jdk_68_method_71_code 10 = .ok (.aload_n 1, 1) := by decide +kernel
theorem d16_11 : decode jdk_68_method_71_code 11 = .ok (.invokevirtual 40, 3) := by decide +kernel
theorem d16_14 : decode jdk_68_method_71_code 14 = .ok (.if_icmp .eq 7, 3) := by decide +kernel
theorem d16_21 : decode jdk_68_method_71_code 21 = .ok (.return_, 1) := by decide +kernel
theorem ef_infl (m : MethodId) (sb : Addr) (a : Addr) : entryFrame m #[(.ref sb), (.ref a)] 2 = mkF m 0 #[.val (.ref sb), .val (.ref a)] [] := by first | (simp [entryFrame, mkF, argsToLocals, Value.category]; done) | rfl
def Q_infl (Z : State) (zCS : Int32) (vFM : Value) (sb : Addr) (a : Addr) (h0 : Heap) (n0 : Nat) (vv_ : Option Value) (hh_ : Heap) (LL_ : List Loc) : Prop := vv_ = none ∧ (Fr n0 LL_) ∧ (hh_ = h0)
set_option maxRecDepth 65536 in
set_option maxHeartbeats 40000000 in
theorem infl (l : Launch) (Z : State) (a0 : Array Value) (hw : ∀ d ∈ tables_1, d.before a0 Z = true) (ws : List Jvm.Cond) (zCS : Int32) (vFM : Value) (sb : Addr) (a : Addr) (h0 : Heap) (n0 : Nat) (O0 : Old Z n0 h0) (S_CS : Sta Z Z.heap "java/lang/String" "COMPACT_STRINGS" "Z" (.int zCS)) (hCS : ¬ (zCS = (0 : Int32))) (hcT0 : Jvm.Lit.constHeld Z "com/example/relayout/relayout/plan/Transfer" 7) (hcT1 : Jvm.Lit.constHeld Z "com/example/relayout/relayout/plan/Transfer" 22) (hcT2 : Jvm.Lit.constHeld Z "com/example/relayout/relayout/plan/Transfer" 26) (hcT3 : Jvm.Lit.constHeld Z "com/example/relayout/relayout/plan/Transfer" 45) (hcT4 : Jvm.Lit.constHeld Z "com/example/relayout/relayout/plan/Transfer" 47) (hcH : Jvm.Lit.constHeld Z "java/lang/String" 7) (hcW : Jvm.Lit.compactW.before a0 Z = true) (S_FM : Sta Z Z.heap "jdk/internal/util/Preconditions" "SIOOBE_FORMATTER" "Ljava/util/function/BiFunction;" vFM) (rFM : vFM.isRef = true) (Eb : Exa Z h0 sb "java/lang/StringBuilder") (Fbc : Fld Z h0 sb "java/lang/AbstractStringBuilder" "coder" "B" (.int (0 : Int32))) (Ea : Exa Z h0 a "java/lang/String") (Fc : Fld Z h0 a "java/lang/String" "coder" "B" (.int (0 : Int32))) :
    MetFree l (⟨"java/lang/AbstractStringBuilder", "inflateIfNeededFor", "(Ljava/lang/String;)V"⟩ : MethodName) (head1 (Jvm.Cond.code (⟨"java/lang/AbstractStringBuilder", "inflateIfNeededFor", "(Ljava/lang/String;)V"⟩ : MethodName) jdk_68_method_71_code 2 none :: ws) ({ frames := 1, cells := 0, slots := 0, locals := 13 } : Room)) (fun aa_ U_ => aa_ = #[(.ref sb), (.ref a)] ∧ Z.Warmed39 U_.vm ∧ U_.heap = h0) (fun _ _ _ _ _ => True) (fun _ U_ oo_ V_ => ∃ vv_ LL_, oo_ = .returned vv_ ∧ Q_infl Z zCS vFM sb a h0 n0 vv_ V_.heap LL_ ∧ FrameEnd U_ oo_ V_ LL_ ({ frames := 1, cells := 0, slots := 0, locals := 13 } : Room).cells ({ frames := 1, cells := 0, slots := 0, locals := 13 } : Room).slots) := by
  refine MetFree.of_bodySF (plainFor_of_name pn_java_lang_AbstractStringBuilder) hisR ?_
  intro p e s m args below meth c s₁ Bd hml0 hP hK
  obtain ⟨rfl, hZ, hh⟩ := hP
  have hx := Bd.exec
  have hby := Bd.bytes
  have hml : c.maxLocals = 2 := hml0
  have hown : s.vm.findClass "java/lang/AbstractStringBuilder" = some m.cls := findClass_of_methodNamed Bd.named
  have hnm := (name_of_methodNamed Bd.named Bd.method).1
  have X0 : Stand p l e ({ frames := 1, cells := 0, slots := 0, locals := 13 } : Room) s m #[(.ref sb), (.ref a)] below meth c s₁ [] 0 0 := Stand.of_body Bd
  have e0 : s₁.heap = h0 := by rw [← hh, Bd.state]; rfl
  have N0 := Fr.nil n0
  have Z0 : n0 ≤ h0.size := O0.1 ▸ O0.2.1
  have hk0 := Nat.zero_le h0.size
  have K0 : Keep h0 h0 [] := Keep.refl _ _
  have R0 : ∀ t, Steps p.tables e below (s₁.setTop (mkF m 0 #[.val (.ref sb), .val (.ref a)] [])) t → Steps p.tables e below (s₁.setTop (entryFrame m #[(.ref sb), (.ref a)] 2)) t := fun t k => castTop (ef_infl m sb a) k
  obtain ⟨T1, X1, e1, st1⟩ := getS2 X0 hx hZ hown (host := "") (Or.inl (hw _ (List.mem_of_getElem? (i := 65) rfl))) Via.refl e0 (S_CS.ext O0.2) (g := (mkF m 0 #[.val (.ref sb), .val (.ref a)] [])) rfl (hb hby d16_0)
  obtain ⟨T2, X2, e2, st2⟩ := getF X1 hx hZ hown (host := "") (Or.inl (hw _ (List.mem_of_getElem? (i := 68) rfl))) Via.refl e1 Fbc (g := (mkF m 7 #[.val (.ref sb), .val (.ref a)] [(.ref sb)])) rfl rfl (hb hby d16_7)
  obtain ⟨cq3, kq3, q3a, q3b, q3c⟩ := isOf hZ e2 Ea
  obtain ⟨_, _, ⟨T3, L3, k3, n3⟩, -, X3, ⟨Lc3, hQ3, cl_3, cy_3, cz_3⟩, st3⟩ := X2.virtualBack hx (y := (⟨"java/lang/String", "coder", "()B"⟩ : MethodName)) (z := (⟨"java/lang/String", "coder", "()B"⟩ : MethodName)) hown (mvT hZ (hw _ (List.mem_of_getElem? (i := 108) rfl))) (mvT hZ (hw _ (List.mem_of_getElem? (i := 86) rfl))) (notFace_of_selects (args := #[]) (mvT hZ (hw _ (List.mem_of_getElem? (i := 88) rfl)))) (mvT hZ (hw _ (List.mem_of_getElem? (i := 88) rfl))) (mvT hZ (hw _ (List.mem_of_getElem? (i := 87) rfl))) (by decide) (backOf (W := 1) (coder l Z a0 hw [] zCS vFM a h0 n0 O0 S_CS hCS hcT0 hcT1 hcT2 hcT3 hcT4 hcH hcW S_FM rFM   Ea Fc) hZ (hw _ (List.mem_of_getElem? (i := 89) rfl)) (hw _ (List.mem_of_getElem? (i := 6) rfl)) (by decide) (by decide)) q3a q3c (g := (mkF m 11 #[.val (.ref sb), .val (.ref a)] [(.ref a), (.int (0 : Int32))])) rfl (by rw [hml]; rfl) (Steps.refl _) (argsL := []) (rest := [(.int (0 : Int32))]) (lenOf pd_0 rfl) rfl (by show 2 * 0 + _ ≤ _; exact Nat.le_of_eq rfl) (hb hby d16_11) (fun _ _ => ⟨rfl, e2, (by decide : 0 + 0 ≤ _), (by decide : 0 + 0 ≤ _)⟩)
  dsimp only [Pt.U, Pt.locs, Pt.cells, Pt.slots] at X3 cl_3 cy_3 cz_3 st3 hQ3
  rw [cl_3, cy_3, cz_3] at X3
  obtain ⟨rfl, N3q, e3⟩ := hQ3
  have N3 := Fr.app N0 N3q
  have R4 : ∀ t, Steps p.tables e below (T3.setTop (mkF m 21 #[.val (.ref sb), .val (.ref a)] [])) t → Steps p.tables e below (s₁.setTop (entryFrame m #[(.ref sb), (.ref a)] 2)) t := by
    intro t k
    refine R0 t ?_
    show Steps p.tables e below (s₁.setTop (mkF m 0 #[.val (.ref sb), .val (.ref a)] [])) t
    refine st1 _ ?_
    show Steps p.tables e below (T1.setTop (mkF m 3 #[.val (.ref sb), .val (.ref a)] [(.int zCS)])) t
    refine XS.ifNo X1.here hx rfl (hb hby d16_3) rfl ((if0 _ _).trans (feq (hCS : ¬ (zCS = (0 : Int32)))).1) ?_
    show Steps p.tables e below (T1.setTop (mkF m 6 #[.val (.ref sb), .val (.ref a)] [])) t
    refine XS.aloadN X1.here hx rfl (hb hby d16_6) rfl rfl ?_
    show Steps p.tables e below (T1.setTop (mkF m 7 #[.val (.ref sb), .val (.ref a)] [(.ref sb)])) t
    refine st2 _ ?_
    show Steps p.tables e below (T2.setTop (mkF m 10 #[.val (.ref sb), .val (.ref a)] [(.int (0 : Int32))])) t
    refine XS.aloadN X2.here hx rfl (hb hby d16_10) rfl rfl ?_
    show Steps p.tables e below (T2.setTop (mkF m 11 #[.val (.ref sb), .val (.ref a)] [(.ref a), (.int (0 : Int32))])) t
    refine st3.trans ?_
    show Steps p.tables e below (T3.setTop (mkF m 14 #[.val (.ref sb), .val (.ref a)] [(.int (0 : Int32)), (.int (0 : Int32))])) t
    refine XS.icmpYes X3.here hx rfl (pc0 := 14) (pc' := 21) rfl (hb hby d16_14) rfl (teq ((by decide) : (0 : Int32) = (0 : Int32))).1 (by decide) (by decide) ?_
    exact k
  obtain ⟨fs, hr, hrun, hended, hW, hsame⟩ := X3.leave (v := none) (fun _ => rfl)
  refine ⟨_, _, R4 _ ?_, hrun, hended, _, _, rfl, ?_, ⟨_, rfl⟩, hW, hsame.mono (by decide) (by decide)⟩
  · show Steps p.tables e below (T3.setTop (mkF m 21 #[.val (.ref sb), .val (.ref a)] [])) _
    exact X3.returnOut hx Bd.returns (hb hby d16_21) hr
  · show Q_infl Z zCS vFM sb a h0 n0 _ T3.heap _
    rw [e3]
    exact ⟨rfl, N3, rfl⟩
theorem d17_0 : decode jdk_42_method_147_code 0 = .ok (.aload_n 0, 1) := by decide +kernel
theorem d17_1 : decode jdk_42_method_147_code 1 = .ok (.invokevirtual 335, 3) := by decide +kernel
theorem d17_4 : decode jdk_42_method_147_code 4 = .ok (.iload_n 3, 1) := by decide +kernel
theorem d17_5 : decode jdk_42_method_147_code 5 = .ok (.if_icmp .ne 23, 3) := by decide +kernel
theorem d17_8 : decode jdk_42_method_147_code 8 = .ok (.aload_n 0, 1) := by decide +kernel
theorem d17_9 : decode jdk_42_method_147_code 9 = .ok (.getfield 9, 3) := by decide +kernel
theorem d17_12 : decode jdk_42_method_147_code 12 = .ok (.iconst 0, 1) := by decide +kernel
theorem d17_13 : decode jdk_42_method_147_code 13 = .ok (.aload_n 1, 1) := by decide +kernel
theorem d17_14 : decode jdk_42_method_147_code 14 = .ok (.iload_n 2, 1) := by decide +kernel
theorem d17_15 : decode jdk_42_method_147_code 15 = .ok (.iload_n 3, 1) := by decide +kernel
theorem d17_16 : decode jdk_42_method_147_code 16 = .ok (.ishl, 1) := by decide +kernel
theorem d17_17 : decode jdk_42_method_147_code 17 = .ok (.aload_n 0, 1) := by decide +kernel
theorem d17_18 : decode jdk_42_method_147_code 18 = .ok (.getfield 9, 3) := by decide +kernel
theorem d17_21 : decode jdk_42_method_147_code 21 = .ok (.arraylength, 1) := by decide +kernel
theorem d17_22 : decode jdk_42_method_147_code 22 = .ok (.invokestatic 212, 3) := by decide +kernel
theorem d17_25 : decode jdk_42_method_147_code 25 = .ok (.goto 18, 3) := by decide +kernel
theorem d17_43 : decode jdk_42_method_147_code 43 = .ok (.return_, 1) := by decide +kernel
theorem ef_getb (m : MethodId) (a : Addr) (tv : Addr) (kv : ClassId) (nn : Int32) (vs : List Value) (td : Addr) (kd : ClassId) (zd : Int32) (vd : List Value) (dp : Int32) (ns : List Value) : entryFrame m #[(.ref a), (.ref td), (.int dp), (.int (0 : Int32))] 4 = mkF m 0 #[.val (.ref a), .val (.ref td), .val (.int dp), .val (.int (0 : Int32))] [] := by first | (simp [entryFrame, mkF, argsToLocals, Value.category]; done) | rfl
def Q_getb (Z : State) (zCS : Int32) (vFM : Value) (a : Addr) (tv : Addr) (kv : ClassId) (nn : Int32) (vs : List Value) (td : Addr) (kd : ClassId) (zd : Int32) (vd : List Value) (dp : Int32) (ns : List Value) (h0 : Heap) (n0 : Nat) (vv_ : Option Value) (hh_ : Heap) (LL_ : List Loc) : Prop := vv_ = none ∧ (Fr n0 LL_) ∧ (Keep h0 hh_ [td]) ∧ (Arv Z hh_ td kd .byte zd ns (.int 0))
set_option maxRecDepth 65536 in
set_option maxHeartbeats 40000000 in
theorem getb (l : Launch) (Z : State) (a0 : Array Value) (hw : ∀ d ∈ tables_1, d.before a0 Z = true) (ws : List Jvm.Cond) (zCS : Int32) (vFM : Value) (a : Addr) (tv : Addr) (kv : ClassId) (nn : Int32) (vs : List Value) (td : Addr) (kd : ClassId) (zd : Int32) (vd : List Value) (dp : Int32) (ns : List Value) (h0 : Heap) (n0 : Nat) (O0 : Old Z n0 h0) (S_CS : Sta Z Z.heap "java/lang/String" "COMPACT_STRINGS" "Z" (.int zCS)) (hCS : ¬ (zCS = (0 : Int32))) (hcT0 : Jvm.Lit.constHeld Z "com/example/relayout/relayout/plan/Transfer" 7) (hcT1 : Jvm.Lit.constHeld Z "com/example/relayout/relayout/plan/Transfer" 22) (hcT2 : Jvm.Lit.constHeld Z "com/example/relayout/relayout/plan/Transfer" 26) (hcT3 : Jvm.Lit.constHeld Z "com/example/relayout/relayout/plan/Transfer" 45) (hcT4 : Jvm.Lit.constHeld Z "com/example/relayout/relayout/plan/Transfer" 47) (hcH : Jvm.Lit.constHeld Z "java/lang/String" 7) (hcW : Jvm.Lit.compactW.before a0 Z = true) (S_FM : Sta Z Z.heap "jdk/internal/util/Preconditions" "SIOOBE_FORMATTER" "Ljava/util/function/BiFunction;" vFM) (rFM : vFM.isRef = true) (g_td : n0 ≤ td) (Ea : Exa Z h0 a "java/lang/String") (Fc : Fld Z h0 a "java/lang/String" "coder" "B" (.int (0 : Int32))) (Fv : Fld Z h0 a "java/lang/String" "value" "[B" (.ref tv)) (Av : Arv Z h0 tv kv .byte nn vs (.int 0)) (Ad : Arv Z h0 td kd .byte zd vd (.int 0)) (hd0 : ¬ (dp < (0 : Int32))) (hn0 : ¬ (nn < (0 : Int32))) (hb5 : dp.toNatClampNeg + nn.toNatClampNeg ≤ zd.toNatClampNeg) (hbl : dp.toNatClampNeg + nn.toNatClampNeg ≤ vd.length) (hns : (List.take dp.toNatClampNeg vd ++ (List.map (fun i => List.getD vs ((0 : Int32).toNatClampNeg + i) (.int 0)) (List.range nn.toNatClampNeg)) ++ List.drop (dp.toNatClampNeg + nn.toNatClampNeg) vd) = ns) :
    MetFree l (⟨"java/lang/String", "getBytes", "([BIB)V"⟩ : MethodName) (head1 (Jvm.Cond.code (⟨"java/lang/String", "getBytes", "([BIB)V"⟩ : MethodName) jdk_42_method_147_code 4 none :: ws) ({ frames := 1, cells := 0, slots := 0, locals := 18 } : Room)) (fun aa_ U_ => aa_ = #[(.ref a), (.ref td), (.int dp), (.int (0 : Int32))] ∧ Z.Warmed39 U_.vm ∧ U_.heap = h0) (fun _ _ _ _ _ => True) (fun _ U_ oo_ V_ => ∃ vv_ LL_, oo_ = .returned vv_ ∧ Q_getb Z zCS vFM a tv kv nn vs td kd zd vd dp ns h0 n0 vv_ V_.heap LL_ ∧ FrameEnd U_ oo_ V_ LL_ ({ frames := 1, cells := 0, slots := 0, locals := 18 } : Room).cells ({ frames := 1, cells := 0, slots := 0, locals := 18 } : Room).slots) := by
  refine MetFree.of_bodySF (plainFor_of_name pn_java_lang_String) hisR ?_
  intro p e s m args below meth c s₁ Bd hml0 hP hK
  obtain ⟨rfl, hZ, hh⟩ := hP
  have hx := Bd.exec
  have hby := Bd.bytes
  have hml : c.maxLocals = 4 := hml0
  have hown : s.vm.findClass "java/lang/String" = some m.cls := findClass_of_methodNamed Bd.named
  have hnm := (name_of_methodNamed Bd.named Bd.method).1
  have X0 : Stand p l e ({ frames := 1, cells := 0, slots := 0, locals := 18 } : Room) s m #[(.ref a), (.ref td), (.int dp), (.int (0 : Int32))] below meth c s₁ [] 0 0 := Stand.of_body Bd
  have e0 : s₁.heap = h0 := by rw [← hh, Bd.state]; rfl
  have N0 := Fr.nil n0
  have Z0 : n0 ≤ h0.size := O0.1 ▸ O0.2.1
  have hk0 := Nat.zero_le h0.size
  have K0 : Keep h0 h0 [td] := Keep.refl _ _
  have R0 : ∀ t, Steps p.tables e below (s₁.setTop (mkF m 0 #[.val (.ref a), .val (.ref td), .val (.int dp), .val (.int (0 : Int32))] [])) t → Steps p.tables e below (s₁.setTop (entryFrame m #[(.ref a), (.ref td), (.int dp), (.int (0 : Int32))] 4)) t := fun t k => castTop (ef_getb m a tv kv nn vs td kd zd vd dp ns) k
  obtain ⟨cq1, kq1, q1a, q1b, q1c⟩ := isOf hZ e0 Ea
  obtain ⟨_, _, ⟨T1, L1, k1, n1⟩, -, X1, ⟨Lc1, hQ1, cl_1, cy_1, cz_1⟩, st1⟩ := X0.virtualBack hx (y := (⟨"java/lang/String", "coder", "()B"⟩ : MethodName)) (z := (⟨"java/lang/String", "coder", "()B"⟩ : MethodName)) hown (mvT hZ (hw _ (List.mem_of_getElem? (i := 85) rfl))) (mvT hZ (hw _ (List.mem_of_getElem? (i := 86) rfl))) (notFace_of_selects (args := #[]) (mvT hZ (hw _ (List.mem_of_getElem? (i := 88) rfl)))) (mvT hZ (hw _ (List.mem_of_getElem? (i := 88) rfl))) (mvT hZ (hw _ (List.mem_of_getElem? (i := 87) rfl))) (by decide) (backOf (W := 0) (coder l Z a0 hw [] zCS vFM a h0 n0 O0 S_CS hCS hcT0 hcT1 hcT2 hcT3 hcT4 hcH hcW S_FM rFM   Ea Fc) hZ (hw _ (List.mem_of_getElem? (i := 89) rfl)) (hw _ (List.mem_of_getElem? (i := 6) rfl)) (by decide) (by decide)) q1a q1c (g := (mkF m 1 #[.val (.ref a), .val (.ref td), .val (.int dp), .val (.int (0 : Int32))] [(.ref a)])) rfl (by rw [hml]; rfl) (Steps.refl _) (argsL := []) (rest := []) (lenOf pd_0 rfl) rfl (by show 2 * 0 + _ ≤ _; exact Nat.le_of_eq rfl) (hb hby d17_1) (fun _ _ => ⟨rfl, e0, (by decide : 0 + 0 ≤ _), (by decide : 0 + 0 ≤ _)⟩)
  dsimp only [Pt.U, Pt.locs, Pt.cells, Pt.slots] at X1 cl_1 cy_1 cz_1 st1 hQ1
  rw [cl_1, cy_1, cz_1] at X1
  obtain ⟨rfl, N1q, e1⟩ := hQ1
  have N1 := Fr.app N0 N1q
  obtain ⟨T2, X2, e2, st2⟩ := getF X1 hx hZ hown (host := "") (Or.inl (hw _ (List.mem_of_getElem? (i := 24) rfl))) Via.refl e1 Fv (g := (mkF m 9 #[.val (.ref a), .val (.ref td), .val (.int dp), .val (.int (0 : Int32))] [(.ref a)])) rfl rfl (hb hby d17_9)
  have R3 : ∀ t, Steps p.tables e below (T2.setTop (mkF m 17 #[.val (.ref a), .val (.ref td), .val (.int dp), .val (.int (0 : Int32))] [(.int (dp <<< ((0 : Int32) &&& 31))), (.ref td), (.int (0 : Int32)), (.ref tv)])) t → Steps p.tables e below (s₁.setTop (entryFrame m #[(.ref a), (.ref td), (.int dp), (.int (0 : Int32))] 4)) t := by
    intro t k
    refine R0 t ?_
    show Steps p.tables e below (s₁.setTop (mkF m 0 #[.val (.ref a), .val (.ref td), .val (.int dp), .val (.int (0 : Int32))] [])) t
    refine XS.aloadN X0.here hx rfl (hb hby d17_0) rfl rfl ?_
    show Steps p.tables e below (s₁.setTop (mkF m 1 #[.val (.ref a), .val (.ref td), .val (.int dp), .val (.int (0 : Int32))] [(.ref a)])) t
    refine st1.trans ?_
    show Steps p.tables e below (T1.setTop (mkF m 4 #[.val (.ref a), .val (.ref td), .val (.int dp), .val (.int (0 : Int32))] [(.int (0 : Int32))])) t
    refine XS.iloadN X1.here hx rfl (hb hby d17_4) rfl ?_
    show Steps p.tables e below (T1.setTop (mkF m 5 #[.val (.ref a), .val (.ref td), .val (.int dp), .val (.int (0 : Int32))] [(.int (0 : Int32)), (.int (0 : Int32))])) t
    refine XS.icmpNo X1.here hx rfl (hb hby d17_5) rfl (teq ((by decide) : (0 : Int32) = (0 : Int32))).2 ?_
    show Steps p.tables e below (T1.setTop (mkF m 8 #[.val (.ref a), .val (.ref td), .val (.int dp), .val (.int (0 : Int32))] [])) t
    refine XS.aloadN X1.here hx rfl (hb hby d17_8) rfl rfl ?_
    show Steps p.tables e below (T1.setTop (mkF m 9 #[.val (.ref a), .val (.ref td), .val (.int dp), .val (.int (0 : Int32))] [(.ref a)])) t
    refine st2 _ ?_
    show Steps p.tables e below (T2.setTop (mkF m 12 #[.val (.ref a), .val (.ref td), .val (.int dp), .val (.int (0 : Int32))] [(.ref tv)])) t
    refine XS.iconst X2.here hx rfl (hb hby d17_12) ?_
    show Steps p.tables e below (T2.setTop (mkF m 13 #[.val (.ref a), .val (.ref td), .val (.int dp), .val (.int (0 : Int32))] [(.int (0 : Int32)), (.ref tv)])) t
    refine XS.aloadN X2.here hx rfl (hb hby d17_13) rfl rfl ?_
    show Steps p.tables e below (T2.setTop (mkF m 14 #[.val (.ref a), .val (.ref td), .val (.int dp), .val (.int (0 : Int32))] [(.ref td), (.int (0 : Int32)), (.ref tv)])) t
    refine XS.iloadN X2.here hx rfl (hb hby d17_14) rfl ?_
    show Steps p.tables e below (T2.setTop (mkF m 15 #[.val (.ref a), .val (.ref td), .val (.int dp), .val (.int (0 : Int32))] [(.int dp), (.ref td), (.int (0 : Int32)), (.ref tv)])) t
    refine XS.iloadN X2.here hx rfl (hb hby d17_15) rfl ?_
    show Steps p.tables e below (T2.setTop (mkF m 16 #[.val (.ref a), .val (.ref td), .val (.int dp), .val (.int (0 : Int32))] [(.int (0 : Int32)), (.int dp), (.ref td), (.int (0 : Int32)), (.ref tv)])) t
    refine XS.ishl X2.here hx rfl (hb hby d17_16) rfl ?_
    exact k
  have R4 := R3
  rw [own_shl0 dp] at R4
  obtain ⟨T5, X5, e5, st5⟩ := getF X2 hx hZ hown (host := "") (Or.inl (hw _ (List.mem_of_getElem? (i := 24) rfl))) Via.refl e2 Fv (g := (mkF m 18 #[.val (.ref a), .val (.ref td), .val (.int dp), .val (.int (0 : Int32))] [(.ref a), (.int dp), (.ref td), (.int (0 : Int32)), (.ref tv)])) rfl rfl (hb hby d17_18)
  obtain ⟨cl6, Ar6, -, S6, M6, -, -⟩ := id Av
  obtain ⟨T7, h7, L7, X7, e7, N7, K7q, A7, st7⟩ := cpA X5 hx hZ hown (hw _ (List.mem_of_getElem? (i := 114) rfl)) (hw _ (List.mem_of_getElem? (i := 117) rfl)) (hw _ (List.mem_of_getElem? (i := 115) rfl)) (hw _ (List.mem_of_getElem? (i := 116) rfl)) e5 Av Ad (sp := (0 : Int32)) (dp := dp) (nn := nn) (Or.inl ⟨rfl, rfl⟩) (by decide) hd0 hn0 (by simp) hb5 rfl hbl N1 g_td (g := (mkF m 22 #[.val (.ref a), .val (.ref td), .val (.int dp), .val (.int (0 : Int32))] [(.int nn), (.int dp), (.ref td), (.int (0 : Int32)), (.ref tv)])) rfl (by rw [hml]; rfl) rfl (hb hby d17_22) (by decide) (W := 0) (by show 2 * 0 + _ ≤ _; exact Nat.le_of_eq rfl) (by decide)
  have ne_a_td : a ≠ td := Ea.neArv Ad (hw _ (List.mem_of_getElem? (i := 5) rfl))
  have Z7 : n0 ≤ h7.size := Nat.le_trans Z0 K7q.1
  have K7 : Keep h0 h7 [td] := K0.trans K7q (allS (Or.inl (List.mem_of_getElem? (i := 0) rfl)) all0)
  have O7 : Old Z n0 h7 := O0.keep K7q (allS g_td all0)
  have V7 : Arv Z h7 td kd .byte zd ns (.int 0) := hns ▸ A7
  have R8 : ∀ t, Steps p.tables e below (T7.setTop (mkF m 43 #[.val (.ref a), .val (.ref td), .val (.int dp), .val (.int (0 : Int32))] [])) t → Steps p.tables e below (s₁.setTop (entryFrame m #[(.ref a), (.ref td), (.int dp), (.int (0 : Int32))] 4)) t := by
    intro t k
    refine R4 t ?_
    show Steps p.tables e below (T2.setTop (mkF m 17 #[.val (.ref a), .val (.ref td), .val (.int dp), .val (.int (0 : Int32))] [(.int dp), (.ref td), (.int (0 : Int32)), (.ref tv)])) t
    refine XS.aloadN X2.here hx rfl (hb hby d17_17) rfl rfl ?_
    show Steps p.tables e below (T2.setTop (mkF m 18 #[.val (.ref a), .val (.ref td), .val (.int dp), .val (.int (0 : Int32))] [(.ref a), (.int dp), (.ref td), (.int (0 : Int32)), (.ref tv)])) t
    refine st5 _ ?_
    show Steps p.tables e below (T5.setTop (mkF m 21 #[.val (.ref a), .val (.ref td), .val (.int dp), .val (.int (0 : Int32))] [(.ref tv), (.int dp), (.ref td), (.int (0 : Int32)), (.ref tv)])) t
    refine X5.arraylength hx (by rw [e5]; exact Ar6.1) (State.isArrayOf_alike hZ.alike Ar6.2.1) (g := (mkF m 21 #[.val (.ref a), .val (.ref td), .val (.int dp), .val (.int (0 : Int32))] [(.ref tv), (.int dp), (.ref td), (.int (0 : Int32)), (.ref tv)])) rfl rfl (hb hby d17_21) _ ?_
    rw [len_of S6 M6]
    show Steps p.tables e below (T5.setTop (mkF m 22 #[.val (.ref a), .val (.ref td), .val (.int dp), .val (.int (0 : Int32))] [(.int nn), (.int dp), (.ref td), (.int (0 : Int32)), (.ref tv)])) t
    refine st7 _ ?_
    show Steps p.tables e below (T7.setTop (mkF m 25 #[.val (.ref a), .val (.ref td), .val (.int dp), .val (.int (0 : Int32))] [])) t
    refine XS.goto X7.here hx rfl (pc0 := 25) (pc' := 43) rfl (hb hby d17_25) (by decide) (by decide) ?_
    exact k
  obtain ⟨fs, hr, hrun, hended, hW, hsame⟩ := X7.leave (v := none) (fun _ => rfl)
  refine ⟨_, _, R8 _ ?_, hrun, hended, _, _, rfl, ?_, ⟨_, rfl⟩, hW, hsame.mono (by decide) (by decide)⟩
  · show Steps p.tables e below (T7.setTop (mkF m 43 #[.val (.ref a), .val (.ref td), .val (.int dp), .val (.int (0 : Int32))] [])) _
    exact X7.returnOut hx Bd.returns (hb hby d17_43) hr
  · show Q_getb Z zCS vFM a tv kv nn vs td kd zd vd dp ns h0 n0 _ T7.heap _
    rw [e7]
    exact ⟨rfl, N7, K7, V7⟩
theorem d15_0 : decode jdk_68_method_73_code 0 = .ok (.aload_n 0, 1) := by decide +kernel
theorem d15_1 : decode jdk_68_method_73_code 1 = .ok (.aload_n 2, 1) := by decide +kernel
theorem pd_1 : parseMethodDescriptor "(Ljava/lang/String;)V" = some ⟨[(.object "java/lang/String")], none⟩ := by decide +kernel
theorem d15_2 : decode jdk_68_method_73_code 2 = .ok (.invokevirtual 397, 3) := by decide +kernel
theorem d15_5 : decode jdk_68_method_73_code 5 = .ok (.aload_n 2, 1) := by decide +kernel
theorem d15_6 : decode jdk_68_method_73_code 6 = .ok (.aload_n 0, 1) := by decide +kernel
theorem d15_7 : decode jdk_68_method_73_code 7 = .ok (.getfield 15, 3) := by decide +kernel
theorem d15_10 : decode jdk_68_method_73_code 10 = .ok (.iload_n 1, 1) := by decide +kernel
theorem d15_11 : decode jdk_68_method_73_code 11 = .ok (.aload_n 0, 1) := by decide +kernel
theorem d15_12 : decode jdk_68_method_73_code 12 = .ok (.getfield 22, 3) := by decide +kernel
theorem pd_2 : parseMethodDescriptor "([BIB)V" = some ⟨[(.array .byte), .int, .byte], none⟩ := by decide +kernel
theorem d15_15 : decode jdk_68_method_73_code 15 = .ok (.invokevirtual 399, 3) := by decide +kernel
theorem d15_18 : decode jdk_68_method_73_code 18 = .ok (.return_, 1) := by decide +kernel
theorem ef_psa (m : MethodId) (a : Addr) (tv : Addr) (kv : ClassId) (nn : Int32) (vs : List Value) (sb : Addr) (td : Addr) (kd : ClassId) (zd : Int32) (vd : List Value) (dp : Int32) (ns : List Value) : entryFrame m #[(.ref sb), (.int dp), (.ref a)] 3 = mkF m 0 #[.val (.ref sb), .val (.int dp), .val (.ref a)] [] := by first | (simp [entryFrame, mkF, argsToLocals, Value.category]; done) | rfl
def Q_psa (Z : State) (zCS : Int32) (vFM : Value) (a : Addr) (tv : Addr) (kv : ClassId) (nn : Int32) (vs : List Value) (sb : Addr) (td : Addr) (kd : ClassId) (zd : Int32) (vd : List Value) (dp : Int32) (ns : List Value) (h0 : Heap) (n0 : Nat) (vv_ : Option Value) (hh_ : Heap) (LL_ : List Loc) : Prop := vv_ = none ∧ (Fr n0 LL_) ∧ (Keep h0 hh_ [td]) ∧ (Arv Z hh_ td kd .byte zd ns (.int 0))
set_option maxRecDepth 65536 in
set_option maxHeartbeats 40000000 in
theorem psa (l : Launch) (Z : State) (a0 : Array Value) (hw : ∀ d ∈ tables_1, d.before a0 Z = true) (ws : List Jvm.Cond) (zCS : Int32) (vFM : Value) (a : Addr) (tv : Addr) (kv : ClassId) (nn : Int32) (vs : List Value) (sb : Addr) (td : Addr) (kd : ClassId) (zd : Int32) (vd : List Value) (dp : Int32) (ns : List Value) (h0 : Heap) (n0 : Nat) (O0 : Old Z n0 h0) (S_CS : Sta Z Z.heap "java/lang/String" "COMPACT_STRINGS" "Z" (.int zCS)) (hCS : ¬ (zCS = (0 : Int32))) (hcT0 : Jvm.Lit.constHeld Z "com/example/relayout/relayout/plan/Transfer" 7) (hcT1 : Jvm.Lit.constHeld Z "com/example/relayout/relayout/plan/Transfer" 22) (hcT2 : Jvm.Lit.constHeld Z "com/example/relayout/relayout/plan/Transfer" 26) (hcT3 : Jvm.Lit.constHeld Z "com/example/relayout/relayout/plan/Transfer" 45) (hcT4 : Jvm.Lit.constHeld Z "com/example/relayout/relayout/plan/Transfer" 47) (hcH : Jvm.Lit.constHeld Z "java/lang/String" 7) (hcW : Jvm.Lit.compactW.before a0 Z = true) (S_FM : Sta Z Z.heap "jdk/internal/util/Preconditions" "SIOOBE_FORMATTER" "Ljava/util/function/BiFunction;" vFM) (rFM : vFM.isRef = true) (g_td : n0 ≤ td) (Ea : Exa Z h0 a "java/lang/String") (Fc : Fld Z h0 a "java/lang/String" "coder" "B" (.int (0 : Int32))) (Fv : Fld Z h0 a "java/lang/String" "value" "[B" (.ref tv)) (Av : Arv Z h0 tv kv .byte nn vs (.int 0)) (Eb : Exa Z h0 sb "java/lang/StringBuilder") (Fbc : Fld Z h0 sb "java/lang/AbstractStringBuilder" "coder" "B" (.int (0 : Int32))) (Fbv : Fld Z h0 sb "java/lang/AbstractStringBuilder" "value" "[B" (.ref td)) (Ad : Arv Z h0 td kd .byte zd vd (.int 0)) (hd0 : ¬ (dp < (0 : Int32))) (hn0 : ¬ (nn < (0 : Int32))) (hb5 : dp.toNatClampNeg + nn.toNatClampNeg ≤ zd.toNatClampNeg) (hbl : dp.toNatClampNeg + nn.toNatClampNeg ≤ vd.length) (hns : (List.take dp.toNatClampNeg vd ++ (List.map (fun i => List.getD vs ((0 : Int32).toNatClampNeg + i) (.int 0)) (List.range nn.toNatClampNeg)) ++ List.drop (dp.toNatClampNeg + nn.toNatClampNeg) vd) = ns) :
    MetFree l (⟨"java/lang/AbstractStringBuilder", "putStringAt", "(ILjava/lang/String;)V"⟩ : MethodName) (head1 (Jvm.Cond.code (⟨"java/lang/AbstractStringBuilder", "putStringAt", "(ILjava/lang/String;)V"⟩ : MethodName) jdk_68_method_73_code 3 none :: ws) ({ frames := 2, cells := 0, slots := 0, locals := 33 } : Room)) (fun aa_ U_ => aa_ = #[(.ref sb), (.int dp), (.ref a)] ∧ Z.Warmed39 U_.vm ∧ U_.heap = h0) (fun _ _ _ _ _ => True) (fun _ U_ oo_ V_ => ∃ vv_ LL_, oo_ = .returned vv_ ∧ Q_psa Z zCS vFM a tv kv nn vs sb td kd zd vd dp ns h0 n0 vv_ V_.heap LL_ ∧ FrameEnd U_ oo_ V_ LL_ ({ frames := 2, cells := 0, slots := 0, locals := 33 } : Room).cells ({ frames := 2, cells := 0, slots := 0, locals := 33 } : Room).slots) := by
  refine MetFree.of_bodySF (plainFor_of_name pn_java_lang_AbstractStringBuilder) hisR ?_
  intro p e s m args below meth c s₁ Bd hml0 hP hK
  obtain ⟨rfl, hZ, hh⟩ := hP
  have hx := Bd.exec
  have hby := Bd.bytes
  have hml : c.maxLocals = 3 := hml0
  have hown : s.vm.findClass "java/lang/AbstractStringBuilder" = some m.cls := findClass_of_methodNamed Bd.named
  have hnm := (name_of_methodNamed Bd.named Bd.method).1
  have X0 : Stand p l e ({ frames := 2, cells := 0, slots := 0, locals := 33 } : Room) s m #[(.ref sb), (.int dp), (.ref a)] below meth c s₁ [] 0 0 := Stand.of_body Bd
  have e0 : s₁.heap = h0 := by rw [← hh, Bd.state]; rfl
  have N0 := Fr.nil n0
  have Z0 : n0 ≤ h0.size := O0.1 ▸ O0.2.1
  have hk0 := Nat.zero_le h0.size
  have K0 : Keep h0 h0 [td] := Keep.refl _ _
  have R0 : ∀ t, Steps p.tables e below (s₁.setTop (mkF m 0 #[.val (.ref sb), .val (.int dp), .val (.ref a)] [])) t → Steps p.tables e below (s₁.setTop (entryFrame m #[(.ref sb), (.int dp), (.ref a)] 3)) t := fun t k => castTop (ef_psa m a tv kv nn vs sb td kd zd vd dp ns) k
  obtain ⟨cq1, kq1, q1a, q1b, q1c⟩ := isOf hZ e0 Eb
  obtain ⟨_, _, ⟨T1, L1, k1, n1⟩, -, X1, ⟨Lc1, hQ1, cl_1, cy_1, cz_1⟩, st1⟩ := X0.virtualBack hx (y := (⟨"java/lang/AbstractStringBuilder", "inflateIfNeededFor", "(Ljava/lang/String;)V"⟩ : MethodName)) (z := (⟨"java/lang/AbstractStringBuilder", "inflateIfNeededFor", "(Ljava/lang/String;)V"⟩ : MethodName)) hown (mvT hZ (hw _ (List.mem_of_getElem? (i := 103) rfl))) (mvT hZ (own_decl (hw _ (List.mem_of_getElem? (i := 104) rfl)) (hw _ (List.mem_of_getElem? (i := 107) rfl)))) (notFace_of_selects (args := #[]) (mvT hZ (hw _ (List.mem_of_getElem? (i := 106) rfl)))) (mvT hZ (hw _ (List.mem_of_getElem? (i := 106) rfl))) (mvT hZ (hw _ (List.mem_of_getElem? (i := 104) rfl))) (by decide) (backOf (W := 0) (infl l Z a0 hw [] zCS vFM sb a h0 n0 O0 S_CS hCS hcT0 hcT1 hcT2 hcT3 hcT4 hcH hcW S_FM rFM   Eb Fbc Ea Fc) hZ (hw _ (List.mem_of_getElem? (i := 107) rfl)) (hw _ (List.mem_of_getElem? (i := 62) rfl)) (by decide) (by decide)) q1a q1c (g := (mkF m 2 #[.val (.ref sb), .val (.int dp), .val (.ref a)] [(.ref a), (.ref sb)])) rfl (by rw [hml]; rfl) (Steps.refl _) (argsL := [(.ref a)]) (rest := []) (lenOf pd_1 rfl) rfl (by show 2 * 0 + _ ≤ _; exact Nat.le_of_eq rfl) (hb hby d15_2) (fun _ _ => ⟨rfl, e0, (by decide : 0 + 0 ≤ _), (by decide : 0 + 0 ≤ _)⟩)
  dsimp only [Pt.U, Pt.locs, Pt.cells, Pt.slots] at X1 cl_1 cy_1 cz_1 st1 hQ1
  rw [cl_1, cy_1, cz_1] at X1
  obtain ⟨rfl, N1q, e1⟩ := hQ1
  have N1 := Fr.app N0 N1q
  obtain ⟨T2, X2, e2, st2⟩ := getF X1 hx hZ hown (host := "") (Or.inl (hw _ (List.mem_of_getElem? (i := 66) rfl))) Via.refl e1 Fbv (g := (mkF m 7 #[.val (.ref sb), .val (.int dp), .val (.ref a)] [(.ref sb), (.ref a)])) rfl rfl (hb hby d15_7)
  obtain ⟨T3, X3, e3, st3⟩ := getF X2 hx hZ hown (host := "") (Or.inl (hw _ (List.mem_of_getElem? (i := 68) rfl))) Via.refl e2 Fbc (g := (mkF m 12 #[.val (.ref sb), .val (.int dp), .val (.ref a)] [(.ref sb), (.int dp), (.ref td), (.ref a)])) rfl rfl (hb hby d15_12)
  obtain ⟨cq4, kq4, q4a, q4b, q4c⟩ := isOf hZ e3 Ea
  obtain ⟨_, _, ⟨T4, L4, k4, n4⟩, -, X4, ⟨Lc4, hQ4, cl_4, cy_4, cz_4⟩, st4⟩ := X3.virtualBack hx (y := (⟨"java/lang/String", "getBytes", "([BIB)V"⟩ : MethodName)) (z := (⟨"java/lang/String", "getBytes", "([BIB)V"⟩ : MethodName)) hown (mvT hZ (hw _ (List.mem_of_getElem? (i := 109) rfl))) (mvT hZ (hw _ (List.mem_of_getElem? (i := 110) rfl))) (notFace_of_selects (args := #[]) (mvT hZ (hw _ (List.mem_of_getElem? (i := 112) rfl)))) (mvT hZ (hw _ (List.mem_of_getElem? (i := 112) rfl))) (mvT hZ (hw _ (List.mem_of_getElem? (i := 111) rfl))) (by decide) (backOf (W := 0) (getb l Z a0 hw [] zCS vFM a tv kv nn vs td kd zd vd dp ns h0 n0 O0 S_CS hCS hcT0 hcT1 hcT2 hcT3 hcT4 hcH hcW S_FM rFM g_td  Ea Fc Fv Av Ad hd0 hn0 hb5 hbl hns) hZ (hw _ (List.mem_of_getElem? (i := 113) rfl)) (hw _ (List.mem_of_getElem? (i := 6) rfl)) (by decide) (by decide)) q4a q4c (g := (mkF m 15 #[.val (.ref sb), .val (.int dp), .val (.ref a)] [(.int (0 : Int32)), (.int dp), (.ref td), (.ref a)])) rfl (by rw [hml]; rfl) (Steps.refl _) (argsL := [(.ref td), (.int dp), (.int (0 : Int32))]) (rest := []) (lenOf pd_2 rfl) rfl (by show 2 * 0 + _ ≤ _; exact Nat.le_of_eq rfl) (hb hby d15_15) (fun _ _ => ⟨rfl, e3, (by decide : 0 + 0 ≤ _), (by decide : 0 + 0 ≤ _)⟩)
  dsimp only [Pt.U, Pt.locs, Pt.cells, Pt.slots] at X4 cl_4 cy_4 cz_4 st4 hQ4
  rw [cl_4, cy_4, cz_4] at X4
  obtain ⟨rfl, N4q, K4q, y4_0⟩ := hQ4
  have N4 := Fr.app N1 N4q
  have ne_a_td : a ≠ td := Ea.neArv Ad (hw _ (List.mem_of_getElem? (i := 5) rfl))
  have ne_sb_td : sb ≠ td := Eb.neArv Ad (hw _ (List.mem_of_getElem? (i := 53) rfl))
  have Z4 : n0 ≤ T4.heap.size := Nat.le_trans Z0 K4q.1
  have K4 : Keep h0 T4.heap [td] := K0.trans K4q (allS (Or.inl (List.mem_of_getElem? (i := 0) rfl)) all0)
  have O4 : Old Z n0 T4.heap := O0.keep K4q (allS g_td all0)
  have R5 : ∀ t, Steps p.tables e below (T4.setTop (mkF m 18 #[.val (.ref sb), .val (.int dp), .val (.ref a)] [])) t → Steps p.tables e below (s₁.setTop (entryFrame m #[(.ref sb), (.int dp), (.ref a)] 3)) t := by
    intro t k
    refine R0 t ?_
    show Steps p.tables e below (s₁.setTop (mkF m 0 #[.val (.ref sb), .val (.int dp), .val (.ref a)] [])) t
    refine XS.aloadN X0.here hx rfl (hb hby d15_0) rfl rfl ?_
    show Steps p.tables e below (s₁.setTop (mkF m 1 #[.val (.ref sb), .val (.int dp), .val (.ref a)] [(.ref sb)])) t
    refine XS.aloadN X0.here hx rfl (hb hby d15_1) rfl rfl ?_
    show Steps p.tables e below (s₁.setTop (mkF m 2 #[.val (.ref sb), .val (.int dp), .val (.ref a)] [(.ref a), (.ref sb)])) t
    refine st1.trans ?_
    show Steps p.tables e below (T1.setTop (mkF m 5 #[.val (.ref sb), .val (.int dp), .val (.ref a)] [])) t
    refine XS.aloadN X1.here hx rfl (hb hby d15_5) rfl rfl ?_
    show Steps p.tables e below (T1.setTop (mkF m 6 #[.val (.ref sb), .val (.int dp), .val (.ref a)] [(.ref a)])) t
    refine XS.aloadN X1.here hx rfl (hb hby d15_6) rfl rfl ?_
    show Steps p.tables e below (T1.setTop (mkF m 7 #[.val (.ref sb), .val (.int dp), .val (.ref a)] [(.ref sb), (.ref a)])) t
    refine st2 _ ?_
    show Steps p.tables e below (T2.setTop (mkF m 10 #[.val (.ref sb), .val (.int dp), .val (.ref a)] [(.ref td), (.ref a)])) t
    refine XS.iloadN X2.here hx rfl (hb hby d15_10) rfl ?_
    show Steps p.tables e below (T2.setTop (mkF m 11 #[.val (.ref sb), .val (.int dp), .val (.ref a)] [(.int dp), (.ref td), (.ref a)])) t
    refine XS.aloadN X2.here hx rfl (hb hby d15_11) rfl rfl ?_
    show Steps p.tables e below (T2.setTop (mkF m 12 #[.val (.ref sb), .val (.int dp), .val (.ref a)] [(.ref sb), (.int dp), (.ref td), (.ref a)])) t
    refine st3 _ ?_
    show Steps p.tables e below (T3.setTop (mkF m 15 #[.val (.ref sb), .val (.int dp), .val (.ref a)] [(.int (0 : Int32)), (.int dp), (.ref td), (.ref a)])) t
    refine st4.trans ?_
    exact k
  obtain ⟨fs, hr, hrun, hended, hW, hsame⟩ := X4.leave (v := none) (fun _ => rfl)
  refine ⟨_, _, R5 _ ?_, hrun, hended, _, _, rfl, ?_, ⟨_, rfl⟩, hW, hsame.mono (by decide) (by decide)⟩
  · show Steps p.tables e below (T4.setTop (mkF m 18 #[.val (.ref sb), .val (.int dp), .val (.ref a)] [])) _
    exact X4.returnOut hx Bd.returns (hb hby d15_18) hr
  · show Q_psa Z zCS vFM a tv kv nn vs sb td kd zd vd dp ns h0 n0 _ T4.heap _
    exact ⟨rfl, N4, K4, y4_0⟩
theorem d11_0 : decode jdk_68_method_22_code 0 = .ok (.aload_n 1, 1) := by decide +kernel
theorem d11_1 : decode jdk_68_method_22_code 1 = .ok (.ifnonnull 8, 3) := by decide +kernel
theorem d11_9 : decode jdk_68_method_22_code 9 = .ok (.aload_n 1, 1) := by decide +kernel
theorem pd_3 : parseMethodDescriptor "()I" = some ⟨[], some .int⟩ := by decide +kernel
theorem d11_10 : decode jdk_68_method_22_code 10 = .ok (.invokevirtual 32, 3) := by decide +kernel
theorem d11_13 : decode jdk_68_method_22_code 13 = .ok (.istore_n 2, 1) := by decide +kernel
theorem d11_14 : decode jdk_68_method_22_code 14 = .ok (.aload_n 0, 1) := by decide +kernel
theorem d11_15 : decode jdk_68_method_22_code 15 = .ok (.aload_n 0, 1) := by decide +kernel
theorem d11_16 : decode jdk_68_method_22_code 16 = .ok (.getfield 79, 3) := by decide +kernel
theorem d11_19 : decode jdk_68_method_22_code 19 = .ok (.iload_n 2, 1) := by decide +kernel
theorem d11_20 : decode jdk_68_method_22_code 20 = .ok (.iadd, 1) := by decide +kernel
theorem pd_4 : parseMethodDescriptor "(I)V" = some ⟨[.int], none⟩ := by decide +kernel
theorem d11_21 : decode jdk_68_method_22_code 21 = .ok (.invokevirtual 100, 3) := by decide +kernel
theorem d11_24 : decode jdk_68_method_22_code 24 = .ok (.aload_n 0, 1) := by decide +kernel
theorem d11_25 : decode jdk_68_method_22_code 25 = .ok (.aload_n 0, 1) := by decide +kernel
theorem d11_26 : decode jdk_68_method_22_code 26 = .ok (.getfield 79, 3) := by decide +kernel
theorem d11_29 : decode jdk_68_method_22_code 29 = .ok (.aload_n 1, 1) := by decide +kernel
theorem pd_5 : parseMethodDescriptor "(ILjava/lang/String;)V" = some ⟨[.int, (.object "java/lang/String")], none⟩ := by decide +kernel
theorem d11_30 : decode jdk_68_method_22_code 30 = .ok (.invokevirtual 208, 3) := by decide +kernel
theorem d11_33 : decode jdk_68_method_22_code 33 = .ok (.aload_n 0, 1) := by decide +kernel
theorem d11_34 : decode jdk_68_method_22_code 34 = .ok (.dup, 1) := by decide +kernel
theorem d11_35 : decode jdk_68_method_22_code 35 = .ok (.getfield 79, 3) := by decide +kernel
theorem d11_38 : decode jdk_68_method_22_code 38 = .ok (.iload_n 2, 1) := by decide +kernel
theorem d11_39 : decode jdk_68_method_22_code 39 = .ok (.iadd, 1) := by decide +kernel
theorem d11_40 : decode jdk_68_method_22_code 40 = .ok (.putfield 79, 3) := by decide +kernel
theorem d11_43 : decode jdk_68_method_22_code 43 = .ok (.aload_n 0, 1) := by decide +kernel
theorem d11_44 : decode jdk_68_method_22_code 44 = .ok (.areturn, 1) := by decide +kernel
theorem ef_aapp (m : MethodId) (a : Addr) (tv : Addr) (kv : ClassId) (nn : Int32) (vs : List Value) (sb : Addr) (td : Addr) (kd : ClassId) (zd : Int32) (vd : List Value) (dp : Int32) (ns : List Value) (sm : Int32) : entryFrame m #[(.ref sb), (.ref a)] 3 = mkF m 0 #[.val (.ref sb), .val (.ref a), .unset] [] := by first | (simp [entryFrame, mkF, argsToLocals, Value.category]; done) | rfl
def Q_aapp (Z : State) (zCS : Int32) (vFM : Value) (a : Addr) (tv : Addr) (kv : ClassId) (nn : Int32) (vs : List Value) (sb : Addr) (td : Addr) (kd : ClassId) (zd : Int32) (vd : List Value) (dp : Int32) (ns : List Value) (sm : Int32) (h0 : Heap) (n0 : Nat) (vv_ : Option Value) (hh_ : Heap) (LL_ : List Loc) : Prop := vv_ = some (.ref sb) ∧ (Fr n0 LL_) ∧ (Keep h0 hh_ [sb, td]) ∧ (Exa Z hh_ sb "java/lang/StringBuilder") ∧ (Fld Z hh_ sb "java/lang/AbstractStringBuilder" "coder" "B" (.int (0 : Int32))) ∧ (Fld Z hh_ sb "java/lang/AbstractStringBuilder" "value" "[B" (.ref td)) ∧ (Arv Z hh_ td kd .byte zd ns (.int 0)) ∧ (Fld Z hh_ sb "java/lang/AbstractStringBuilder" "count" "I" (.int sm))
set_option maxRecDepth 65536 in
set_option maxHeartbeats 40000000 in
theorem aapp (l : Launch) (Z : State) (a0 : Array Value) (hw : ∀ d ∈ tables_1, d.before a0 Z = true) (ws : List Jvm.Cond) (zCS : Int32) (vFM : Value) (a : Addr) (tv : Addr) (kv : ClassId) (nn : Int32) (vs : List Value) (sb : Addr) (td : Addr) (kd : ClassId) (zd : Int32) (vd : List Value) (dp : Int32) (ns : List Value) (sm : Int32) (h0 : Heap) (n0 : Nat) (O0 : Old Z n0 h0) (S_CS : Sta Z Z.heap "java/lang/String" "COMPACT_STRINGS" "Z" (.int zCS)) (hCS : ¬ (zCS = (0 : Int32))) (hcT0 : Jvm.Lit.constHeld Z "com/example/relayout/relayout/plan/Transfer" 7) (hcT1 : Jvm.Lit.constHeld Z "com/example/relayout/relayout/plan/Transfer" 22) (hcT2 : Jvm.Lit.constHeld Z "com/example/relayout/relayout/plan/Transfer" 26) (hcT3 : Jvm.Lit.constHeld Z "com/example/relayout/relayout/plan/Transfer" 45) (hcT4 : Jvm.Lit.constHeld Z "com/example/relayout/relayout/plan/Transfer" 47) (hcH : Jvm.Lit.constHeld Z "java/lang/String" 7) (hcW : Jvm.Lit.compactW.before a0 Z = true) (S_FM : Sta Z Z.heap "jdk/internal/util/Preconditions" "SIOOBE_FORMATTER" "Ljava/util/function/BiFunction;" vFM) (rFM : vFM.isRef = true) (g_sb : n0 ≤ sb) (g_td : n0 ≤ td) (Ea : Exa Z h0 a "java/lang/String") (Fc : Fld Z h0 a "java/lang/String" "coder" "B" (.int (0 : Int32))) (Fv : Fld Z h0 a "java/lang/String" "value" "[B" (.ref tv)) (Av : Arv Z h0 tv kv .byte nn vs (.int 0)) (Eb : Exa Z h0 sb "java/lang/StringBuilder") (Fbc : Fld Z h0 sb "java/lang/AbstractStringBuilder" "coder" "B" (.int (0 : Int32))) (Fbv : Fld Z h0 sb "java/lang/AbstractStringBuilder" "value" "[B" (.ref td)) (Ad : Arv Z h0 td kd .byte zd vd (.int 0)) (Fbn : Fld Z h0 sb "java/lang/AbstractStringBuilder" "count" "I" (.int dp)) (hd0 : ¬ (dp < (0 : Int32))) (hn0 : ¬ (nn < (0 : Int32))) (hb5 : dp.toNatClampNeg + nn.toNatClampNeg ≤ zd.toNatClampNeg) (hbl : dp.toNatClampNeg + nn.toNatClampNeg ≤ vd.length) (hns : (List.take dp.toNatClampNeg vd ++ (List.map (fun i => List.getD vs ((0 : Int32).toNatClampNeg + i) (.int 0)) (List.range nn.toNatClampNeg)) ++ List.drop (dp.toNatClampNeg + nn.toNatClampNeg) vd) = ns) (hsm : (dp + nn) = sm) (hle : ¬ ((0 : Int32) < (sm - zd))) :
    MetFree l (⟨"java/lang/AbstractStringBuilder", "append", "(Ljava/lang/String;)Ljava/lang/AbstractStringBuilder;"⟩ : MethodName) (head1 (Jvm.Cond.code (⟨"java/lang/AbstractStringBuilder", "append", "(Ljava/lang/String;)Ljava/lang/AbstractStringBuilder;"⟩ : MethodName) jdk_68_method_22_code 3 (some (.object "java/lang/AbstractStringBuilder")) :: ws) ({ frames := 3, cells := 0, slots := 0, locals := 47 } : Room)) (fun aa_ U_ => aa_ = #[(.ref sb), (.ref a)] ∧ Z.Warmed39 U_.vm ∧ U_.heap = h0) (fun _ _ _ _ _ => True) (fun _ U_ oo_ V_ => ∃ vv_ LL_, oo_ = .returned vv_ ∧ Q_aapp Z zCS vFM a tv kv nn vs sb td kd zd vd dp ns sm h0 n0 vv_ V_.heap LL_ ∧ FrameEnd U_ oo_ V_ LL_ ({ frames := 3, cells := 0, slots := 0, locals := 47 } : Room).cells ({ frames := 3, cells := 0, slots := 0, locals := 47 } : Room).slots) := by
  refine MetFree.of_bodySF (plainFor_of_name pn_java_lang_AbstractStringBuilder) hisR ?_
  intro p e s m args below meth c s₁ Bd hml0 hP hK
  obtain ⟨rfl, hZ, hh⟩ := hP
  have hx := Bd.exec
  have hby := Bd.bytes
  have hml : c.maxLocals = 3 := hml0
  have hown : s.vm.findClass "java/lang/AbstractStringBuilder" = some m.cls := findClass_of_methodNamed Bd.named
  have hnm := (name_of_methodNamed Bd.named Bd.method).1
  have X0 : Stand p l e ({ frames := 3, cells := 0, slots := 0, locals := 47 } : Room) s m #[(.ref sb), (.ref a)] below meth c s₁ [] 0 0 := Stand.of_body Bd
  have e0 : s₁.heap = h0 := by rw [← hh, Bd.state]; rfl
  have N0 := Fr.nil n0
  have Z0 : n0 ≤ h0.size := O0.1 ▸ O0.2.1
  have hk0 := Nat.zero_le h0.size
  have K0 : Keep h0 h0 [sb, td] := Keep.refl _ _
  have R0 : ∀ t, Steps p.tables e below (s₁.setTop (mkF m 0 #[.val (.ref sb), .val (.ref a), .unset] [])) t → Steps p.tables e below (s₁.setTop (entryFrame m #[(.ref sb), (.ref a)] 3)) t := fun t k => castTop (ef_aapp m a tv kv nn vs sb td kd zd vd dp ns sm) k
  obtain ⟨cq1, kq1, q1a, q1b, q1c⟩ := isOf hZ e0 Ea
  obtain ⟨_, _, ⟨T1, L1, k1, n1⟩, -, X1, ⟨Lc1, hQ1, cl_1, cy_1, cz_1⟩, st1⟩ := X0.virtualBack hx (y := (⟨"java/lang/String", "length", "()I"⟩ : MethodName)) (z := (⟨"java/lang/String", "length", "()I"⟩ : MethodName)) hown (mvT hZ (hw _ (List.mem_of_getElem? (i := 80) rfl))) (mvT hZ (hw _ (List.mem_of_getElem? (i := 81) rfl))) (notFace_of_selects (args := #[]) (mvT hZ (hw _ (List.mem_of_getElem? (i := 83) rfl)))) (mvT hZ (hw _ (List.mem_of_getElem? (i := 83) rfl))) (mvT hZ (hw _ (List.mem_of_getElem? (i := 82) rfl))) (by decide) (backOf (W := 0) (slen l Z a0 hw [] zCS vFM a tv kv nn vs h0 n0 O0 S_CS hCS hcT0 hcT1 hcT2 hcT3 hcT4 hcH hcW S_FM rFM   Ea Fc Fv Av) hZ (hw _ (List.mem_of_getElem? (i := 84) rfl)) (hw _ (List.mem_of_getElem? (i := 6) rfl)) (by decide) (by decide)) q1a q1c (g := (mkF m 10 #[.val (.ref sb), .val (.ref a), .unset] [(.ref a)])) rfl (by rw [hml]; rfl) (Steps.refl _) (argsL := []) (rest := []) (lenOf pd_3 rfl) rfl (by show 2 * 0 + _ ≤ _; exact Nat.le_of_eq rfl) (hb hby d11_10) (fun _ _ => ⟨rfl, e0, (by decide : 0 + 0 ≤ _), (by decide : 0 + 0 ≤ _)⟩)
  dsimp only [Pt.U, Pt.locs, Pt.cells, Pt.slots] at X1 cl_1 cy_1 cz_1 st1 hQ1
  rw [cl_1, cy_1, cz_1] at X1
  obtain ⟨rfl, N1q, e1⟩ := hQ1
  have N1 := Fr.app N0 N1q
  obtain ⟨T2, X2, e2, st2⟩ := getF X1 hx hZ hown (host := "") (Or.inl (hw _ (List.mem_of_getElem? (i := 91) rfl))) Via.refl e1 Fbn (g := (mkF m 16 #[.val (.ref sb), .val (.ref a), .val (.int nn)] [(.ref sb), (.ref sb)])) rfl rfl (hb hby d11_16)
  have R3 : ∀ t, Steps p.tables e below (T2.setTop (mkF m 21 #[.val (.ref sb), .val (.ref a), .val (.int nn)] [(.int (dp + nn)), (.ref sb)])) t → Steps p.tables e below (s₁.setTop (entryFrame m #[(.ref sb), (.ref a)] 3)) t := by
    intro t k
    refine R0 t ?_
    show Steps p.tables e below (s₁.setTop (mkF m 0 #[.val (.ref sb), .val (.ref a), .unset] [])) t
    refine XS.aloadN X0.here hx rfl (hb hby d11_0) rfl rfl ?_
    show Steps p.tables e below (s₁.setTop (mkF m 1 #[.val (.ref sb), .val (.ref a), .unset] [(.ref a)])) t
    refine XS.ifnonnullYes X0.here hx rfl (pc0 := 1) (pc' := 9) rfl (hb hby d11_1) rfl (by decide) (by decide) ?_
    show Steps p.tables e below (s₁.setTop (mkF m 9 #[.val (.ref sb), .val (.ref a), .unset] [])) t
    refine XS.aloadN X0.here hx rfl (hb hby d11_9) rfl rfl ?_
    show Steps p.tables e below (s₁.setTop (mkF m 10 #[.val (.ref sb), .val (.ref a), .unset] [(.ref a)])) t
    refine st1.trans ?_
    show Steps p.tables e below (T1.setTop (mkF m 13 #[.val (.ref sb), .val (.ref a), .unset] [(.int nn)])) t
    refine XS.istoreN X1.here hx rfl (hb hby d11_13) rfl (l' := #[.val (.ref sb), .val (.ref a), .val (.int nn)]) rfl ?_
    show Steps p.tables e below (T1.setTop (mkF m 14 #[.val (.ref sb), .val (.ref a), .val (.int nn)] [])) t
    refine XS.aloadN X1.here hx rfl (hb hby d11_14) rfl rfl ?_
    show Steps p.tables e below (T1.setTop (mkF m 15 #[.val (.ref sb), .val (.ref a), .val (.int nn)] [(.ref sb)])) t
    refine XS.aloadN X1.here hx rfl (hb hby d11_15) rfl rfl ?_
    show Steps p.tables e below (T1.setTop (mkF m 16 #[.val (.ref sb), .val (.ref a), .val (.int nn)] [(.ref sb), (.ref sb)])) t
    refine st2 _ ?_
    show Steps p.tables e below (T2.setTop (mkF m 19 #[.val (.ref sb), .val (.ref a), .val (.int nn)] [(.int dp), (.ref sb)])) t
    refine XS.iloadN X2.here hx rfl (hb hby d11_19) rfl ?_
    show Steps p.tables e below (T2.setTop (mkF m 20 #[.val (.ref sb), .val (.ref a), .val (.int nn)] [(.int nn), (.int dp), (.ref sb)])) t
    refine XS.iadd X2.here hx rfl (hb hby d11_20) rfl ?_
    exact k
  have R4 := R3
  rw [hsm] at R4
  obtain ⟨cq5, kq5, q5a, q5b, q5c⟩ := isOf hZ e2 Eb
  obtain ⟨_, _, ⟨T5, L5, k5, n5⟩, -, X5, ⟨Lc5, hQ5, cl_5, cy_5, cz_5⟩, st5⟩ := X2.virtualBack hx (y := (⟨"java/lang/AbstractStringBuilder", "ensureCapacityInternal", "(I)V"⟩ : MethodName)) (z := (⟨"java/lang/AbstractStringBuilder", "ensureCapacityInternal", "(I)V"⟩ : MethodName)) hown (mvT hZ (hw _ (List.mem_of_getElem? (i := 93) rfl))) (mvT hZ (own_decl (hw _ (List.mem_of_getElem? (i := 94) rfl)) (hw _ (List.mem_of_getElem? (i := 97) rfl)))) (notFace_of_selects (args := #[]) (mvT hZ (hw _ (List.mem_of_getElem? (i := 96) rfl)))) (mvT hZ (hw _ (List.mem_of_getElem? (i := 96) rfl))) (mvT hZ (hw _ (List.mem_of_getElem? (i := 94) rfl))) (by decide) (backOf (W := 0) (ens l Z a0 hw [] zCS vFM sb td kd zd vd sm h0 n0 O0 S_CS hCS hcT0 hcT1 hcT2 hcT3 hcT4 hcH hcW S_FM rFM   Eb Fbc Fbv Ad hle) hZ (hw _ (List.mem_of_getElem? (i := 97) rfl)) (hw _ (List.mem_of_getElem? (i := 62) rfl)) (by decide) (by decide)) q5a q5c (g := (mkF m 21 #[.val (.ref sb), .val (.ref a), .val (.int nn)] [(.int sm), (.ref sb)])) rfl (by rw [hml]; rfl) (Steps.refl _) (argsL := [(.int sm)]) (rest := []) (lenOf pd_4 rfl) rfl (by show 2 * 0 + _ ≤ _; exact Nat.le_of_eq rfl) (hb hby d11_21) (fun _ _ => ⟨rfl, e2, (by decide : 0 + 0 ≤ _), (by decide : 0 + 0 ≤ _)⟩)
  dsimp only [Pt.U, Pt.locs, Pt.cells, Pt.slots] at X5 cl_5 cy_5 cz_5 st5 hQ5
  rw [cl_5, cy_5, cz_5] at X5
  obtain ⟨rfl, N5q, e5⟩ := hQ5
  have N5 := Fr.app N1 N5q
  obtain ⟨T6, X6, e6, st6⟩ := getF X5 hx hZ hown (host := "") (Or.inl (hw _ (List.mem_of_getElem? (i := 91) rfl))) Via.refl e5 Fbn (g := (mkF m 26 #[.val (.ref sb), .val (.ref a), .val (.int nn)] [(.ref sb), (.ref sb)])) rfl rfl (hb hby d11_26)
  obtain ⟨cq7, kq7, q7a, q7b, q7c⟩ := isOf hZ e6 Eb
  obtain ⟨_, _, ⟨T7, L7, k7, n7⟩, -, X7, ⟨Lc7, hQ7, cl_7, cy_7, cz_7⟩, st7⟩ := X6.virtualBack hx (y := (⟨"java/lang/AbstractStringBuilder", "putStringAt", "(ILjava/lang/String;)V"⟩ : MethodName)) (z := (⟨"java/lang/AbstractStringBuilder", "putStringAt", "(ILjava/lang/String;)V"⟩ : MethodName)) hown (mvT hZ (hw _ (List.mem_of_getElem? (i := 98) rfl))) (mvT hZ (own_decl (hw _ (List.mem_of_getElem? (i := 99) rfl)) (hw _ (List.mem_of_getElem? (i := 102) rfl)))) (notFace_of_selects (args := #[]) (mvT hZ (hw _ (List.mem_of_getElem? (i := 101) rfl)))) (mvT hZ (hw _ (List.mem_of_getElem? (i := 101) rfl))) (mvT hZ (hw _ (List.mem_of_getElem? (i := 99) rfl))) (by decide) (backOf (W := 0) (psa l Z a0 hw [] zCS vFM a tv kv nn vs sb td kd zd vd dp ns h0 n0 O0 S_CS hCS hcT0 hcT1 hcT2 hcT3 hcT4 hcH hcW S_FM rFM g_td  Ea Fc Fv Av Eb Fbc Fbv Ad hd0 hn0 hb5 hbl hns) hZ (hw _ (List.mem_of_getElem? (i := 102) rfl)) (hw _ (List.mem_of_getElem? (i := 62) rfl)) (by decide) (by decide)) q7a q7c (g := (mkF m 30 #[.val (.ref sb), .val (.ref a), .val (.int nn)] [(.ref a), (.int dp), (.ref sb)])) rfl (by rw [hml]; rfl) (Steps.refl _) (argsL := [(.int dp), (.ref a)]) (rest := []) (lenOf pd_5 rfl) rfl (by show 2 * 0 + _ ≤ _; exact Nat.le_of_eq rfl) (hb hby d11_30) (fun _ _ => ⟨rfl, e6, (by decide : 0 + 0 ≤ _), (by decide : 0 + 0 ≤ _)⟩)
  dsimp only [Pt.U, Pt.locs, Pt.cells, Pt.slots] at X7 cl_7 cy_7 cz_7 st7 hQ7
  rw [cl_7, cy_7, cz_7] at X7
  obtain ⟨rfl, N7q, K7q, y7_0⟩ := hQ7
  have N7 := Fr.app N5 N7q
  have ne_a_td : a ≠ td := Ea.neArv Ad (hw _ (List.mem_of_getElem? (i := 5) rfl))
  have ne_sb_td : sb ≠ td := Eb.neArv Ad (hw _ (List.mem_of_getElem? (i := 53) rfl))
  have Z7 : n0 ≤ T7.heap.size := Nat.le_trans Z0 K7q.1
  have K7 : Keep h0 T7.heap [sb, td] := K0.trans K7q (allS (Or.inl (List.mem_of_getElem? (i := 1) rfl)) all0)
  have O7 : Old Z n0 T7.heap := O0.keep K7q (allS g_td all0)
  have f9 : Fld Z T7.heap sb "java/lang/AbstractStringBuilder" "count" "I" (.int dp) := (Fbn.keep K7q (ninS ne_sb_td nin0))
  obtain ⟨T8, X8, e8, st8⟩ := getF X7 hx hZ hown (host := "") (Or.inl (hw _ (List.mem_of_getElem? (i := 91) rfl))) Via.refl rfl f9 (g := (mkF m 35 #[.val (.ref sb), .val (.ref a), .val (.int nn)] [(.ref sb), (.ref sb)])) rfl rfl (hb hby d11_35)
  have R10 : ∀ t, Steps p.tables e below (T8.setTop (mkF m 40 #[.val (.ref sb), .val (.ref a), .val (.int nn)] [(.int (dp + nn)), (.ref sb)])) t → Steps p.tables e below (s₁.setTop (entryFrame m #[(.ref sb), (.ref a)] 3)) t := by
    intro t k
    refine R4 t ?_
    show Steps p.tables e below (T2.setTop (mkF m 21 #[.val (.ref sb), .val (.ref a), .val (.int nn)] [(.int sm), (.ref sb)])) t
    refine st5.trans ?_
    show Steps p.tables e below (T5.setTop (mkF m 24 #[.val (.ref sb), .val (.ref a), .val (.int nn)] [])) t
    refine XS.aloadN X5.here hx rfl (hb hby d11_24) rfl rfl ?_
    show Steps p.tables e below (T5.setTop (mkF m 25 #[.val (.ref sb), .val (.ref a), .val (.int nn)] [(.ref sb)])) t
    refine XS.aloadN X5.here hx rfl (hb hby d11_25) rfl rfl ?_
    show Steps p.tables e below (T5.setTop (mkF m 26 #[.val (.ref sb), .val (.ref a), .val (.int nn)] [(.ref sb), (.ref sb)])) t
    refine st6 _ ?_
    show Steps p.tables e below (T6.setTop (mkF m 29 #[.val (.ref sb), .val (.ref a), .val (.int nn)] [(.int dp), (.ref sb)])) t
    refine XS.aloadN X6.here hx rfl (hb hby d11_29) rfl rfl ?_
    show Steps p.tables e below (T6.setTop (mkF m 30 #[.val (.ref sb), .val (.ref a), .val (.int nn)] [(.ref a), (.int dp), (.ref sb)])) t
    refine st7.trans ?_
    show Steps p.tables e below (T7.setTop (mkF m 33 #[.val (.ref sb), .val (.ref a), .val (.int nn)] [])) t
    refine XS.aloadN X7.here hx rfl (hb hby d11_33) rfl rfl ?_
    show Steps p.tables e below (T7.setTop (mkF m 34 #[.val (.ref sb), .val (.ref a), .val (.int nn)] [(.ref sb)])) t
    refine XS.dup X7.here hx rfl (hb hby d11_34) rfl rfl ?_
    show Steps p.tables e below (T7.setTop (mkF m 35 #[.val (.ref sb), .val (.ref a), .val (.int nn)] [(.ref sb), (.ref sb)])) t
    refine st8 _ ?_
    show Steps p.tables e below (T8.setTop (mkF m 38 #[.val (.ref sb), .val (.ref a), .val (.int nn)] [(.int dp), (.ref sb)])) t
    refine XS.iloadN X8.here hx rfl (hb hby d11_38) rfl ?_
    show Steps p.tables e below (T8.setTop (mkF m 39 #[.val (.ref sb), .val (.ref a), .val (.int nn)] [(.int nn), (.int dp), (.ref sb)])) t
    refine XS.iadd X8.here hx rfl (hb hby d11_39) rfl ?_
    exact k
  have R11 := R10
  rw [hsm] at R11
  have f13 : Exa Z T7.heap sb "java/lang/StringBuilder" := (Eb.keep K7q)
  obtain ⟨T12, h12, X12, e12, W12, st12⟩ := putF X8 hx hZ hown (host := "") (Or.inl (hw _ (List.mem_of_getElem? (i := 91) rfl))) Via.refl e8 f9 f13 (Or.inl (hw _ (List.mem_of_getElem? (i := 92) rfl))) (hw _ (List.mem_of_getElem? (i := 53) rfl)) (ty := .int) (by decide) rfl rfl (g := (mkF m 40 #[.val (.ref sb), .val (.ref a), .val (.int nn)] [(.int sm), (.ref sb)])) rfl rfl (hb hby d11_40)
  have f14 : Exa Z T7.heap a "java/lang/String" := (Ea.keep K7q)
  have ne_a_sb : a ≠ sb := ne_exa f14 f13 (by decide)
  have Z12 : n0 ≤ h12.size := Nat.le_trans Z7 (Keep.of_wr W12).1
  have K12 : Keep h0 h12 [sb, td] := K7.wr W12 (Or.inl (List.mem_of_getElem? (i := 0) rfl))
  have O12 : Old Z n0 h12 := O7.wr W12 g_sb
  have N12 := Fr.snoc X12 N7 g_sb
  have fw12 : Fld Z h12 sb "java/lang/AbstractStringBuilder" "count" "I" (.int sm) := f9.same W12
  have R15 : ∀ t, Steps p.tables e below (T12.setTop (mkF m 44 #[.val (.ref sb), .val (.ref a), .val (.int nn)] [(.ref sb)])) t → Steps p.tables e below (s₁.setTop (entryFrame m #[(.ref sb), (.ref a)] 3)) t := by
    intro t k
    refine R11 t ?_
    show Steps p.tables e below (T8.setTop (mkF m 40 #[.val (.ref sb), .val (.ref a), .val (.int nn)] [(.int sm), (.ref sb)])) t
    refine st12 _ ?_
    show Steps p.tables e below (T12.setTop (mkF m 43 #[.val (.ref sb), .val (.ref a), .val (.int nn)] [])) t
    refine XS.aloadN X12.here hx rfl (hb hby d11_43) rfl rfl ?_
    exact k
  have f16 : Exa Z h12 sb "java/lang/StringBuilder" := (f13.wr W12)
  have f17 : Fld Z h12 sb "java/lang/AbstractStringBuilder" "coder" "B" (.int (0 : Int32)) := ((Fbc.keep K7q (ninS ne_sb_td nin0)).other W12 (Or.inr (slot_ne (Or.inl (hw _ (List.mem_of_getElem? (i := 69) rfl))) (Or.inl (hw _ (List.mem_of_getElem? (i := 92) rfl))) (by decide) (t := .byte) (t' := .int) (by decide) (by decide))))
  have f18 : Fld Z h12 sb "java/lang/AbstractStringBuilder" "value" "[B" (.ref td) := ((Fbv.keep K7q (ninS ne_sb_td nin0)).other W12 (Or.inr (slot_ne (Or.inl (hw _ (List.mem_of_getElem? (i := 67) rfl))) (Or.inl (hw _ (List.mem_of_getElem? (i := 92) rfl))) (by decide) (t := (.array .byte)) (t' := .int) (by decide) (by decide))))
  have f19 : Arv Z h12 td kd .byte zd ns (.int 0) := (y7_0.other W12 (Ne.symm ne_sb_td))
  obtain ⟨fs, hr, hrun, hended, hW, hsame⟩ := X12.leave (v := some (.ref sb)) (fun h => by rw [Bd.returns] at h; cases h)
  refine ⟨_, _, R15 _ ?_, hrun, hended, _, _, rfl, ?_, ⟨_, rfl⟩, hW, hsame.mono (by decide) (by decide)⟩
  · show Steps p.tables e below (T12.setTop (mkF m 44 #[.val (.ref sb), .val (.ref a), .val (.int nn)] [(.ref sb)])) _
    exact retOut X12 hx Bd.returns rfl (Or.inr (Or.inr (Or.inr (Or.inr ⟨rfl, rfl, rfl⟩)))) (hb hby d11_44) hr
  · show Q_aapp Z zCS vFM a tv kv nn vs sb td kd zd vd dp ns sm h0 n0 _ T12.heap _
    rw [e12]
    exact ⟨rfl, N12, K12, f16, f17, f18, f19, fw12⟩
theorem d10_0 : decode jdk_67_method_7_code 0 = .ok (.aload_n 0, 1) := by decide +kernel
theorem d10_1 : decode jdk_67_method_7_code 1 = .ok (.aload_n 1, 1) := by decide +kernel
theorem pd_6 : parseMethodDescriptor "(Ljava/lang/String;)Ljava/lang/AbstractStringBuilder;" = some ⟨[(.object "java/lang/String")], some (.object "java/lang/AbstractStringBuilder")⟩ := by decide +kernel
theorem d10_2 : decode jdk_67_method_7_code 2 = .ok (.invokespecial 29, 3) := by decide +kernel
theorem d10_5 : decode jdk_67_method_7_code 5 = .ok (.pop, 1) := by decide +kernel
theorem d10_6 : decode jdk_67_method_7_code 6 = .ok (.aload_n 0, 1) := by decide +kernel
theorem d10_7 : decode jdk_67_method_7_code 7 = .ok (.areturn, 1) := by decide +kernel
theorem pn_java_lang_StringBuilder : plainName "java/lang/StringBuilder" = true := by first | (simp [plainName, overriddenIn]; done) | decide +kernel
theorem ef_sapp (m : MethodId) (a : Addr) (tv : Addr) (kv : ClassId) (nn : Int32) (vs : List Value) (sb : Addr) (td : Addr) (kd : ClassId) (zd : Int32) (vd : List Value) (dp : Int32) (ns : List Value) (sm : Int32) : entryFrame m #[(.ref sb), (.ref a)] 2 = mkF m 0 #[.val (.ref sb), .val (.ref a)] [] := by first | (simp [entryFrame, mkF, argsToLocals, Value.category]; done) | rfl
def Q_sapp (Z : State) (zCS : Int32) (vFM : Value) (a : Addr) (tv : Addr) (kv : ClassId) (nn : Int32) (vs : List Value) (sb : Addr) (td : Addr) (kd : ClassId) (zd : Int32) (vd : List Value) (dp : Int32) (ns : List Value) (sm : Int32) (h0 : Heap) (n0 : Nat) (vv_ : Option Value) (hh_ : Heap) (LL_ : List Loc) : Prop := vv_ = some (.ref sb) ∧ (Fr n0 LL_) ∧ (Keep h0 hh_ [sb, td]) ∧ (Exa Z hh_ sb "java/lang/StringBuilder") ∧ (Fld Z hh_ sb "java/lang/AbstractStringBuilder" "coder" "B" (.int (0 : Int32))) ∧ (Fld Z hh_ sb "java/lang/AbstractStringBuilder" "value" "[B" (.ref td)) ∧ (Arv Z hh_ td kd .byte zd ns (.int 0)) ∧ (Fld Z hh_ sb "java/lang/AbstractStringBuilder" "count" "I" (.int sm))
set_option maxRecDepth 65536 in
set_option maxHeartbeats 40000000 in
theorem sapp (l : Launch) (Z : State) (a0 : Array Value) (hw : ∀ d ∈ tables_1, d.before a0 Z = true) (ws : List Jvm.Cond) (zCS : Int32) (vFM : Value) (a : Addr) (tv : Addr) (kv : ClassId) (nn : Int32) (vs : List Value) (sb : Addr) (td : Addr) (kd : ClassId) (zd : Int32) (vd : List Value) (dp : Int32) (ns : List Value) (sm : Int32) (h0 : Heap) (n0 : Nat) (O0 : Old Z n0 h0) (S_CS : Sta Z Z.heap "java/lang/String" "COMPACT_STRINGS" "Z" (.int zCS)) (hCS : ¬ (zCS = (0 : Int32))) (hcT0 : Jvm.Lit.constHeld Z "com/example/relayout/relayout/plan/Transfer" 7) (hcT1 : Jvm.Lit.constHeld Z "com/example/relayout/relayout/plan/Transfer" 22) (hcT2 : Jvm.Lit.constHeld Z "com/example/relayout/relayout/plan/Transfer" 26) (hcT3 : Jvm.Lit.constHeld Z "com/example/relayout/relayout/plan/Transfer" 45) (hcT4 : Jvm.Lit.constHeld Z "com/example/relayout/relayout/plan/Transfer" 47) (hcH : Jvm.Lit.constHeld Z "java/lang/String" 7) (hcW : Jvm.Lit.compactW.before a0 Z = true) (S_FM : Sta Z Z.heap "jdk/internal/util/Preconditions" "SIOOBE_FORMATTER" "Ljava/util/function/BiFunction;" vFM) (rFM : vFM.isRef = true) (g_sb : n0 ≤ sb) (g_td : n0 ≤ td) (Ea : Exa Z h0 a "java/lang/String") (Fc : Fld Z h0 a "java/lang/String" "coder" "B" (.int (0 : Int32))) (Fv : Fld Z h0 a "java/lang/String" "value" "[B" (.ref tv)) (Av : Arv Z h0 tv kv .byte nn vs (.int 0)) (Eb : Exa Z h0 sb "java/lang/StringBuilder") (Fbc : Fld Z h0 sb "java/lang/AbstractStringBuilder" "coder" "B" (.int (0 : Int32))) (Fbv : Fld Z h0 sb "java/lang/AbstractStringBuilder" "value" "[B" (.ref td)) (Ad : Arv Z h0 td kd .byte zd vd (.int 0)) (Fbn : Fld Z h0 sb "java/lang/AbstractStringBuilder" "count" "I" (.int dp)) (hd0 : ¬ (dp < (0 : Int32))) (hn0 : ¬ (nn < (0 : Int32))) (hb5 : dp.toNatClampNeg + nn.toNatClampNeg ≤ zd.toNatClampNeg) (hbl : dp.toNatClampNeg + nn.toNatClampNeg ≤ vd.length) (hns : (List.take dp.toNatClampNeg vd ++ (List.map (fun i => List.getD vs ((0 : Int32).toNatClampNeg + i) (.int 0)) (List.range nn.toNatClampNeg)) ++ List.drop (dp.toNatClampNeg + nn.toNatClampNeg) vd) = ns) (hsm : (dp + nn) = sm) (hle : ¬ ((0 : Int32) < (sm - zd))) :
    MetFree l (⟨"java/lang/StringBuilder", "append", "(Ljava/lang/String;)Ljava/lang/StringBuilder;"⟩ : MethodName) (head1 (Jvm.Cond.code (⟨"java/lang/StringBuilder", "append", "(Ljava/lang/String;)Ljava/lang/StringBuilder;"⟩ : MethodName) jdk_67_method_7_code 2 (some (.object "java/lang/StringBuilder")) :: ws) ({ frames := 4, cells := 0, slots := 0, locals := 61 } : Room)) (fun aa_ U_ => aa_ = #[(.ref sb), (.ref a)] ∧ Z.Warmed39 U_.vm ∧ U_.heap = h0) (fun _ _ _ _ _ => True) (fun _ U_ oo_ V_ => ∃ vv_ LL_, oo_ = .returned vv_ ∧ Q_sapp Z zCS vFM a tv kv nn vs sb td kd zd vd dp ns sm h0 n0 vv_ V_.heap LL_ ∧ FrameEnd U_ oo_ V_ LL_ ({ frames := 4, cells := 0, slots := 0, locals := 61 } : Room).cells ({ frames := 4, cells := 0, slots := 0, locals := 61 } : Room).slots) := by
  refine MetFree.of_bodySF (plainFor_of_name pn_java_lang_StringBuilder) hisR ?_
  intro p e s m args below meth c s₁ Bd hml0 hP hK
  obtain ⟨rfl, hZ, hh⟩ := hP
  have hx := Bd.exec
  have hby := Bd.bytes
  have hml : c.maxLocals = 2 := hml0
  have hown : s.vm.findClass "java/lang/StringBuilder" = some m.cls := findClass_of_methodNamed Bd.named
  have hnm := (name_of_methodNamed Bd.named Bd.method).1
  have X0 : Stand p l e ({ frames := 4, cells := 0, slots := 0, locals := 61 } : Room) s m #[(.ref sb), (.ref a)] below meth c s₁ [] 0 0 := Stand.of_body Bd
  have e0 : s₁.heap = h0 := by rw [← hh, Bd.state]; rfl
  have N0 := Fr.nil n0
  have Z0 : n0 ≤ h0.size := O0.1 ▸ O0.2.1
  have hk0 := Nat.zero_le h0.size
  have K0 : Keep h0 h0 [sb, td] := Keep.refl _ _
  have R0 : ∀ t, Steps p.tables e below (s₁.setTop (mkF m 0 #[.val (.ref sb), .val (.ref a)] [])) t → Steps p.tables e below (s₁.setTop (entryFrame m #[(.ref sb), (.ref a)] 2)) t := fun t k => castTop (ef_sapp m a tv kv nn vs sb td kd zd vd dp ns sm) k
  obtain ⟨_, _, ⟨T1, L1, k1, n1⟩, -, X1, ⟨Lc1, hQ1, cl_1, cy_1, cz_1⟩, st1⟩ := superBack X0 hx hZ (y := (⟨"java/lang/AbstractStringBuilder", "append", "(Ljava/lang/String;)Ljava/lang/AbstractStringBuilder;"⟩ : MethodName)) hown (hw _ (List.mem_of_getElem? (i := 75) rfl)) (own_same (y := (⟨"java/lang/AbstractStringBuilder", "append", "(Ljava/lang/String;)Ljava/lang/AbstractStringBuilder;"⟩ : MethodName)) (hw _ (List.mem_of_getElem? (i := 76) rfl)) (hw _ (List.mem_of_getElem? (i := 96) rfl)) (by decide)) (hw _ (List.mem_of_getElem? (i := 76) rfl)) (hw _ (List.mem_of_getElem? (i := 77) rfl)) (by decide) (backOf (W := 0) (aapp l Z a0 hw [] zCS vFM a tv kv nn vs sb td kd zd vd dp ns sm h0 n0 O0 S_CS hCS hcT0 hcT1 hcT2 hcT3 hcT4 hcH hcW S_FM rFM g_sb g_td  Ea Fc Fv Av Eb Fbc Fbv Ad Fbn hd0 hn0 hb5 hbl hns hsm hle) hZ (hw _ (List.mem_of_getElem? (i := 79) rfl)) (hw _ (List.mem_of_getElem? (i := 62) rfl)) (by decide) (by decide)) e0 (Ins.self Eb) (g := (mkF m 2 #[.val (.ref sb), .val (.ref a)] [(.ref a), (.ref sb)])) rfl (by rw [hml]; rfl) (hw _ (List.mem_of_getElem? (i := 79) rfl)) (argsL := [(.ref a)]) (rest := []) (lenOf pd_6 rfl) rfl (by show 2 * 0 + _ ≤ _; exact Nat.le_of_eq rfl) (hb hby d10_2) (fun _ _ => ⟨rfl, e0, (by decide : 0 + 0 ≤ _), (by decide : 0 + 0 ≤ _)⟩)
  dsimp only [Pt.U, Pt.locs, Pt.cells, Pt.slots] at X1 cl_1 cy_1 cz_1 st1 hQ1
  rw [cl_1, cy_1, cz_1] at X1
  obtain ⟨rfl, N1q, K1q, y1_0, y1_1, y1_2, y1_3, y1_4⟩ := hQ1
  have N1 := Fr.app N0 N1q
  have ne_a_sb : a ≠ sb := ne_exa Ea Eb (by decide)
  have ne_sb_tv : sb ≠ tv := Eb.neArv Av (hw _ (List.mem_of_getElem? (i := 53) rfl))
  have ne_sb_td : sb ≠ td := Eb.neArv Ad (hw _ (List.mem_of_getElem? (i := 53) rfl))
  have ne_a_td : a ≠ td := Ea.neArv Ad (hw _ (List.mem_of_getElem? (i := 5) rfl))
  have Z1 : n0 ≤ T1.heap.size := Nat.le_trans Z0 K1q.1
  have K1 : Keep h0 T1.heap [sb, td] := K0.trans K1q (allS (Or.inl (List.mem_of_getElem? (i := 0) rfl)) (allS (Or.inl (List.mem_of_getElem? (i := 1) rfl)) all0))
  have O1 : Old Z n0 T1.heap := O0.keep K1q (allS g_sb (allS g_td all0))
  have R2 : ∀ t, Steps p.tables e below (T1.setTop (mkF m 7 #[.val (.ref sb), .val (.ref a)] [(.ref sb)])) t → Steps p.tables e below (s₁.setTop (entryFrame m #[(.ref sb), (.ref a)] 2)) t := by
    intro t k
    refine R0 t ?_
    show Steps p.tables e below (s₁.setTop (mkF m 0 #[.val (.ref sb), .val (.ref a)] [])) t
    refine XS.aloadN X0.here hx rfl (hb hby d10_0) rfl rfl ?_
    show Steps p.tables e below (s₁.setTop (mkF m 1 #[.val (.ref sb), .val (.ref a)] [(.ref sb)])) t
    refine XS.aloadN X0.here hx rfl (hb hby d10_1) rfl rfl ?_
    show Steps p.tables e below (s₁.setTop (mkF m 2 #[.val (.ref sb), .val (.ref a)] [(.ref a), (.ref sb)])) t
    refine st1.trans ?_
    show Steps p.tables e below (T1.setTop (mkF m 5 #[.val (.ref sb), .val (.ref a)] [(.ref sb)])) t
    refine XS.pop X1.here hx rfl (hb hby d10_5) rfl rfl ?_
    show Steps p.tables e below (T1.setTop (mkF m 6 #[.val (.ref sb), .val (.ref a)] [])) t
    refine XS.aloadN X1.here hx rfl (hb hby d10_6) rfl rfl ?_
    exact k
  obtain ⟨fs, hr, hrun, hended, hW, hsame⟩ := X1.leave (v := some (.ref sb)) (fun h => by rw [Bd.returns] at h; cases h)
  refine ⟨_, _, R2 _ ?_, hrun, hended, _, _, rfl, ?_, ⟨_, rfl⟩, hW, hsame.mono (by decide) (by decide)⟩
  · show Steps p.tables e below (T1.setTop (mkF m 7 #[.val (.ref sb), .val (.ref a)] [(.ref sb)])) _
    exact retOut X1 hx Bd.returns rfl (Or.inr (Or.inr (Or.inr (Or.inr ⟨rfl, rfl, rfl⟩)))) (hb hby d10_7) hr
  · show Q_sapp Z zCS vFM a tv kv nn vs sb td kd zd vd dp ns sm h0 n0 _ T1.heap _
    exact ⟨rfl, N1, K1, y1_0, y1_1, y1_2, y1_3, y1_4⟩
theorem d9_0 : decode jdk_68_method_2_code 0 = .ok (.aload_n 0, 1) := by decide +kernel
theorem d9_1 : decode jdk_68_method_2_code 1 = .ok (.invokespecial 3, 3) := by decide +kernel
theorem d9_4 : decode jdk_68_method_2_code 4 = .ok (.getstatic 18, 3) := by decide +kernel
theorem d9_7 : decode jdk_68_method_2_code 7 = .ok (.ifCond .eq 18, 3) := by decide +kernel
theorem d9_10 : decode jdk_68_method_2_code 10 = .ok (.aload_n 0, 1) := by decide +kernel
theorem d9_11 : decode jdk_68_method_2_code 11 = .ok (.iload_n 1, 1) := by decide +kernel
theorem d9_12 : decode jdk_68_method_2_code 12 = .ok (.newarray .byte, 2) := by decide +kernel
theorem d9_14 : decode jdk_68_method_2_code 14 = .ok (.putfield 15, 3) := by decide +kernel
theorem d9_17 : decode jdk_68_method_2_code 17 = .ok (.aload_n 0, 1) := by decide +kernel
theorem d9_18 : decode jdk_68_method_2_code 18 = .ok (.iconst 0, 1) := by decide +kernel
theorem d9_19 : decode jdk_68_method_2_code 19 = .ok (.putfield 22, 3) := by decide +kernel
theorem d9_22 : decode jdk_68_method_2_code 22 = .ok (.goto 16, 3) := by decide +kernel
theorem d9_38 : decode jdk_68_method_2_code 38 = .ok (.return_, 1) := by decide +kernel
theorem ef_ainit (m : MethodId) (sb : Addr) (u1 : Value) (u2 : Value) : entryFrame m #[(.ref sb), (.int (16 : Int32))] 2 = mkF m 0 #[.val (.ref sb), .val (.int (16 : Int32))] [] := by first | (simp [entryFrame, mkF, argsToLocals, Value.category]; done) | rfl
def Q_ainit (Z : State) (zCS : Int32) (vFM : Value) (sb : Addr) (u1 : Value) (u2 : Value) (h0 : Heap) (n0 : Nat) (vv_ : Option Value) (hh_ : Heap) (LL_ : List Loc) : Prop := ∃ (td : Addr) (kd : ClassId), vv_ = none ∧ (Fr n0 LL_) ∧ (Keep h0 hh_ [sb]) ∧ (h0.size ≤ td) ∧ (Exa Z hh_ sb "java/lang/StringBuilder") ∧ (Fld Z hh_ sb "java/lang/AbstractStringBuilder" "coder" "B" (.int (0 : Int32))) ∧ (Fld Z hh_ sb "java/lang/AbstractStringBuilder" "value" "[B" (.ref td)) ∧ (Arv Z hh_ td kd .byte (16 : Int32) [(.int (0 : Int32)), (.int (0 : Int32)), (.int (0 : Int32)), (.int (0 : Int32)), (.int (0 : Int32)), (.int (0 : Int32)), (.int (0 : Int32)), (.int (0 : Int32)), (.int (0 : Int32)), (.int (0 : Int32)), (.int (0 : Int32)), (.int (0 : Int32)), (.int (0 : Int32)), (.int (0 : Int32)), (.int (0 : Int32)), (.int (0 : Int32))] (.int 0)) ∧ (Fld Z hh_ sb "java/lang/AbstractStringBuilder" "count" "I" (.int (0 : Int32)))
set_option maxRecDepth 65536 in
set_option maxHeartbeats 40000000 in
theorem ainit (l : Launch) (Z : State) (a0 : Array Value) (hw : ∀ d ∈ tables_1, d.before a0 Z = true) (ws : List Jvm.Cond) (zCS : Int32) (vFM : Value) (sb : Addr) (u1 : Value) (u2 : Value) (h0 : Heap) (n0 : Nat) (O0 : Old Z n0 h0) (S_CS : Sta Z Z.heap "java/lang/String" "COMPACT_STRINGS" "Z" (.int zCS)) (hCS : ¬ (zCS = (0 : Int32))) (hcT0 : Jvm.Lit.constHeld Z "com/example/relayout/relayout/plan/Transfer" 7) (hcT1 : Jvm.Lit.constHeld Z "com/example/relayout/relayout/plan/Transfer" 22) (hcT2 : Jvm.Lit.constHeld Z "com/example/relayout/relayout/plan/Transfer" 26) (hcT3 : Jvm.Lit.constHeld Z "com/example/relayout/relayout/plan/Transfer" 45) (hcT4 : Jvm.Lit.constHeld Z "com/example/relayout/relayout/plan/Transfer" 47) (hcH : Jvm.Lit.constHeld Z "java/lang/String" 7) (hcW : Jvm.Lit.compactW.before a0 Z = true) (S_FM : Sta Z Z.heap "jdk/internal/util/Preconditions" "SIOOBE_FORMATTER" "Ljava/util/function/BiFunction;" vFM) (rFM : vFM.isRef = true) (g_sb : n0 ≤ sb) (Eb : Exa Z h0 sb "java/lang/StringBuilder") (Fu1 : Fld Z h0 sb "java/lang/AbstractStringBuilder" "coder" "B" u1) (Fu2 : Fld Z h0 sb "java/lang/AbstractStringBuilder" "value" "[B" u2) (Fu3 : Fld Z h0 sb "java/lang/AbstractStringBuilder" "count" "I" (.int (0 : Int32))) :
    MetFree l (⟨"java/lang/AbstractStringBuilder", "<init>", "(I)V"⟩ : MethodName) (head1 (Jvm.Cond.code (⟨"java/lang/AbstractStringBuilder", "<init>", "(I)V"⟩ : MethodName) jdk_68_method_2_code 2 none :: ws) ({ frames := 1, cells := 1, slots := 16, locals := 12 } : Room)) (fun aa_ U_ => aa_ = #[(.ref sb), (.int (16 : Int32))] ∧ Z.Warmed39 U_.vm ∧ U_.heap = h0) (fun _ _ _ _ _ => True) (fun _ U_ oo_ V_ => ∃ vv_ LL_, oo_ = .returned vv_ ∧ Q_ainit Z zCS vFM sb u1 u2 h0 n0 vv_ V_.heap LL_ ∧ FrameEnd U_ oo_ V_ LL_ ({ frames := 1, cells := 1, slots := 16, locals := 12 } : Room).cells ({ frames := 1, cells := 1, slots := 16, locals := 12 } : Room).slots) := by
  refine MetFree.of_bodySF (plainFor_of_name pn_java_lang_AbstractStringBuilder) hisR ?_
  intro p e s m args below meth c s₁ Bd hml0 hP hK
  obtain ⟨rfl, hZ, hh⟩ := hP
  have hx := Bd.exec
  have hby := Bd.bytes
  have hml : c.maxLocals = 2 := hml0
  have hown : s.vm.findClass "java/lang/AbstractStringBuilder" = some m.cls := findClass_of_methodNamed Bd.named
  have hnm := (name_of_methodNamed Bd.named Bd.method).1
  have X0 : Stand p l e ({ frames := 1, cells := 1, slots := 16, locals := 12 } : Room) s m #[(.ref sb), (.int (16 : Int32))] below meth c s₁ [] 0 0 := Stand.of_body Bd
  have e0 : s₁.heap = h0 := by rw [← hh, Bd.state]; rfl
  have N0 := Fr.nil n0
  have Z0 : n0 ≤ h0.size := O0.1 ▸ O0.2.1
  have hk0 := Nat.zero_le h0.size
  have K0 : Keep h0 h0 [sb] := Keep.refl _ _
  have R0 : ∀ t, Steps p.tables e below (s₁.setTop (mkF m 0 #[.val (.ref sb), .val (.int (16 : Int32))] [])) t → Steps p.tables e below (s₁.setTop (entryFrame m #[(.ref sb), (.int (16 : Int32))] 2)) t := fun t k => castTop (ef_ainit m sb u1 u2) k
  obtain ⟨T1, X1, e1, st1⟩ := initO X0 hx hZ hown (hw _ (List.mem_of_getElem? (i := 64) rfl)) (hw _ (List.mem_of_getElem? (i := 16) rfl)) (hw _ (List.mem_of_getElem? (i := 17) rfl)) e0 (g := (mkF m 1 #[.val (.ref sb), .val (.int (16 : Int32))] [(.ref sb)])) rfl (by rw [hml]; rfl) rfl (hb hby d9_1) (by decide) (W := 0) (by show 2 * 0 + _ ≤ _; exact Nat.le_of_eq rfl) (by decide)
  obtain ⟨T2, X2, e2, st2⟩ := getS2 X1 hx hZ hown (host := "") (Or.inl (hw _ (List.mem_of_getElem? (i := 65) rfl))) Via.refl e1 (S_CS.ext O0.2) (g := (mkF m 4 #[.val (.ref sb), .val (.int (16 : Int32))] [])) rfl (hb hby d9_4)
  obtain ⟨T3, h3, k3, X3, e3, E3, A3, st3⟩ := newP X2 hx hZ (hw _ (List.mem_of_getElem? (i := 19) rfl)) e2 (g := (mkF m 12 #[.val (.ref sb), .val (.int (16 : Int32))] [(.int (16 : Int32)), (.ref sb)])) rfl (hb hby d9_12) rfl (by decide) (cap := 16) (by decide) (by decide) (by decide) (by decide)
  obtain ⟨b3, gg3⟩ : ∃ z, z = h0.size := ⟨_, rfl⟩
  rw [← gg3] at A3 st3
  have ne_sb_b3 : sb ≠ b3 := Nat.ne_of_lt (Nat.lt_of_lt_of_le Eb.lt (Nat.le_of_eq gg3.symm))
  have g_b3 : n0 ≤ b3 := Nat.le_trans Z0 (Nat.le_of_eq gg3.symm)
  have sz_b3 : h0.size ≤ b3 := Nat.le_trans K0.1 (Nat.le_of_eq gg3.symm)
  have Z3 : n0 ≤ h3.size := Nat.le_trans Z0 E3.1
  have K3 : Keep h0 h3 [sb] := K0.ext E3
  have O3 : Old Z n0 h3 := O0.ext E3
  have V3 : Arv Z h3 b3 k3 .byte (16 : Int32) [(.int (0 : Int32)), (.int (0 : Int32)), (.int (0 : Int32)), (.int (0 : Int32)), (.int (0 : Int32)), (.int (0 : Int32)), (.int (0 : Int32)), (.int (0 : Int32)), (.int (0 : Int32)), (.int (0 : Int32)), (.int (0 : Int32)), (.int (0 : Int32)), (.int (0 : Int32)), (.int (0 : Int32)), (.int (0 : Int32)), (.int (0 : Int32))] (.int (0 : Int32)) := (Arv.new A3 (by decide)).pad (pad_rep [] (.int (0 : Int32)) 16)
  have f5 : Exa Z h3 sb "java/lang/StringBuilder" := (Eb.ext E3)
  have f6 : Fld Z h3 sb "java/lang/AbstractStringBuilder" "value" "[B" u2 := (Fu2.ext E3)
  obtain ⟨T4, h4, X4, e4, W4, st4⟩ := putF X3 hx hZ hown (host := "") (Or.inl (hw _ (List.mem_of_getElem? (i := 66) rfl))) Via.refl e3 f6 f5 (Or.inl (hw _ (List.mem_of_getElem? (i := 67) rfl))) (hw _ (List.mem_of_getElem? (i := 53) rfl)) (ty := (.array .byte)) (by decide) rfl rfl (g := (mkF m 14 #[.val (.ref sb), .val (.int (16 : Int32))] [(.ref b3), (.ref sb)])) rfl rfl (hb hby d9_14)
  have Z4 : n0 ≤ h4.size := Nat.le_trans Z3 (Keep.of_wr W4).1
  have K4 : Keep h0 h4 [sb] := K3.wr W4 (Or.inl (List.mem_of_getElem? (i := 0) rfl))
  have O4 : Old Z n0 h4 := O3.wr W4 g_sb
  have N4 := Fr.snoc X4 N0 g_sb
  have fw4 : Fld Z h4 sb "java/lang/AbstractStringBuilder" "value" "[B" (.ref b3) := f6.same W4
  have f8 : Exa Z h4 sb "java/lang/StringBuilder" := (f5.wr W4)
  have f9 : Fld Z h4 sb "java/lang/AbstractStringBuilder" "coder" "B" u1 := ((Fu1.ext E3).other W4 (Or.inr (slot_ne (Or.inl (hw _ (List.mem_of_getElem? (i := 69) rfl))) (Or.inl (hw _ (List.mem_of_getElem? (i := 67) rfl))) (by decide) (t := .byte) (t' := (.array .byte)) (by decide) (by decide))))
  obtain ⟨T7, h7, X7, e7, W7, st7⟩ := putFN X4 hx hZ hown (hw _ (List.mem_of_getElem? (i := 68) rfl)) Via.refl e4 f9 f8 (Or.inl (hw _ (List.mem_of_getElem? (i := 69) rfl))) (hw _ (List.mem_of_getElem? (i := 53) rfl)) (ty := .byte) (v' := (.int (0 : Int32))) (by decide) (by decide) (by decide) (g := (mkF m 19 #[.val (.ref sb), .val (.int (16 : Int32))] [(.int (0 : Int32)), (.ref sb)])) rfl rfl (hb hby d9_19)
  have Z7 : n0 ≤ h7.size := Nat.le_trans Z4 (Keep.of_wr W7).1
  have K7 : Keep h0 h7 [sb] := K4.wr W7 (Or.inl (List.mem_of_getElem? (i := 0) rfl))
  have O7 : Old Z n0 h7 := O4.wr W7 g_sb
  have N7 := Fr.snoc X7 N4 g_sb
  have fw7 : Fld Z h7 sb "java/lang/AbstractStringBuilder" "coder" "B" (.int (0 : Int32)) := f9.same W7
  have R10 : ∀ t, Steps p.tables e below (T7.setTop (mkF m 38 #[.val (.ref sb), .val (.int (16 : Int32))] [])) t → Steps p.tables e below (s₁.setTop (entryFrame m #[(.ref sb), (.int (16 : Int32))] 2)) t := by
    intro t k
    refine R0 t ?_
    show Steps p.tables e below (s₁.setTop (mkF m 0 #[.val (.ref sb), .val (.int (16 : Int32))] [])) t
    refine XS.aloadN X0.here hx rfl (hb hby d9_0) rfl rfl ?_
    show Steps p.tables e below (s₁.setTop (mkF m 1 #[.val (.ref sb), .val (.int (16 : Int32))] [(.ref sb)])) t
    refine st1 _ ?_
    show Steps p.tables e below (T1.setTop (mkF m 4 #[.val (.ref sb), .val (.int (16 : Int32))] [])) t
    refine st2 _ ?_
    show Steps p.tables e below (T2.setTop (mkF m 7 #[.val (.ref sb), .val (.int (16 : Int32))] [(.int zCS)])) t
    refine XS.ifNo X2.here hx rfl (hb hby d9_7) rfl ((if0 _ _).trans (feq (hCS : ¬ (zCS = (0 : Int32)))).1) ?_
    show Steps p.tables e below (T2.setTop (mkF m 10 #[.val (.ref sb), .val (.int (16 : Int32))] [])) t
    refine XS.aloadN X2.here hx rfl (hb hby d9_10) rfl rfl ?_
    show Steps p.tables e below (T2.setTop (mkF m 11 #[.val (.ref sb), .val (.int (16 : Int32))] [(.ref sb)])) t
    refine XS.iloadN X2.here hx rfl (hb hby d9_11) rfl ?_
    show Steps p.tables e below (T2.setTop (mkF m 12 #[.val (.ref sb), .val (.int (16 : Int32))] [(.int (16 : Int32)), (.ref sb)])) t
    refine st3 _ ?_
    show Steps p.tables e below (T3.setTop (mkF m 14 #[.val (.ref sb), .val (.int (16 : Int32))] [(.ref b3), (.ref sb)])) t
    refine st4 _ ?_
    show Steps p.tables e below (T4.setTop (mkF m 17 #[.val (.ref sb), .val (.int (16 : Int32))] [])) t
    refine XS.aloadN X4.here hx rfl (hb hby d9_17) rfl rfl ?_
    show Steps p.tables e below (T4.setTop (mkF m 18 #[.val (.ref sb), .val (.int (16 : Int32))] [(.ref sb)])) t
    refine XS.iconst X4.here hx rfl (hb hby d9_18) ?_
    show Steps p.tables e below (T4.setTop (mkF m 19 #[.val (.ref sb), .val (.int (16 : Int32))] [(.int (0 : Int32)), (.ref sb)])) t
    refine st7 _ ?_
    show Steps p.tables e below (T7.setTop (mkF m 22 #[.val (.ref sb), .val (.int (16 : Int32))] [])) t
    refine XS.goto X7.here hx rfl (pc0 := 22) (pc' := 38) rfl (hb hby d9_22) (by decide) (by decide) ?_
    exact k
  have f11 : Exa Z h7 sb "java/lang/StringBuilder" := (f8.wr W7)
  have f12 : Fld Z h7 sb "java/lang/AbstractStringBuilder" "value" "[B" (.ref b3) := (fw4.other W7 (Or.inr (slot_ne (Or.inl (hw _ (List.mem_of_getElem? (i := 67) rfl))) (Or.inl (hw _ (List.mem_of_getElem? (i := 69) rfl))) (by decide) (t := (.array .byte)) (t' := .byte) (by decide) (by decide))))
  have f13 : Arv Z h7 b3 k3 .byte (16 : Int32) [(.int (0 : Int32)), (.int (0 : Int32)), (.int (0 : Int32)), (.int (0 : Int32)), (.int (0 : Int32)), (.int (0 : Int32)), (.int (0 : Int32)), (.int (0 : Int32)), (.int (0 : Int32)), (.int (0 : Int32)), (.int (0 : Int32)), (.int (0 : Int32)), (.int (0 : Int32)), (.int (0 : Int32)), (.int (0 : Int32)), (.int (0 : Int32))] (.int (0 : Int32)) := ((V3.other W4 (Ne.symm ne_sb_b3)).other W7 (Ne.symm ne_sb_b3))
  have f14 : Fld Z h7 sb "java/lang/AbstractStringBuilder" "count" "I" (.int (0 : Int32)) := (((Fu3.ext E3).other W4 (Or.inr (slot_ne (Or.inl (hw _ (List.mem_of_getElem? (i := 92) rfl))) (Or.inl (hw _ (List.mem_of_getElem? (i := 67) rfl))) (by decide) (t := .int) (t' := (.array .byte)) (by decide) (by decide)))).other W7 (Or.inr (slot_ne (Or.inl (hw _ (List.mem_of_getElem? (i := 92) rfl))) (Or.inl (hw _ (List.mem_of_getElem? (i := 69) rfl))) (by decide) (t := .int) (t' := .byte) (by decide) (by decide))))
  obtain ⟨fs, hr, hrun, hended, hW, hsame⟩ := X7.leave (v := none) (fun _ => rfl)
  refine ⟨_, _, R10 _ ?_, hrun, hended, _, _, rfl, ?_, ⟨_, rfl⟩, hW, hsame.mono (by decide) (by decide)⟩
  · show Steps p.tables e below (T7.setTop (mkF m 38 #[.val (.ref sb), .val (.int (16 : Int32))] [])) _
    exact X7.returnOut hx Bd.returns (hb hby d9_38) hr
  · show Q_ainit Z zCS vFM sb u1 u2 h0 n0 _ T7.heap _
    rw [e7]
    exact ⟨b3, k3, rfl, N7, K7, sz_b3, f11, fw7, f12, f13, f14⟩
theorem d8_0 : decode jdk_67_method_1_code 0 = .ok (.aload_n 0, 1) := by decide +kernel
theorem d8_1 : decode jdk_67_method_1_code 1 = .ok (.bipush 16, 2) := by decide +kernel
theorem d8_3 : decode jdk_67_method_1_code 3 = .ok (.invokespecial 1, 3) := by decide +kernel
theorem d8_6 : decode jdk_67_method_1_code 6 = .ok (.return_, 1) := by decide +kernel
theorem ef_binit (m : MethodId) (sb : Addr) (u1 : Value) (u2 : Value) : entryFrame m #[(.ref sb)] 1 = mkF m 0 #[.val (.ref sb)] [] := by first | (simp [entryFrame, mkF, argsToLocals, Value.category]; done) | rfl
def Q_binit (Z : State) (zCS : Int32) (vFM : Value) (sb : Addr) (u1 : Value) (u2 : Value) (h0 : Heap) (n0 : Nat) (vv_ : Option Value) (hh_ : Heap) (LL_ : List Loc) : Prop := ∃ (td : Addr) (kd : ClassId), vv_ = none ∧ (Fr n0 LL_) ∧ (Keep h0 hh_ [sb]) ∧ (h0.size ≤ td) ∧ (Exa Z hh_ sb "java/lang/StringBuilder") ∧ (Fld Z hh_ sb "java/lang/AbstractStringBuilder" "coder" "B" (.int (0 : Int32))) ∧ (Fld Z hh_ sb "java/lang/AbstractStringBuilder" "value" "[B" (.ref td)) ∧ (Arv Z hh_ td kd .byte (16 : Int32) [(.int (0 : Int32)), (.int (0 : Int32)), (.int (0 : Int32)), (.int (0 : Int32)), (.int (0 : Int32)), (.int (0 : Int32)), (.int (0 : Int32)), (.int (0 : Int32)), (.int (0 : Int32)), (.int (0 : Int32)), (.int (0 : Int32)), (.int (0 : Int32)), (.int (0 : Int32)), (.int (0 : Int32)), (.int (0 : Int32)), (.int (0 : Int32))] (.int 0)) ∧ (Fld Z hh_ sb "java/lang/AbstractStringBuilder" "count" "I" (.int (0 : Int32)))
set_option maxRecDepth 65536 in
set_option maxHeartbeats 40000000 in
theorem binit (l : Launch) (Z : State) (a0 : Array Value) (hw : ∀ d ∈ tables_1, d.before a0 Z = true) (ws : List Jvm.Cond) (zCS : Int32) (vFM : Value) (sb : Addr) (u1 : Value) (u2 : Value) (h0 : Heap) (n0 : Nat) (O0 : Old Z n0 h0) (S_CS : Sta Z Z.heap "java/lang/String" "COMPACT_STRINGS" "Z" (.int zCS)) (hCS : ¬ (zCS = (0 : Int32))) (hcT0 : Jvm.Lit.constHeld Z "com/example/relayout/relayout/plan/Transfer" 7) (hcT1 : Jvm.Lit.constHeld Z "com/example/relayout/relayout/plan/Transfer" 22) (hcT2 : Jvm.Lit.constHeld Z "com/example/relayout/relayout/plan/Transfer" 26) (hcT3 : Jvm.Lit.constHeld Z "com/example/relayout/relayout/plan/Transfer" 45) (hcT4 : Jvm.Lit.constHeld Z "com/example/relayout/relayout/plan/Transfer" 47) (hcH : Jvm.Lit.constHeld Z "java/lang/String" 7) (hcW : Jvm.Lit.compactW.before a0 Z = true) (S_FM : Sta Z Z.heap "jdk/internal/util/Preconditions" "SIOOBE_FORMATTER" "Ljava/util/function/BiFunction;" vFM) (rFM : vFM.isRef = true) (g_sb : n0 ≤ sb) (Eb : Exa Z h0 sb "java/lang/StringBuilder") (Fu1 : Fld Z h0 sb "java/lang/AbstractStringBuilder" "coder" "B" u1) (Fu2 : Fld Z h0 sb "java/lang/AbstractStringBuilder" "value" "[B" u2) (Fu3 : Fld Z h0 sb "java/lang/AbstractStringBuilder" "count" "I" (.int (0 : Int32))) :
    MetFree l (⟨"java/lang/StringBuilder", "<init>", "()V"⟩ : MethodName) (head1 (Jvm.Cond.code (⟨"java/lang/StringBuilder", "<init>", "()V"⟩ : MethodName) jdk_67_method_1_code 1 none :: ws) ({ frames := 2, cells := 1, slots := 16, locals := 25 } : Room)) (fun aa_ U_ => aa_ = #[(.ref sb)] ∧ Z.Warmed39 U_.vm ∧ U_.heap = h0) (fun _ _ _ _ _ => True) (fun _ U_ oo_ V_ => ∃ vv_ LL_, oo_ = .returned vv_ ∧ Q_binit Z zCS vFM sb u1 u2 h0 n0 vv_ V_.heap LL_ ∧ FrameEnd U_ oo_ V_ LL_ ({ frames := 2, cells := 1, slots := 16, locals := 25 } : Room).cells ({ frames := 2, cells := 1, slots := 16, locals := 25 } : Room).slots) := by
  refine MetFree.of_bodySF (plainFor_of_name pn_java_lang_StringBuilder) hisR ?_
  intro p e s m args below meth c s₁ Bd hml0 hP hK
  obtain ⟨rfl, hZ, hh⟩ := hP
  have hx := Bd.exec
  have hby := Bd.bytes
  have hml : c.maxLocals = 1 := hml0
  have hown : s.vm.findClass "java/lang/StringBuilder" = some m.cls := findClass_of_methodNamed Bd.named
  have hnm := (name_of_methodNamed Bd.named Bd.method).1
  have X0 : Stand p l e ({ frames := 2, cells := 1, slots := 16, locals := 25 } : Room) s m #[(.ref sb)] below meth c s₁ [] 0 0 := Stand.of_body Bd
  have e0 : s₁.heap = h0 := by rw [← hh, Bd.state]; rfl
  have N0 := Fr.nil n0
  have Z0 : n0 ≤ h0.size := O0.1 ▸ O0.2.1
  have hk0 := Nat.zero_le h0.size
  have K0 : Keep h0 h0 [sb] := Keep.refl _ _
  have R0 : ∀ t, Steps p.tables e below (s₁.setTop (mkF m 0 #[.val (.ref sb)] [])) t → Steps p.tables e below (s₁.setTop (entryFrame m #[(.ref sb)] 1)) t := fun t k => castTop (ef_binit m sb u1 u2) k
  obtain ⟨_, _, ⟨T1, L1, k1, n1⟩, -, X1, ⟨Lc1, hQ1, cl_1, cy_1, cz_1⟩, st1⟩ := X0.specialBack hx (y := (⟨"java/lang/AbstractStringBuilder", "<init>", "(I)V"⟩ : MethodName)) rfl hown (mvT hZ (hw _ (List.mem_of_getElem? (i := 58) rfl))) (mvT hZ (hw _ (List.mem_of_getElem? (i := 59) rfl))) (mvT hZ (hw _ (List.mem_of_getElem? (i := 63) rfl))) (by decide) (backOf (W := 0) (ainit l Z a0 hw [] zCS vFM sb u1 u2 h0 n0 O0 S_CS hCS hcT0 hcT1 hcT2 hcT3 hcT4 hcH hcW S_FM rFM g_sb  Eb Fu1 Fu2 Fu3) hZ (hw _ (List.mem_of_getElem? (i := 63) rfl)) (hw _ (List.mem_of_getElem? (i := 62) rfl)) (by decide) (by decide)) (g := (mkF m 3 #[.val (.ref sb)] [(.int (16 : Int32)), (.ref sb)])) rfl (by rw [hml]; rfl) (Steps.refl _) (a := sb) (argsL := [(.int (16 : Int32))]) (rest := []) (lenOf pd_4 rfl) rfl (by show 2 * 0 + _ ≤ _; exact Nat.le_of_eq rfl) (hb hby d8_3) (fun _ _ => ⟨rfl, e0, (by decide : 0 + 1 ≤ _), (by decide : 0 + 16 ≤ _)⟩)
  dsimp only [Pt.U, Pt.locs, Pt.cells, Pt.slots] at X1 cl_1 cy_1 cz_1 st1 hQ1
  rw [cl_1, cy_1, cz_1] at X1
  obtain ⟨td1, kd1, rfl, N1q, K1q, fr1_td, y1_0, y1_1, y1_2, y1_3, y1_4⟩ := hQ1
  have N1 := Fr.app N0 N1q
  have ne_sb_td1 : sb ≠ td1 := Nat.ne_of_lt (Nat.lt_of_lt_of_le Eb.lt fr1_td)
  have g_td1 : n0 ≤ td1 := Nat.le_trans Z0 fr1_td
  have sz_td1 : h0.size ≤ td1 := Nat.le_trans K0.1 fr1_td
  have Z1 : n0 ≤ T1.heap.size := Nat.le_trans Z0 K1q.1
  have K1 : Keep h0 T1.heap [sb] := K0.trans K1q (allS (Or.inl (List.mem_of_getElem? (i := 0) rfl)) all0)
  have O1 : Old Z n0 T1.heap := O0.keep K1q (allS g_sb all0)
  have R2 : ∀ t, Steps p.tables e below (T1.setTop (mkF m 6 #[.val (.ref sb)] [])) t → Steps p.tables e below (s₁.setTop (entryFrame m #[(.ref sb)] 1)) t := by
    intro t k
    refine R0 t ?_
    show Steps p.tables e below (s₁.setTop (mkF m 0 #[.val (.ref sb)] [])) t
    refine XS.aloadN X0.here hx rfl (hb hby d8_0) rfl rfl ?_
    show Steps p.tables e below (s₁.setTop (mkF m 1 #[.val (.ref sb)] [(.ref sb)])) t
    refine XS.bipush X0.here hx rfl (hb hby d8_1) ?_
    show Steps p.tables e below (s₁.setTop (mkF m 3 #[.val (.ref sb)] [(.int (16 : Int32)), (.ref sb)])) t
    refine st1.trans ?_
    exact k
  obtain ⟨fs, hr, hrun, hended, hW, hsame⟩ := X1.leave (v := none) (fun _ => rfl)
  refine ⟨_, _, R2 _ ?_, hrun, hended, _, _, rfl, ?_, ⟨_, rfl⟩, hW, hsame.mono (by decide) (by decide)⟩
  · show Steps p.tables e below (T1.setTop (mkF m 6 #[.val (.ref sb)] [])) _
    exact X1.returnOut hx Bd.returns (hb hby d8_6) hr
  · show Q_binit Z zCS vFM sb u1 u2 h0 n0 _ T1.heap _
    exact ⟨td1, kd1, rfl, N1, K1, sz_td1, y1_0, y1_1, y1_2, y1_3, y1_4⟩
theorem d21_0 : decode jdk_68_method_64_code 0 = .ok (.aload_n 0, 1) := by decide +kernel
theorem d21_1 : decode jdk_68_method_64_code 1 = .ok (.getfield 15, 3) := by decide +kernel
theorem d21_4 : decode jdk_68_method_64_code 4 = .ok (.areturn, 1) := by decide +kernel
theorem ef_gval (m : MethodId) (sb : Addr) (td : Addr) : entryFrame m #[(.ref sb)] 1 = mkF m 0 #[.val (.ref sb)] [] := by first | (simp [entryFrame, mkF, argsToLocals, Value.category]; done) | rfl
def Q_gval (Z : State) (zCS : Int32) (vFM : Value) (sb : Addr) (td : Addr) (h0 : Heap) (n0 : Nat) (vv_ : Option Value) (hh_ : Heap) (LL_ : List Loc) : Prop := vv_ = some (.ref td) ∧ (Fr n0 LL_) ∧ (hh_ = h0)
set_option maxRecDepth 65536 in
set_option maxHeartbeats 40000000 in
theorem gval (l : Launch) (Z : State) (a0 : Array Value) (hw : ∀ d ∈ tables_1, d.before a0 Z = true) (ws : List Jvm.Cond) (zCS : Int32) (vFM : Value) (sb : Addr) (td : Addr) (h0 : Heap) (n0 : Nat) (O0 : Old Z n0 h0) (S_CS : Sta Z Z.heap "java/lang/String" "COMPACT_STRINGS" "Z" (.int zCS)) (hCS : ¬ (zCS = (0 : Int32))) (hcT0 : Jvm.Lit.constHeld Z "com/example/relayout/relayout/plan/Transfer" 7) (hcT1 : Jvm.Lit.constHeld Z "com/example/relayout/relayout/plan/Transfer" 22) (hcT2 : Jvm.Lit.constHeld Z "com/example/relayout/relayout/plan/Transfer" 26) (hcT3 : Jvm.Lit.constHeld Z "com/example/relayout/relayout/plan/Transfer" 45) (hcT4 : Jvm.Lit.constHeld Z "com/example/relayout/relayout/plan/Transfer" 47) (hcH : Jvm.Lit.constHeld Z "java/lang/String" 7) (hcW : Jvm.Lit.compactW.before a0 Z = true) (S_FM : Sta Z Z.heap "jdk/internal/util/Preconditions" "SIOOBE_FORMATTER" "Ljava/util/function/BiFunction;" vFM) (rFM : vFM.isRef = true) (Fbv : Fld Z h0 sb "java/lang/AbstractStringBuilder" "value" "[B" (.ref td)) :
    MetFree l (⟨"java/lang/AbstractStringBuilder", "getValue", "()[B"⟩ : MethodName) (head1 (Jvm.Cond.code (⟨"java/lang/AbstractStringBuilder", "getValue", "()[B"⟩ : MethodName) jdk_68_method_64_code 1 (some (.array .byte)) :: ws) ({ frames := 0, cells := 0, slots := 0, locals := 0 } : Room)) (fun aa_ U_ => aa_ = #[(.ref sb)] ∧ Z.Warmed39 U_.vm ∧ U_.heap = h0) (fun _ _ _ _ _ => True) (fun _ U_ oo_ V_ => ∃ vv_ LL_, oo_ = .returned vv_ ∧ Q_gval Z zCS vFM sb td h0 n0 vv_ V_.heap LL_ ∧ FrameEnd U_ oo_ V_ LL_ ({ frames := 0, cells := 0, slots := 0, locals := 0 } : Room).cells ({ frames := 0, cells := 0, slots := 0, locals := 0 } : Room).slots) := by
  refine MetFree.of_bodySF (plainFor_of_name pn_java_lang_AbstractStringBuilder) hisR ?_
  intro p e s m args below meth c s₁ Bd hml0 hP hK
  obtain ⟨rfl, hZ, hh⟩ := hP
  have hx := Bd.exec
  have hby := Bd.bytes
  have hml : c.maxLocals = 1 := hml0
  have hown : s.vm.findClass "java/lang/AbstractStringBuilder" = some m.cls := findClass_of_methodNamed Bd.named
  have hnm := (name_of_methodNamed Bd.named Bd.method).1
  have X0 : Stand p l e ({ frames := 0, cells := 0, slots := 0, locals := 0 } : Room) s m #[(.ref sb)] below meth c s₁ [] 0 0 := Stand.of_body Bd
  have e0 : s₁.heap = h0 := by rw [← hh, Bd.state]; rfl
  have N0 := Fr.nil n0
  have Z0 : n0 ≤ h0.size := O0.1 ▸ O0.2.1
  have hk0 := Nat.zero_le h0.size
  have K0 : Keep h0 h0 [] := Keep.refl _ _
  have R0 : ∀ t, Steps p.tables e below (s₁.setTop (mkF m 0 #[.val (.ref sb)] [])) t → Steps p.tables e below (s₁.setTop (entryFrame m #[(.ref sb)] 1)) t := fun t k => castTop (ef_gval m sb td) k
  obtain ⟨T1, X1, e1, st1⟩ := getF X0 hx hZ hown (host := "") (Or.inl (hw _ (List.mem_of_getElem? (i := 66) rfl))) Via.refl e0 Fbv (g := (mkF m 1 #[.val (.ref sb)] [(.ref sb)])) rfl rfl (hb hby d21_1)
  have R2 : ∀ t, Steps p.tables e below (T1.setTop (mkF m 4 #[.val (.ref sb)] [(.ref td)])) t → Steps p.tables e below (s₁.setTop (entryFrame m #[(.ref sb)] 1)) t := by
    intro t k
    refine R0 t ?_
    show Steps p.tables e below (s₁.setTop (mkF m 0 #[.val (.ref sb)] [])) t
    refine XS.aloadN X0.here hx rfl (hb hby d21_0) rfl rfl ?_
    show Steps p.tables e below (s₁.setTop (mkF m 1 #[.val (.ref sb)] [(.ref sb)])) t
    refine st1 _ ?_
    exact k
  obtain ⟨fs, hr, hrun, hended, hW, hsame⟩ := X1.leave (v := some (.ref td)) (fun h => by rw [Bd.returns] at h; cases h)
  refine ⟨_, _, R2 _ ?_, hrun, hended, _, _, rfl, ?_, ⟨_, rfl⟩, hW, hsame.mono (by decide) (by decide)⟩
  · show Steps p.tables e below (T1.setTop (mkF m 4 #[.val (.ref sb)] [(.ref td)])) _
    exact retOut X1 hx Bd.returns rfl (Or.inr (Or.inr (Or.inr (Or.inr ⟨rfl, rfl, rfl⟩)))) (hb hby d21_4) hr
  · show Q_gval Z zCS vFM sb td h0 n0 _ T1.heap _
    rw [e1]
    exact ⟨rfl, N0, rfl⟩
theorem d23_0 : decode jdk_68_method_6_code 0 = .ok (.aload_n 0, 1) := by decide +kernel
theorem d23_1 : decode jdk_68_method_6_code 1 = .ok (.getfield 79, 3) := by decide +kernel
theorem d23_4 : decode jdk_68_method_6_code 4 = .ok (.ireturn, 1) := by decide +kernel
theorem ef_alen (m : MethodId) (sb : Addr) (dp : Int32) : entryFrame m #[(.ref sb)] 1 = mkF m 0 #[.val (.ref sb)] [] := by first | (simp [entryFrame, mkF, argsToLocals, Value.category]; done) | rfl
def Q_alen (Z : State) (zCS : Int32) (vFM : Value) (sb : Addr) (dp : Int32) (h0 : Heap) (n0 : Nat) (vv_ : Option Value) (hh_ : Heap) (LL_ : List Loc) : Prop := vv_ = some (.int dp) ∧ (Fr n0 LL_) ∧ (hh_ = h0)
set_option maxRecDepth 65536 in
set_option maxHeartbeats 40000000 in
theorem alen (l : Launch) (Z : State) (a0 : Array Value) (hw : ∀ d ∈ tables_1, d.before a0 Z = true) (ws : List Jvm.Cond) (zCS : Int32) (vFM : Value) (sb : Addr) (dp : Int32) (h0 : Heap) (n0 : Nat) (O0 : Old Z n0 h0) (S_CS : Sta Z Z.heap "java/lang/String" "COMPACT_STRINGS" "Z" (.int zCS)) (hCS : ¬ (zCS = (0 : Int32))) (hcT0 : Jvm.Lit.constHeld Z "com/example/relayout/relayout/plan/Transfer" 7) (hcT1 : Jvm.Lit.constHeld Z "com/example/relayout/relayout/plan/Transfer" 22) (hcT2 : Jvm.Lit.constHeld Z "com/example/relayout/relayout/plan/Transfer" 26) (hcT3 : Jvm.Lit.constHeld Z "com/example/relayout/relayout/plan/Transfer" 45) (hcT4 : Jvm.Lit.constHeld Z "com/example/relayout/relayout/plan/Transfer" 47) (hcH : Jvm.Lit.constHeld Z "java/lang/String" 7) (hcW : Jvm.Lit.compactW.before a0 Z = true) (S_FM : Sta Z Z.heap "jdk/internal/util/Preconditions" "SIOOBE_FORMATTER" "Ljava/util/function/BiFunction;" vFM) (rFM : vFM.isRef = true) (Fbn : Fld Z h0 sb "java/lang/AbstractStringBuilder" "count" "I" (.int dp)) :
    MetFree l (⟨"java/lang/AbstractStringBuilder", "length", "()I"⟩ : MethodName) (head1 (Jvm.Cond.code (⟨"java/lang/AbstractStringBuilder", "length", "()I"⟩ : MethodName) jdk_68_method_6_code 1 (some .int) :: ws) ({ frames := 0, cells := 0, slots := 0, locals := 0 } : Room)) (fun aa_ U_ => aa_ = #[(.ref sb)] ∧ Z.Warmed39 U_.vm ∧ U_.heap = h0) (fun _ _ _ _ _ => True) (fun _ U_ oo_ V_ => ∃ vv_ LL_, oo_ = .returned vv_ ∧ Q_alen Z zCS vFM sb dp h0 n0 vv_ V_.heap LL_ ∧ FrameEnd U_ oo_ V_ LL_ ({ frames := 0, cells := 0, slots := 0, locals := 0 } : Room).cells ({ frames := 0, cells := 0, slots := 0, locals := 0 } : Room).slots) := by
  refine MetFree.of_bodySF (plainFor_of_name pn_java_lang_AbstractStringBuilder) hisR ?_
  intro p e s m args below meth c s₁ Bd hml0 hP hK
  obtain ⟨rfl, hZ, hh⟩ := hP
  have hx := Bd.exec
  have hby := Bd.bytes
  have hml : c.maxLocals = 1 := hml0
  have hown : s.vm.findClass "java/lang/AbstractStringBuilder" = some m.cls := findClass_of_methodNamed Bd.named
  have hnm := (name_of_methodNamed Bd.named Bd.method).1
  have X0 : Stand p l e ({ frames := 0, cells := 0, slots := 0, locals := 0 } : Room) s m #[(.ref sb)] below meth c s₁ [] 0 0 := Stand.of_body Bd
  have e0 : s₁.heap = h0 := by rw [← hh, Bd.state]; rfl
  have N0 := Fr.nil n0
  have Z0 : n0 ≤ h0.size := O0.1 ▸ O0.2.1
  have hk0 := Nat.zero_le h0.size
  have K0 : Keep h0 h0 [] := Keep.refl _ _
  have R0 : ∀ t, Steps p.tables e below (s₁.setTop (mkF m 0 #[.val (.ref sb)] [])) t → Steps p.tables e below (s₁.setTop (entryFrame m #[(.ref sb)] 1)) t := fun t k => castTop (ef_alen m sb dp) k
  obtain ⟨T1, X1, e1, st1⟩ := getF X0 hx hZ hown (host := "") (Or.inl (hw _ (List.mem_of_getElem? (i := 91) rfl))) Via.refl e0 Fbn (g := (mkF m 1 #[.val (.ref sb)] [(.ref sb)])) rfl rfl (hb hby d23_1)
  have R2 : ∀ t, Steps p.tables e below (T1.setTop (mkF m 4 #[.val (.ref sb)] [(.int dp)])) t → Steps p.tables e below (s₁.setTop (entryFrame m #[(.ref sb)] 1)) t := by
    intro t k
    refine R0 t ?_
    show Steps p.tables e below (s₁.setTop (mkF m 0 #[.val (.ref sb)] [])) t
    refine XS.aloadN X0.here hx rfl (hb hby d23_0) rfl rfl ?_
    show Steps p.tables e below (s₁.setTop (mkF m 1 #[.val (.ref sb)] [(.ref sb)])) t
    refine st1 _ ?_
    exact k
  obtain ⟨fs, hr, hrun, hended, hW, hsame⟩ := X1.leave (v := some (.int dp)) (fun h => by rw [Bd.returns] at h; cases h)
  refine ⟨_, _, R2 _ ?_, hrun, hended, _, _, rfl, ?_, ⟨_, rfl⟩, hW, hsame.mono (by decide) (by decide)⟩
  · show Steps p.tables e below (T1.setTop (mkF m 4 #[.val (.ref sb)] [(.int dp)])) _
    exact retOut X1 hx Bd.returns rfl (Or.inl ⟨rfl, Or.inl rfl, _, rfl⟩) (hb hby d23_4) hr
  · show Q_alen Z zCS vFM sb dp h0 n0 _ T1.heap _
    rw [e1]
    exact ⟨rfl, N0, rfl⟩
theorem d22_0 : decode jdk_67_method_93_code 0 = .ok (.aload_n 0, 1) := by decide +kernel
theorem d22_1 : decode jdk_67_method_93_code 1 = .ok (.invokespecial 343, 3) := by decide +kernel
theorem d22_4 : decode jdk_67_method_93_code 4 = .ok (.ireturn, 1) := by decide +kernel
theorem ef_blen (m : MethodId) (sb : Addr) (dp : Int32) : entryFrame m #[(.ref sb)] 1 = mkF m 0 #[.val (.ref sb)] [] := by first | (simp [entryFrame, mkF, argsToLocals, Value.category]; done) | rfl
def Q_blen (Z : State) (zCS : Int32) (vFM : Value) (sb : Addr) (dp : Int32) (h0 : Heap) (n0 : Nat) (vv_ : Option Value) (hh_ : Heap) (LL_ : List Loc) : Prop := vv_ = some (.int dp) ∧ (Fr n0 LL_) ∧ (hh_ = h0)
set_option maxRecDepth 65536 in
set_option maxHeartbeats 40000000 in
theorem blen (l : Launch) (Z : State) (a0 : Array Value) (hw : ∀ d ∈ tables_1, d.before a0 Z = true) (ws : List Jvm.Cond) (zCS : Int32) (vFM : Value) (sb : Addr) (dp : Int32) (h0 : Heap) (n0 : Nat) (O0 : Old Z n0 h0) (S_CS : Sta Z Z.heap "java/lang/String" "COMPACT_STRINGS" "Z" (.int zCS)) (hCS : ¬ (zCS = (0 : Int32))) (hcT0 : Jvm.Lit.constHeld Z "com/example/relayout/relayout/plan/Transfer" 7) (hcT1 : Jvm.Lit.constHeld Z "com/example/relayout/relayout/plan/Transfer" 22) (hcT2 : Jvm.Lit.constHeld Z "com/example/relayout/relayout/plan/Transfer" 26) (hcT3 : Jvm.Lit.constHeld Z "com/example/relayout/relayout/plan/Transfer" 45) (hcT4 : Jvm.Lit.constHeld Z "com/example/relayout/relayout/plan/Transfer" 47) (hcH : Jvm.Lit.constHeld Z "java/lang/String" 7) (hcW : Jvm.Lit.compactW.before a0 Z = true) (S_FM : Sta Z Z.heap "jdk/internal/util/Preconditions" "SIOOBE_FORMATTER" "Ljava/util/function/BiFunction;" vFM) (rFM : vFM.isRef = true) (Eb : Exa Z h0 sb "java/lang/StringBuilder") (Fbn : Fld Z h0 sb "java/lang/AbstractStringBuilder" "count" "I" (.int dp)) :
    MetFree l (⟨"java/lang/StringBuilder", "length", "()I"⟩ : MethodName) (head1 (Jvm.Cond.code (⟨"java/lang/StringBuilder", "length", "()I"⟩ : MethodName) jdk_67_method_93_code 1 (some .int) :: ws) ({ frames := 1, cells := 0, slots := 0, locals := 12 } : Room)) (fun aa_ U_ => aa_ = #[(.ref sb)] ∧ Z.Warmed39 U_.vm ∧ U_.heap = h0) (fun _ _ _ _ _ => True) (fun _ U_ oo_ V_ => ∃ vv_ LL_, oo_ = .returned vv_ ∧ Q_blen Z zCS vFM sb dp h0 n0 vv_ V_.heap LL_ ∧ FrameEnd U_ oo_ V_ LL_ ({ frames := 1, cells := 0, slots := 0, locals := 12 } : Room).cells ({ frames := 1, cells := 0, slots := 0, locals := 12 } : Room).slots) := by
  refine MetFree.of_bodySF (plainFor_of_name pn_java_lang_StringBuilder) hisR ?_
  intro p e s m args below meth c s₁ Bd hml0 hP hK
  obtain ⟨rfl, hZ, hh⟩ := hP
  have hx := Bd.exec
  have hby := Bd.bytes
  have hml : c.maxLocals = 1 := hml0
  have hown : s.vm.findClass "java/lang/StringBuilder" = some m.cls := findClass_of_methodNamed Bd.named
  have hnm := (name_of_methodNamed Bd.named Bd.method).1
  have X0 : Stand p l e ({ frames := 1, cells := 0, slots := 0, locals := 12 } : Room) s m #[(.ref sb)] below meth c s₁ [] 0 0 := Stand.of_body Bd
  have e0 : s₁.heap = h0 := by rw [← hh, Bd.state]; rfl
  have N0 := Fr.nil n0
  have Z0 : n0 ≤ h0.size := O0.1 ▸ O0.2.1
  have hk0 := Nat.zero_le h0.size
  have K0 : Keep h0 h0 [] := Keep.refl _ _
  have R0 : ∀ t, Steps p.tables e below (s₁.setTop (mkF m 0 #[.val (.ref sb)] [])) t → Steps p.tables e below (s₁.setTop (entryFrame m #[(.ref sb)] 1)) t := fun t k => castTop (ef_blen m sb dp) k
  obtain ⟨_, _, ⟨T1, L1, k1, n1⟩, -, X1, ⟨Lc1, hQ1, cl_1, cy_1, cz_1⟩, st1⟩ := superBack X0 hx hZ (y := (⟨"java/lang/AbstractStringBuilder", "length", "()I"⟩ : MethodName)) hown (hw _ (List.mem_of_getElem? (i := 143) rfl)) (own_same (y := (⟨"java/lang/AbstractStringBuilder", "length", "()I"⟩ : MethodName)) (hw _ (List.mem_of_getElem? (i := 139) rfl)) (hw _ (List.mem_of_getElem? (i := 96) rfl)) (by decide)) (hw _ (List.mem_of_getElem? (i := 139) rfl)) (hw _ (List.mem_of_getElem? (i := 77) rfl)) (by decide) (backOf (W := 0) (alen l Z a0 hw [] zCS vFM sb dp h0 n0 O0 S_CS hCS hcT0 hcT1 hcT2 hcT3 hcT4 hcH hcW S_FM rFM   Fbn) hZ (hw _ (List.mem_of_getElem? (i := 144) rfl)) (hw _ (List.mem_of_getElem? (i := 62) rfl)) (by decide) (by decide)) e0 (Ins.self Eb) (g := (mkF m 1 #[.val (.ref sb)] [(.ref sb)])) rfl (by rw [hml]; rfl) (hw _ (List.mem_of_getElem? (i := 144) rfl)) (argsL := []) (rest := []) (lenOf pd_3 rfl) rfl (by show 2 * 0 + _ ≤ _; exact Nat.le_of_eq rfl) (hb hby d22_1) (fun _ _ => ⟨rfl, e0, (by decide : 0 + 0 ≤ _), (by decide : 0 + 0 ≤ _)⟩)
  dsimp only [Pt.U, Pt.locs, Pt.cells, Pt.slots] at X1 cl_1 cy_1 cz_1 st1 hQ1
  rw [cl_1, cy_1, cz_1] at X1
  obtain ⟨rfl, N1q, e1⟩ := hQ1
  have N1 := Fr.app N0 N1q
  have R2 : ∀ t, Steps p.tables e below (T1.setTop (mkF m 4 #[.val (.ref sb)] [(.int dp)])) t → Steps p.tables e below (s₁.setTop (entryFrame m #[(.ref sb)] 1)) t := by
    intro t k
    refine R0 t ?_
    show Steps p.tables e below (s₁.setTop (mkF m 0 #[.val (.ref sb)] [])) t
    refine XS.aloadN X0.here hx rfl (hb hby d22_0) rfl rfl ?_
    show Steps p.tables e below (s₁.setTop (mkF m 1 #[.val (.ref sb)] [(.ref sb)])) t
    refine st1.trans ?_
    exact k
  obtain ⟨fs, hr, hrun, hended, hW, hsame⟩ := X1.leave (v := some (.int dp)) (fun h => by rw [Bd.returns] at h; cases h)
  refine ⟨_, _, R2 _ ?_, hrun, hended, _, _, rfl, ?_, ⟨_, rfl⟩, hW, hsame.mono (by decide) (by decide)⟩
  · show Steps p.tables e below (T1.setTop (mkF m 4 #[.val (.ref sb)] [(.int dp)])) _
    exact retOut X1 hx Bd.returns rfl (Or.inl ⟨rfl, Or.inl rfl, _, rfl⟩) (hb hby d22_4) hr
  · show Q_blen Z zCS vFM sb dp h0 n0 _ T1.heap _
    rw [e1]
    exact ⟨rfl, N1, rfl⟩
theorem d24_0 : decode jdk_68_method_68_code 0 = .ok (.getstatic 18, 3) := by decide +kernel
theorem d24_3 : decode jdk_68_method_68_code 3 = .ok (.ifCond .eq 14, 3) := by decide +kernel
theorem d24_6 : decode jdk_68_method_68_code 6 = .ok (.aload_n 0, 1) := by decide +kernel
theorem d24_7 : decode jdk_68_method_68_code 7 = .ok (.getfield 22, 3) := by decide +kernel
theorem d24_10 : decode jdk_68_method_68_code 10 = .ok (.ifCond .ne 7, 3) := by decide +kernel
theorem d24_13 : decode jdk_68_method_68_code 13 = .ok (.iconst 1, 1) := by decide +kernel
theorem d24_14 : decode jdk_68_method_68_code 14 = .ok (.goto 4, 3) := by decide +kernel
theorem d24_18 : decode jdk_68_method_68_code 18 = .ok (.ireturn, 1) := by decide +kernel
theorem ef_alat (m : MethodId) (sb : Addr) : entryFrame m #[(.ref sb)] 1 = mkF m 0 #[.val (.ref sb)] [] := by first | (simp [entryFrame, mkF, argsToLocals, Value.category]; done) | rfl
def Q_alat (Z : State) (zCS : Int32) (vFM : Value) (sb : Addr) (h0 : Heap) (n0 : Nat) (vv_ : Option Value) (hh_ : Heap) (LL_ : List Loc) : Prop := vv_ = some (.int (1 : Int32)) ∧ (Fr n0 LL_) ∧ (hh_ = h0)
set_option maxRecDepth 65536 in
set_option maxHeartbeats 40000000 in
theorem alat (l : Launch) (Z : State) (a0 : Array Value) (hw : ∀ d ∈ tables_1, d.before a0 Z = true) (ws : List Jvm.Cond) (zCS : Int32) (vFM : Value) (sb : Addr) (h0 : Heap) (n0 : Nat) (O0 : Old Z n0 h0) (S_CS : Sta Z Z.heap "java/lang/String" "COMPACT_STRINGS" "Z" (.int zCS)) (hCS : ¬ (zCS = (0 : Int32))) (hcT0 : Jvm.Lit.constHeld Z "com/example/relayout/relayout/plan/Transfer" 7) (hcT1 : Jvm.Lit.constHeld Z "com/example/relayout/relayout/plan/Transfer" 22) (hcT2 : Jvm.Lit.constHeld Z "com/example/relayout/relayout/plan/Transfer" 26) (hcT3 : Jvm.Lit.constHeld Z "com/example/relayout/relayout/plan/Transfer" 45) (hcT4 : Jvm.Lit.constHeld Z "com/example/relayout/relayout/plan/Transfer" 47) (hcH : Jvm.Lit.constHeld Z "java/lang/String" 7) (hcW : Jvm.Lit.compactW.before a0 Z = true) (S_FM : Sta Z Z.heap "jdk/internal/util/Preconditions" "SIOOBE_FORMATTER" "Ljava/util/function/BiFunction;" vFM) (rFM : vFM.isRef = true) (Eb : Exa Z h0 sb "java/lang/StringBuilder") (Fbc : Fld Z h0 sb "java/lang/AbstractStringBuilder" "coder" "B" (.int (0 : Int32))) :
    MetFree l (⟨"java/lang/AbstractStringBuilder", "isLatin1", "()Z"⟩ : MethodName) (head1 (Jvm.Cond.code (⟨"java/lang/AbstractStringBuilder", "isLatin1", "()Z"⟩ : MethodName) jdk_68_method_68_code 1 (some .boolean) :: ws) ({ frames := 0, cells := 0, slots := 0, locals := 0 } : Room)) (fun aa_ U_ => aa_ = #[(.ref sb)] ∧ Z.Warmed39 U_.vm ∧ U_.heap = h0) (fun _ _ _ _ _ => True) (fun _ U_ oo_ V_ => ∃ vv_ LL_, oo_ = .returned vv_ ∧ Q_alat Z zCS vFM sb h0 n0 vv_ V_.heap LL_ ∧ FrameEnd U_ oo_ V_ LL_ ({ frames := 0, cells := 0, slots := 0, locals := 0 } : Room).cells ({ frames := 0, cells := 0, slots := 0, locals := 0 } : Room).slots) := by
  refine MetFree.of_bodySF (plainFor_of_name pn_java_lang_AbstractStringBuilder) hisR ?_
  intro p e s m args below meth c s₁ Bd hml0 hP hK
  obtain ⟨rfl, hZ, hh⟩ := hP
  have hx := Bd.exec
  have hby := Bd.bytes
  have hml : c.maxLocals = 1 := hml0
  have hown : s.vm.findClass "java/lang/AbstractStringBuilder" = some m.cls := findClass_of_methodNamed Bd.named
  have hnm := (name_of_methodNamed Bd.named Bd.method).1
  have X0 : Stand p l e ({ frames := 0, cells := 0, slots := 0, locals := 0 } : Room) s m #[(.ref sb)] below meth c s₁ [] 0 0 := Stand.of_body Bd
  have e0 : s₁.heap = h0 := by rw [← hh, Bd.state]; rfl
  have N0 := Fr.nil n0
  have Z0 : n0 ≤ h0.size := O0.1 ▸ O0.2.1
  have hk0 := Nat.zero_le h0.size
  have K0 : Keep h0 h0 [] := Keep.refl _ _
  have R0 : ∀ t, Steps p.tables e below (s₁.setTop (mkF m 0 #[.val (.ref sb)] [])) t → Steps p.tables e below (s₁.setTop (entryFrame m #[(.ref sb)] 1)) t := fun t k => castTop (ef_alat m sb) k
  obtain ⟨T1, X1, e1, st1⟩ := getS2 X0 hx hZ hown (host := "") (Or.inl (hw _ (List.mem_of_getElem? (i := 65) rfl))) Via.refl e0 (S_CS.ext O0.2) (g := (mkF m 0 #[.val (.ref sb)] [])) rfl (hb hby d24_0)
  obtain ⟨T2, X2, e2, st2⟩ := getF X1 hx hZ hown (host := "") (Or.inl (hw _ (List.mem_of_getElem? (i := 68) rfl))) Via.refl e1 Fbc (g := (mkF m 7 #[.val (.ref sb)] [(.ref sb)])) rfl rfl (hb hby d24_7)
  have R3 : ∀ t, Steps p.tables e below (T2.setTop (mkF m 18 #[.val (.ref sb)] [(.int (1 : Int32))])) t → Steps p.tables e below (s₁.setTop (entryFrame m #[(.ref sb)] 1)) t := by
    intro t k
    refine R0 t ?_
    show Steps p.tables e below (s₁.setTop (mkF m 0 #[.val (.ref sb)] [])) t
    refine st1 _ ?_
    show Steps p.tables e below (T1.setTop (mkF m 3 #[.val (.ref sb)] [(.int zCS)])) t
    refine XS.ifNo X1.here hx rfl (hb hby d24_3) rfl ((if0 _ _).trans (feq (hCS : ¬ (zCS = (0 : Int32)))).1) ?_
    show Steps p.tables e below (T1.setTop (mkF m 6 #[.val (.ref sb)] [])) t
    refine XS.aloadN X1.here hx rfl (hb hby d24_6) rfl rfl ?_
    show Steps p.tables e below (T1.setTop (mkF m 7 #[.val (.ref sb)] [(.ref sb)])) t
    refine st2 _ ?_
    show Steps p.tables e below (T2.setTop (mkF m 10 #[.val (.ref sb)] [(.int (0 : Int32))])) t
    refine XS.ifNo X2.here hx rfl (hb hby d24_10) rfl ((if0 _ _).trans (teq ((by decide) : (0 : Int32) = (0 : Int32))).2) ?_
    show Steps p.tables e below (T2.setTop (mkF m 13 #[.val (.ref sb)] [])) t
    refine XS.iconst X2.here hx rfl (hb hby d24_13) ?_
    show Steps p.tables e below (T2.setTop (mkF m 14 #[.val (.ref sb)] [(.int (1 : Int32))])) t
    refine XS.goto X2.here hx rfl (pc0 := 14) (pc' := 18) rfl (hb hby d24_14) (by decide) (by decide) ?_
    exact k
  obtain ⟨fs, hr, hrun, hended, hW, hsame⟩ := X2.leave (v := some (.int (1 : Int32))) (fun h => by rw [Bd.returns] at h; cases h)
  refine ⟨_, _, R3 _ ?_, hrun, hended, _, _, rfl, ?_, ⟨_, rfl⟩, hW, hsame.mono (by decide) (by decide)⟩
  · show Steps p.tables e below (T2.setTop (mkF m 18 #[.val (.ref sb)] [(.int (1 : Int32))])) _
    exact retN X2 hx (t := .boolean) Bd.returns (by simp) (hb hby d24_18) hr
  · show Q_alat Z zCS vFM sb h0 n0 _ T2.heap _
    rw [e2]
    exact ⟨rfl, N0, rfl⟩
theorem d27_0 : decode jdk_65_method_131_code 0 = .ok (.iload_n 1, 1) := by decide +kernel
theorem d27_1 : decode jdk_65_method_131_code 1 = .ok (.iload_n 0, 1) := by decide +kernel
theorem d27_2 : decode jdk_65_method_131_code 2 = .ok (.if_icmp .ge 35, 3) := by decide +kernel
theorem d27_37 : decode jdk_65_method_131_code 37 = .ok (.return_, 1) := by decide +kernel
theorem pn_java_util_Arrays : plainName "java/util/Arrays" = true := by first | (simp [plainName, overriddenIn]; done) | decide +kernel
theorem ef_chkl (m : MethodId) (sm : Int32) : entryFrame m #[(.int (0 : Int32)), (.int sm)] 2 = mkF m 0 #[.val (.int (0 : Int32)), .val (.int sm)] [] := by first | (simp [entryFrame, mkF, argsToLocals, Value.category]; done) | rfl
def Q_chkl (Z : State) (zCS : Int32) (vFM : Value) (sm : Int32) (h0 : Heap) (n0 : Nat) (vv_ : Option Value) (hh_ : Heap) (LL_ : List Loc) : Prop := vv_ = none ∧ (Fr n0 LL_) ∧ (hh_ = h0)
set_option maxRecDepth 65536 in
set_option maxHeartbeats 40000000 in
theorem chkl (l : Launch) (Z : State) (a0 : Array Value) (hw : ∀ d ∈ tables_1, d.before a0 Z = true) (ws : List Jvm.Cond) (zCS : Int32) (vFM : Value) (sm : Int32) (h0 : Heap) (n0 : Nat) (O0 : Old Z n0 h0) (S_CS : Sta Z Z.heap "java/lang/String" "COMPACT_STRINGS" "Z" (.int zCS)) (hCS : ¬ (zCS = (0 : Int32))) (hcT0 : Jvm.Lit.constHeld Z "com/example/relayout/relayout/plan/Transfer" 7) (hcT1 : Jvm.Lit.constHeld Z "com/example/relayout/relayout/plan/Transfer" 22) (hcT2 : Jvm.Lit.constHeld Z "com/example/relayout/relayout/plan/Transfer" 26) (hcT3 : Jvm.Lit.constHeld Z "com/example/relayout/relayout/plan/Transfer" 45) (hcT4 : Jvm.Lit.constHeld Z "com/example/relayout/relayout/plan/Transfer" 47) (hcH : Jvm.Lit.constHeld Z "java/lang/String" 7) (hcW : Jvm.Lit.compactW.before a0 Z = true) (S_FM : Sta Z Z.heap "jdk/internal/util/Preconditions" "SIOOBE_FORMATTER" "Ljava/util/function/BiFunction;" vFM) (rFM : vFM.isRef = true) (hs0 : ¬ (sm < (0 : Int32))) :
    MetFree l (⟨"java/util/Arrays", "checkLength", "(II)V"⟩ : MethodName) (head1 (Jvm.Cond.code (⟨"java/util/Arrays", "checkLength", "(II)V"⟩ : MethodName) jdk_65_method_131_code 2 none :: ws) ({ frames := 0, cells := 0, slots := 0, locals := 0 } : Room)) (fun aa_ U_ => aa_ = #[(.int (0 : Int32)), (.int sm)] ∧ Z.Warmed39 U_.vm ∧ U_.heap = h0) (fun _ _ _ _ _ => True) (fun _ U_ oo_ V_ => ∃ vv_ LL_, oo_ = .returned vv_ ∧ Q_chkl Z zCS vFM sm h0 n0 vv_ V_.heap LL_ ∧ FrameEnd U_ oo_ V_ LL_ ({ frames := 0, cells := 0, slots := 0, locals := 0 } : Room).cells ({ frames := 0, cells := 0, slots := 0, locals := 0 } : Room).slots) := by
  refine MetFree.of_bodySF (plainFor_of_name pn_java_util_Arrays) hisR ?_
  intro p e s m args below meth c s₁ Bd hml0 hP hK
  obtain ⟨rfl, hZ, hh⟩ := hP
  have hx := Bd.exec
  have hby := Bd.bytes
  have hml : c.maxLocals = 2 := hml0
  have hown : s.vm.findClass "java/util/Arrays" = some m.cls := findClass_of_methodNamed Bd.named
  have hnm := (name_of_methodNamed Bd.named Bd.method).1
  have X0 : Stand p l e ({ frames := 0, cells := 0, slots := 0, locals := 0 } : Room) s m #[(.int (0 : Int32)), (.int sm)] below meth c s₁ [] 0 0 := Stand.of_body Bd
  have e0 : s₁.heap = h0 := by rw [← hh, Bd.state]; rfl
  have N0 := Fr.nil n0
  have Z0 : n0 ≤ h0.size := O0.1 ▸ O0.2.1
  have hk0 := Nat.zero_le h0.size
  have K0 : Keep h0 h0 [] := Keep.refl _ _
  have R0 : ∀ t, Steps p.tables e below (s₁.setTop (mkF m 0 #[.val (.int (0 : Int32)), .val (.int sm)] [])) t → Steps p.tables e below (s₁.setTop (entryFrame m #[(.int (0 : Int32)), (.int sm)] 2)) t := fun t k => castTop (ef_chkl m sm) k
  have R1 : ∀ t, Steps p.tables e below (s₁.setTop (mkF m 37 #[.val (.int (0 : Int32)), .val (.int sm)] [])) t → Steps p.tables e below (s₁.setTop (entryFrame m #[(.int (0 : Int32)), (.int sm)] 2)) t := by
    intro t k
    refine R0 t ?_
    show Steps p.tables e below (s₁.setTop (mkF m 0 #[.val (.int (0 : Int32)), .val (.int sm)] [])) t
    refine XS.iloadN X0.here hx rfl (hb hby d27_0) rfl ?_
    show Steps p.tables e below (s₁.setTop (mkF m 1 #[.val (.int (0 : Int32)), .val (.int sm)] [(.int sm)])) t
    refine XS.iloadN X0.here hx rfl (hb hby d27_1) rfl ?_
    show Steps p.tables e below (s₁.setTop (mkF m 2 #[.val (.int (0 : Int32)), .val (.int sm)] [(.int (0 : Int32)), (.int sm)])) t
    refine XS.icmpYes X0.here hx rfl (pc0 := 2) (pc' := 37) rfl (hb hby d27_2) rfl (flt (hs0 : ¬ (sm < (0 : Int32)))).2.1 (by decide) (by decide) ?_
    exact k
  obtain ⟨fs, hr, hrun, hended, hW, hsame⟩ := X0.leave (v := none) (fun _ => rfl)
  refine ⟨_, _, R1 _ ?_, hrun, hended, _, _, rfl, ?_, ⟨_, rfl⟩, hW, hsame.mono (by decide) (by decide)⟩
  · show Steps p.tables e below (s₁.setTop (mkF m 37 #[.val (.int (0 : Int32)), .val (.int sm)] [])) _
    exact X0.returnOut hx Bd.returns (hb hby d27_37) hr
  · show Q_chkl Z zCS vFM sm h0 n0 _ s₁.heap _
    rw [e0]
    exact ⟨rfl, N0, rfl⟩
theorem d28_0 : decode jdk_29_method_69_code 0 = .ok (.iload_n 0, 1) := by decide +kernel
theorem d28_1 : decode jdk_29_method_69_code 1 = .ok (.iload_n 1, 1) := by decide +kernel
theorem d28_2 : decode jdk_29_method_69_code 2 = .ok (.if_icmp .gt 7, 3) := by decide +kernel
theorem d28_9 : decode jdk_29_method_69_code 9 = .ok (.iload_n 1, 1) := by decide +kernel
theorem d28_10 : decode jdk_29_method_69_code 10 = .ok (.ireturn, 1) := by decide +kernel
theorem ef_mmin (m : MethodId) (zd : Int32) (sm : Int32) : entryFrame m #[(.int zd), (.int sm)] 2 = mkF m 0 #[.val (.int zd), .val (.int sm)] [] := by first | (simp [entryFrame, mkF, argsToLocals, Value.category]; done) | rfl
def Q_mmin (Z : State) (zCS : Int32) (vFM : Value) (zd : Int32) (sm : Int32) (h0 : Heap) (n0 : Nat) (vv_ : Option Value) (hh_ : Heap) (LL_ : List Loc) : Prop := vv_ = some (.int sm) ∧ (Fr n0 LL_) ∧ (hh_ = h0)
set_option maxRecDepth 65536 in
set_option maxHeartbeats 40000000 in
theorem mmin (l : Launch) (Z : State) (a0 : Array Value) (hw : ∀ d ∈ tables_1, d.before a0 Z = true) (ws : List Jvm.Cond) (zCS : Int32) (vFM : Value) (zd : Int32) (sm : Int32) (h0 : Heap) (n0 : Nat) (O0 : Old Z n0 h0) (S_CS : Sta Z Z.heap "java/lang/String" "COMPACT_STRINGS" "Z" (.int zCS)) (hCS : ¬ (zCS = (0 : Int32))) (hcT0 : Jvm.Lit.constHeld Z "com/example/relayout/relayout/plan/Transfer" 7) (hcT1 : Jvm.Lit.constHeld Z "com/example/relayout/relayout/plan/Transfer" 22) (hcT2 : Jvm.Lit.constHeld Z "com/example/relayout/relayout/plan/Transfer" 26) (hcT3 : Jvm.Lit.constHeld Z "com/example/relayout/relayout/plan/Transfer" 45) (hcT4 : Jvm.Lit.constHeld Z "com/example/relayout/relayout/plan/Transfer" 47) (hcH : Jvm.Lit.constHeld Z "java/lang/String" 7) (hcW : Jvm.Lit.compactW.before a0 Z = true) (S_FM : Sta Z Z.heap "jdk/internal/util/Preconditions" "SIOOBE_FORMATTER" "Ljava/util/function/BiFunction;" vFM) (rFM : vFM.isRef = true) (hlt : sm < zd) :
    MetFree l (⟨"java/lang/Math", "min", "(II)I"⟩ : MethodName) (head1 (Jvm.Cond.code (⟨"java/lang/Math", "min", "(II)I"⟩ : MethodName) jdk_29_method_69_code 2 (some .int) :: ws) ({ frames := 0, cells := 0, slots := 0, locals := 0 } : Room)) (fun aa_ U_ => aa_ = #[(.int zd), (.int sm)] ∧ Z.Warmed39 U_.vm ∧ U_.heap = h0) (fun _ _ _ _ _ => True) (fun _ U_ oo_ V_ => ∃ vv_ LL_, oo_ = .returned vv_ ∧ Q_mmin Z zCS vFM zd sm h0 n0 vv_ V_.heap LL_ ∧ FrameEnd U_ oo_ V_ LL_ ({ frames := 0, cells := 0, slots := 0, locals := 0 } : Room).cells ({ frames := 0, cells := 0, slots := 0, locals := 0 } : Room).slots) := by
  refine MetFree.of_bodySF (Jvm.Free.JP.mathPlain rfl (by decide +kernel)) hisR ?_
  intro p e s m args below meth c s₁ Bd hml0 hP hK
  obtain ⟨rfl, hZ, hh⟩ := hP
  have hx := Bd.exec
  have hby := Bd.bytes
  have hml : c.maxLocals = 2 := hml0
  have hown : s.vm.findClass "java/lang/Math" = some m.cls := findClass_of_methodNamed Bd.named
  have hnm := (name_of_methodNamed Bd.named Bd.method).1
  have X0 : Stand p l e ({ frames := 0, cells := 0, slots := 0, locals := 0 } : Room) s m #[(.int zd), (.int sm)] below meth c s₁ [] 0 0 := Stand.of_body Bd
  have e0 : s₁.heap = h0 := by rw [← hh, Bd.state]; rfl
  have N0 := Fr.nil n0
  have Z0 : n0 ≤ h0.size := O0.1 ▸ O0.2.1
  have hk0 := Nat.zero_le h0.size
  have K0 : Keep h0 h0 [] := Keep.refl _ _
  have R0 : ∀ t, Steps p.tables e below (s₁.setTop (mkF m 0 #[.val (.int zd), .val (.int sm)] [])) t → Steps p.tables e below (s₁.setTop (entryFrame m #[(.int zd), (.int sm)] 2)) t := fun t k => castTop (ef_mmin m zd sm) k
  have R1 : ∀ t, Steps p.tables e below (s₁.setTop (mkF m 10 #[.val (.int zd), .val (.int sm)] [(.int sm)])) t → Steps p.tables e below (s₁.setTop (entryFrame m #[(.int zd), (.int sm)] 2)) t := by
    intro t k
    refine R0 t ?_
    show Steps p.tables e below (s₁.setTop (mkF m 0 #[.val (.int zd), .val (.int sm)] [])) t
    refine XS.iloadN X0.here hx rfl (hb hby d28_0) rfl ?_
    show Steps p.tables e below (s₁.setTop (mkF m 1 #[.val (.int zd), .val (.int sm)] [(.int zd)])) t
    refine XS.iloadN X0.here hx rfl (hb hby d28_1) rfl ?_
    show Steps p.tables e below (s₁.setTop (mkF m 2 #[.val (.int zd), .val (.int sm)] [(.int sm), (.int zd)])) t
    refine XS.icmpYes X0.here hx rfl (pc0 := 2) (pc' := 9) rfl (hb hby d28_2) rfl (tlt (hlt : sm < zd)).2.2.1 (by decide) (by decide) ?_
    show Steps p.tables e below (s₁.setTop (mkF m 9 #[.val (.int zd), .val (.int sm)] [])) t
    refine XS.iloadN X0.here hx rfl (hb hby d28_9) rfl ?_
    exact k
  obtain ⟨fs, hr, hrun, hended, hW, hsame⟩ := X0.leave (v := some (.int sm)) (fun h => by rw [Bd.returns] at h; cases h)
  refine ⟨_, _, R1 _ ?_, hrun, hended, _, _, rfl, ?_, ⟨_, rfl⟩, hW, hsame.mono (by decide) (by decide)⟩
  · show Steps p.tables e below (s₁.setTop (mkF m 10 #[.val (.int zd), .val (.int sm)] [(.int sm)])) _
    exact retOut X0 hx Bd.returns rfl (Or.inl ⟨rfl, Or.inl rfl, _, rfl⟩) (hb hby d28_10) hr
  · show Q_mmin Z zCS vFM zd sm h0 n0 _ s₁.heap _
    rw [e0]
    exact ⟨rfl, N0, rfl⟩
theorem d26_0 : decode jdk_65_method_133_code 0 = .ok (.iload_n 1, 1) := by decide +kernel
theorem d26_1 : decode jdk_65_method_133_code 1 = .ok (.iload_n 2, 1) := by decide +kernel
theorem pd_7 : parseMethodDescriptor "(II)V" = some ⟨[.int, .int], none⟩ := by decide +kernel
theorem d26_2 : decode jdk_65_method_133_code 2 = .ok (.invokestatic 343, 3) := by decide +kernel
theorem d26_5 : decode jdk_65_method_133_code 5 = .ok (.iload_n 2, 1) := by decide +kernel
theorem d26_6 : decode jdk_65_method_133_code 6 = .ok (.iload_n 1, 1) := by decide +kernel
theorem d26_7 : decode jdk_65_method_133_code 7 = .ok (.isub, 1) := by decide +kernel
theorem d26_8 : decode jdk_65_method_133_code 8 = .ok (.istore_n 3, 1) := by decide +kernel
theorem d26_9 : decode jdk_65_method_133_code 9 = .ok (.iload_n 3, 1) := by decide +kernel
theorem d26_10 : decode jdk_65_method_133_code 10 = .ok (.newarray .byte, 2) := by decide +kernel
theorem d26_12 : decode jdk_65_method_133_code 12 = .ok (.astore 4, 2) := by decide +kernel
theorem d26_14 : decode jdk_65_method_133_code 14 = .ok (.aload_n 0, 1) := by decide +kernel
theorem d26_15 : decode jdk_65_method_133_code 15 = .ok (.iload_n 1, 1) := by decide +kernel
theorem d26_16 : decode jdk_65_method_133_code 16 = .ok (.aload 4, 2) := by decide +kernel
theorem d26_18 : decode jdk_65_method_133_code 18 = .ok (.iconst 0, 1) := by decide +kernel
theorem d26_19 : decode jdk_65_method_133_code 19 = .ok (.aload_n 0, 1) := by decide +kernel
theorem d26_20 : decode jdk_65_method_133_code 20 = .ok (.arraylength, 1) := by decide +kernel
theorem d26_21 : decode jdk_65_method_133_code 21 = .ok (.iload_n 1, 1) := by decide +kernel
theorem d26_22 : decode jdk_65_method_133_code 22 = .ok (.isub, 1) := by decide +kernel
theorem d26_23 : decode jdk_65_method_133_code 23 = .ok (.iload_n 3, 1) := by decide +kernel
theorem pd_8 : parseMethodDescriptor "(II)I" = some ⟨[.int, .int], some .int⟩ := by decide +kernel
theorem d26_24 : decode jdk_65_method_133_code 24 = .ok (.invokestatic 304, 3) := by decide +kernel
theorem d26_27 : decode jdk_65_method_133_code 27 = .ok (.invokestatic 150, 3) := by decide +kernel
theorem d26_30 : decode jdk_65_method_133_code 30 = .ok (.aload 4, 2) := by decide +kernel
theorem d26_32 : decode jdk_65_method_133_code 32 = .ok (.areturn, 1) := by decide +kernel
theorem ef_corb (m : MethodId) (td : Addr) (kd : ClassId) (zd : Int32) (vd : List Value) (sm : Int32) (rs : List Value) : entryFrame m #[(.ref td), (.int (0 : Int32)), (.int sm)] 5 = mkF m 0 #[.val (.ref td), .val (.int (0 : Int32)), .val (.int sm), .unset, .unset] [] := by first | (simp [entryFrame, mkF, argsToLocals, Value.category]; done) | rfl
def Q_corb (Z : State) (zCS : Int32) (vFM : Value) (td : Addr) (kd : ClassId) (zd : Int32) (vd : List Value) (sm : Int32) (rs : List Value) (h0 : Heap) (n0 : Nat) (vv_ : Option Value) (hh_ : Heap) (LL_ : List Loc) : Prop := ∃ (b : Addr) (kb : ClassId), vv_ = some (.ref b) ∧ (Fr n0 LL_) ∧ (Keep h0 hh_ []) ∧ (h0.size ≤ b) ∧ (Arv Z hh_ b kb .byte sm rs (.int 0))
set_option maxRecDepth 65536 in
set_option maxHeartbeats 40000000 in
theorem corb (l : Launch) (Z : State) (a0 : Array Value) (hw : ∀ d ∈ tables_1, d.before a0 Z = true) (ws : List Jvm.Cond) (zCS : Int32) (vFM : Value) (td : Addr) (kd : ClassId) (zd : Int32) (vd : List Value) (sm : Int32) (rs : List Value) (h0 : Heap) (n0 : Nat) (O0 : Old Z n0 h0) (S_CS : Sta Z Z.heap "java/lang/String" "COMPACT_STRINGS" "Z" (.int zCS)) (hCS : ¬ (zCS = (0 : Int32))) (hcT0 : Jvm.Lit.constHeld Z "com/example/relayout/relayout/plan/Transfer" 7) (hcT1 : Jvm.Lit.constHeld Z "com/example/relayout/relayout/plan/Transfer" 22) (hcT2 : Jvm.Lit.constHeld Z "com/example/relayout/relayout/plan/Transfer" 26) (hcT3 : Jvm.Lit.constHeld Z "com/example/relayout/relayout/plan/Transfer" 45) (hcT4 : Jvm.Lit.constHeld Z "com/example/relayout/relayout/plan/Transfer" 47) (hcH : Jvm.Lit.constHeld Z "java/lang/String" 7) (hcW : Jvm.Lit.compactW.before a0 Z = true) (S_FM : Sta Z Z.heap "jdk/internal/util/Preconditions" "SIOOBE_FORMATTER" "Ljava/util/function/BiFunction;" vFM) (rFM : vFM.isRef = true) (Ad : Arv Z h0 td kd .byte zd vd (.int 0)) (hs0 : ¬ (sm < (0 : Int32))) (hlt : sm < zd) (hcap : sm.toNatClampNeg ≤ 16) (hcz : sm.toNatClampNeg ≤ zd.toNatClampNeg) (hrs : (List.take (0 : Int32).toNatClampNeg (List.replicate sm.toNatClampNeg (.int 0)) ++ (List.map (fun i => List.getD vd ((0 : Int32).toNatClampNeg + i) (.int 0)) (List.range sm.toNatClampNeg)) ++ List.drop ((0 : Int32).toNatClampNeg + sm.toNatClampNeg) (List.replicate sm.toNatClampNeg (.int 0))) = rs) :
    MetFree l (⟨"java/util/Arrays", "copyOfRangeByte", "([BII)[B"⟩ : MethodName) (head1 (Jvm.Cond.code (⟨"java/util/Arrays", "copyOfRangeByte", "([BII)[B"⟩ : MethodName) jdk_65_method_133_code 5 (some (.array .byte)) :: ws) ({ frames := 1, cells := 1, slots := 16, locals := 18 } : Room)) (fun aa_ U_ => aa_ = #[(.ref td), (.int (0 : Int32)), (.int sm)] ∧ Z.Warmed39 U_.vm ∧ U_.heap = h0) (fun _ _ _ _ _ => True) (fun _ U_ oo_ V_ => ∃ vv_ LL_, oo_ = .returned vv_ ∧ Q_corb Z zCS vFM td kd zd vd sm rs h0 n0 vv_ V_.heap LL_ ∧ FrameEnd U_ oo_ V_ LL_ ({ frames := 1, cells := 1, slots := 16, locals := 18 } : Room).cells ({ frames := 1, cells := 1, slots := 16, locals := 18 } : Room).slots) := by
  refine MetFree.of_bodySF (plainFor_of_name pn_java_util_Arrays) hisR ?_
  intro p e s m args below meth c s₁ Bd hml0 hP hK
  obtain ⟨rfl, hZ, hh⟩ := hP
  have hx := Bd.exec
  have hby := Bd.bytes
  have hml : c.maxLocals = 5 := hml0
  have hown : s.vm.findClass "java/util/Arrays" = some m.cls := findClass_of_methodNamed Bd.named
  have hnm := (name_of_methodNamed Bd.named Bd.method).1
  have X0 : Stand p l e ({ frames := 1, cells := 1, slots := 16, locals := 18 } : Room) s m #[(.ref td), (.int (0 : Int32)), (.int sm)] below meth c s₁ [] 0 0 := Stand.of_body Bd
  have e0 : s₁.heap = h0 := by rw [← hh, Bd.state]; rfl
  have N0 := Fr.nil n0
  have Z0 : n0 ≤ h0.size := O0.1 ▸ O0.2.1
  have hk0 := Nat.zero_le h0.size
  have K0 : Keep h0 h0 [] := Keep.refl _ _
  have R0 : ∀ t, Steps p.tables e below (s₁.setTop (mkF m 0 #[.val (.ref td), .val (.int (0 : Int32)), .val (.int sm), .unset, .unset] [])) t → Steps p.tables e below (s₁.setTop (entryFrame m #[(.ref td), (.int (0 : Int32)), (.int sm)] 5)) t := fun t k => castTop (ef_corb m td kd zd vd sm rs) k
  obtain ⟨_, _, ⟨T1, L1, k1, n1⟩, -, X1, ⟨Lc1, hQ1, cl_1, cy_1, cz_1⟩, st1⟩ := Jvm.LawKit.callS X0 hx (y := (⟨"java/util/Arrays", "checkLength", "(II)V"⟩ : MethodName)) hown (mvT hZ (hw _ (List.mem_of_getElem? (i := 157) rfl))) (mvT hZ (hw _ (List.mem_of_getElem? (i := 158) rfl))) (mvT hZ (hw _ (List.mem_of_getElem? (i := 152) rfl))) (mvT hZ (hw _ (List.mem_of_getElem? (i := 159) rfl))) (by decide) (backOf (W := 0) (chkl l Z a0 hw [] zCS vFM sm h0 n0 O0 S_CS hCS hcT0 hcT1 hcT2 hcT3 hcT4 hcH hcW S_FM rFM   hs0) hZ (hw _ (List.mem_of_getElem? (i := 159) rfl)) (hw _ (List.mem_of_getElem? (i := 152) rfl)) (by decide) (by decide)) (g := (mkF m 2 #[.val (.ref td), .val (.int (0 : Int32)), .val (.int sm), .unset, .unset] [(.int sm), (.int (0 : Int32))])) rfl (by rw [hml]; rfl) (argsL := [(.int (0 : Int32)), (.int sm)]) (rest := []) (lenOf pd_7 rfl) rfl (by show 2 * 0 + _ ≤ _; exact Nat.le_of_eq rfl) (hb hby d26_2) (fun _ _ => ⟨rfl, e0, (by decide : 0 + 0 ≤ _), (by decide : 0 + 0 ≤ _)⟩)
  dsimp only [Pt.U, Pt.locs, Pt.cells, Pt.slots] at X1 cl_1 cy_1 cz_1 st1 hQ1
  rw [cl_1, cy_1, cz_1] at X1
  obtain ⟨rfl, N1q, e1⟩ := hQ1
  have N1 := Fr.app N0 N1q
  have R2 : ∀ t, Steps p.tables e below (T1.setTop (mkF m 8 #[.val (.ref td), .val (.int (0 : Int32)), .val (.int sm), .unset, .unset] [(.int (sm - (0 : Int32)))])) t → Steps p.tables e below (s₁.setTop (entryFrame m #[(.ref td), (.int (0 : Int32)), (.int sm)] 5)) t := by
    intro t k
    refine R0 t ?_
    show Steps p.tables e below (s₁.setTop (mkF m 0 #[.val (.ref td), .val (.int (0 : Int32)), .val (.int sm), .unset, .unset] [])) t
    refine XS.iloadN X0.here hx rfl (hb hby d26_0) rfl ?_
    show Steps p.tables e below (s₁.setTop (mkF m 1 #[.val (.ref td), .val (.int (0 : Int32)), .val (.int sm), .unset, .unset] [(.int (0 : Int32))])) t
    refine XS.iloadN X0.here hx rfl (hb hby d26_1) rfl ?_
    show Steps p.tables e below (s₁.setTop (mkF m 2 #[.val (.ref td), .val (.int (0 : Int32)), .val (.int sm), .unset, .unset] [(.int sm), (.int (0 : Int32))])) t
    refine st1 _ ?_
    show Steps p.tables e below (T1.setTop (mkF m 5 #[.val (.ref td), .val (.int (0 : Int32)), .val (.int sm), .unset, .unset] [])) t
    refine XS.iloadN X1.here hx rfl (hb hby d26_5) rfl ?_
    show Steps p.tables e below (T1.setTop (mkF m 6 #[.val (.ref td), .val (.int (0 : Int32)), .val (.int sm), .unset, .unset] [(.int sm)])) t
    refine XS.iloadN X1.here hx rfl (hb hby d26_6) rfl ?_
    show Steps p.tables e below (T1.setTop (mkF m 7 #[.val (.ref td), .val (.int (0 : Int32)), .val (.int sm), .unset, .unset] [(.int (0 : Int32)), (.int sm)])) t
    refine XS.isub X1.here hx rfl (hb hby d26_7) rfl ?_
    exact k
  have R3 := R2
  rw [own_sub0 sm] at R3
  obtain ⟨T4, h4, k4, X4, e4, E4, A4, st4⟩ := newP X1 hx hZ (hw _ (List.mem_of_getElem? (i := 19) rfl)) e1 (g := (mkF m 10 #[.val (.ref td), .val (.int (0 : Int32)), .val (.int sm), .val (.int sm), .unset] [(.int sm)])) rfl (hb hby d26_10) rfl hs0 (cap := 16) hcap (by decide) (by decide) (by decide)
  obtain ⟨b4, gg4⟩ : ∃ z, z = h0.size := ⟨_, rfl⟩
  rw [← gg4] at A4 st4
  have ne_td_b4 : td ≠ b4 := Nat.ne_of_lt (Nat.lt_of_lt_of_le Ad.lt (Nat.le_of_eq gg4.symm))
  have g_b4 : n0 ≤ b4 := Nat.le_trans Z0 (Nat.le_of_eq gg4.symm)
  have sz_b4 : h0.size ≤ b4 := Nat.le_trans K0.1 (Nat.le_of_eq gg4.symm)
  have Z4 : n0 ≤ h4.size := Nat.le_trans Z0 E4.1
  have K4 : Keep h0 h4 [] := K0.ext E4
  have O4 : Old Z n0 h4 := O0.ext E4
  have V4 : Arv Z h4 b4 k4 .byte sm [] (.int (0 : Int32)) := Arv.new A4 hs0
  have Vp : Arv Z h4 b4 k4 .byte sm (List.replicate sm.toNatClampNeg (.int 0)) (.int 0) := V4.pad (pad_rep [] (.int 0) sm.toNatClampNeg)
  have f5 : Arv Z h4 td kd .byte zd vd (.int 0) := (Ad.ext E4)
  obtain ⟨cl6, Ar6, -, S6, M6, -, -⟩ := id f5
  have R7 : ∀ t, Steps p.tables e below (T4.setTop (mkF m 23 #[.val (.ref td), .val (.int (0 : Int32)), .val (.int sm), .val (.int sm), .val (.ref b4)] [(.int (zd - (0 : Int32))), (.int (0 : Int32)), (.ref b4), (.int (0 : Int32)), (.ref td)])) t → Steps p.tables e below (s₁.setTop (entryFrame m #[(.ref td), (.int (0 : Int32)), (.int sm)] 5)) t := by
    intro t k
    refine R3 t ?_
    show Steps p.tables e below (T1.setTop (mkF m 8 #[.val (.ref td), .val (.int (0 : Int32)), .val (.int sm), .unset, .unset] [(.int sm)])) t
    refine XS.istoreN X1.here hx rfl (hb hby d26_8) rfl (l' := #[.val (.ref td), .val (.int (0 : Int32)), .val (.int sm), .val (.int sm), .unset]) rfl ?_
    show Steps p.tables e below (T1.setTop (mkF m 9 #[.val (.ref td), .val (.int (0 : Int32)), .val (.int sm), .val (.int sm), .unset] [])) t
    refine XS.iloadN X1.here hx rfl (hb hby d26_9) rfl ?_
    show Steps p.tables e below (T1.setTop (mkF m 10 #[.val (.ref td), .val (.int (0 : Int32)), .val (.int sm), .val (.int sm), .unset] [(.int sm)])) t
    refine st4 _ ?_
    show Steps p.tables e below (T4.setTop (mkF m 12 #[.val (.ref td), .val (.int (0 : Int32)), .val (.int sm), .val (.int sm), .unset] [(.ref b4)])) t
    refine XS.astore X4.here hx rfl (hb hby d26_12) rfl rfl (l' := #[.val (.ref td), .val (.int (0 : Int32)), .val (.int sm), .val (.int sm), .val (.ref b4)]) rfl ?_
    show Steps p.tables e below (T4.setTop (mkF m 14 #[.val (.ref td), .val (.int (0 : Int32)), .val (.int sm), .val (.int sm), .val (.ref b4)] [])) t
    refine XS.aloadN X4.here hx rfl (hb hby d26_14) rfl rfl ?_
    show Steps p.tables e below (T4.setTop (mkF m 15 #[.val (.ref td), .val (.int (0 : Int32)), .val (.int sm), .val (.int sm), .val (.ref b4)] [(.ref td)])) t
    refine XS.iloadN X4.here hx rfl (hb hby d26_15) rfl ?_
    show Steps p.tables e below (T4.setTop (mkF m 16 #[.val (.ref td), .val (.int (0 : Int32)), .val (.int sm), .val (.int sm), .val (.ref b4)] [(.int (0 : Int32)), (.ref td)])) t
    refine XS.aload X4.here hx rfl (hb hby d26_16) rfl rfl ?_
    show Steps p.tables e below (T4.setTop (mkF m 18 #[.val (.ref td), .val (.int (0 : Int32)), .val (.int sm), .val (.int sm), .val (.ref b4)] [(.ref b4), (.int (0 : Int32)), (.ref td)])) t
    refine XS.iconst X4.here hx rfl (hb hby d26_18) ?_
    show Steps p.tables e below (T4.setTop (mkF m 19 #[.val (.ref td), .val (.int (0 : Int32)), .val (.int sm), .val (.int sm), .val (.ref b4)] [(.int (0 : Int32)), (.ref b4), (.int (0 : Int32)), (.ref td)])) t
    refine XS.aloadN X4.here hx rfl (hb hby d26_19) rfl rfl ?_
    show Steps p.tables e below (T4.setTop (mkF m 20 #[.val (.ref td), .val (.int (0 : Int32)), .val (.int sm), .val (.int sm), .val (.ref b4)] [(.ref td), (.int (0 : Int32)), (.ref b4), (.int (0 : Int32)), (.ref td)])) t
    refine X4.arraylength hx (by rw [e4]; exact Ar6.1) (State.isArrayOf_alike hZ.alike Ar6.2.1) (g := (mkF m 20 #[.val (.ref td), .val (.int (0 : Int32)), .val (.int sm), .val (.int sm), .val (.ref b4)] [(.ref td), (.int (0 : Int32)), (.ref b4), (.int (0 : Int32)), (.ref td)])) rfl rfl (hb hby d26_20) _ ?_
    rw [len_of S6 M6]
    show Steps p.tables e below (T4.setTop (mkF m 21 #[.val (.ref td), .val (.int (0 : Int32)), .val (.int sm), .val (.int sm), .val (.ref b4)] [(.int zd), (.int (0 : Int32)), (.ref b4), (.int (0 : Int32)), (.ref td)])) t
    refine XS.iloadN X4.here hx rfl (hb hby d26_21) rfl ?_
    show Steps p.tables e below (T4.setTop (mkF m 22 #[.val (.ref td), .val (.int (0 : Int32)), .val (.int sm), .val (.int sm), .val (.ref b4)] [(.int (0 : Int32)), (.int zd), (.int (0 : Int32)), (.ref b4), (.int (0 : Int32)), (.ref td)])) t
    refine XS.isub X4.here hx rfl (hb hby d26_22) rfl ?_
    exact k
  have R8 := R7
  rw [own_sub0 zd] at R8
  obtain ⟨_, _, ⟨T9, L9, k9, n9⟩, -, X9, ⟨Lc9, hQ9, cl_9, cy_9, cz_9⟩, st9⟩ := Jvm.LawKit.callS X4 hx (y := (⟨"java/lang/Math", "min", "(II)I"⟩ : MethodName)) hown (mvT hZ (hw _ (List.mem_of_getElem? (i := 160) rfl))) (mvT hZ (hw _ (List.mem_of_getElem? (i := 161) rfl))) (mvT hZ (hw _ (List.mem_of_getElem? (i := 162) rfl))) (mvT hZ (hw _ (List.mem_of_getElem? (i := 163) rfl))) (by decide) (backOf (W := 4) (mmin l Z a0 hw [] zCS vFM zd sm h4 n0 O4 S_CS hCS hcT0 hcT1 hcT2 hcT3 hcT4 hcH hcW S_FM rFM   hlt) hZ (hw _ (List.mem_of_getElem? (i := 163) rfl)) (hw _ (List.mem_of_getElem? (i := 162) rfl)) (by decide) (by decide)) (g := (mkF m 24 #[.val (.ref td), .val (.int (0 : Int32)), .val (.int sm), .val (.int sm), .val (.ref b4)] [(.int sm), (.int zd), (.int (0 : Int32)), (.ref b4), (.int (0 : Int32)), (.ref td)])) rfl (by rw [hml]; rfl) (argsL := [(.int zd), (.int sm)]) (rest := [(.int (0 : Int32)), (.ref b4), (.int (0 : Int32)), (.ref td)]) (lenOf pd_8 rfl) rfl (by show 2 * 0 + _ ≤ _; exact Nat.le_of_eq rfl) (hb hby d26_24) (fun _ _ => ⟨rfl, e4, (by decide : 1 + 0 ≤ _), (by decide : 16 + 0 ≤ _)⟩)
  dsimp only [Pt.U, Pt.locs, Pt.cells, Pt.slots] at X9 cl_9 cy_9 cz_9 st9 hQ9
  rw [cl_9, cy_9, cz_9] at X9
  obtain ⟨rfl, N9q, e9⟩ := hQ9
  have N9 := Fr.app N1 N9q
  obtain ⟨T10, h10, L10, X10, e10, N10, K10q, A10, st10⟩ := cpA X9 hx hZ hown (hw _ (List.mem_of_getElem? (i := 164) rfl)) (hw _ (List.mem_of_getElem? (i := 117) rfl)) (hw _ (List.mem_of_getElem? (i := 115) rfl)) (hw _ (List.mem_of_getElem? (i := 116) rfl)) e9 f5 Vp (sp := (0 : Int32)) (dp := (0 : Int32)) (nn := sm) (Or.inl ⟨rfl, rfl⟩) (by decide) (by decide) hs0 (by rw [show (0 : Int32).toNatClampNeg = 0 from rfl, Nat.zero_add]; exact hcz) (by simp) rfl (by simp) N9 g_b4 (g := (mkF m 27 #[.val (.ref td), .val (.int (0 : Int32)), .val (.int sm), .val (.int sm), .val (.ref b4)] [(.int sm), (.int (0 : Int32)), (.ref b4), (.int (0 : Int32)), (.ref td)])) rfl (by rw [hml]; rfl) rfl (hb hby d26_27) (by decide) (W := 0) (by show 2 * 0 + _ ≤ _; exact Nat.le_of_eq rfl) (by decide)
  have Z10 : n0 ≤ h10.size := Nat.le_trans Z4 K10q.1
  have K10 : Keep h0 h10 [] := K4.trans K10q (allS (Or.inr sz_b4) all0)
  have O10 : Old Z n0 h10 := O4.keep K10q (allS g_b4 all0)
  have V10 : Arv Z h10 b4 k4 .byte sm rs (.int 0) := hrs ▸ A10
  have R11 : ∀ t, Steps p.tables e below (T10.setTop (mkF m 32 #[.val (.ref td), .val (.int (0 : Int32)), .val (.int sm), .val (.int sm), .val (.ref b4)] [(.ref b4)])) t → Steps p.tables e below (s₁.setTop (entryFrame m #[(.ref td), (.int (0 : Int32)), (.int sm)] 5)) t := by
    intro t k
    refine R8 t ?_
    show Steps p.tables e below (T4.setTop (mkF m 23 #[.val (.ref td), .val (.int (0 : Int32)), .val (.int sm), .val (.int sm), .val (.ref b4)] [(.int zd), (.int (0 : Int32)), (.ref b4), (.int (0 : Int32)), (.ref td)])) t
    refine XS.iloadN X4.here hx rfl (hb hby d26_23) rfl ?_
    show Steps p.tables e below (T4.setTop (mkF m 24 #[.val (.ref td), .val (.int (0 : Int32)), .val (.int sm), .val (.int sm), .val (.ref b4)] [(.int sm), (.int zd), (.int (0 : Int32)), (.ref b4), (.int (0 : Int32)), (.ref td)])) t
    refine st9 _ ?_
    show Steps p.tables e below (T9.setTop (mkF m 27 #[.val (.ref td), .val (.int (0 : Int32)), .val (.int sm), .val (.int sm), .val (.ref b4)] [(.int sm), (.int (0 : Int32)), (.ref b4), (.int (0 : Int32)), (.ref td)])) t
    refine st10 _ ?_
    show Steps p.tables e below (T10.setTop (mkF m 30 #[.val (.ref td), .val (.int (0 : Int32)), .val (.int sm), .val (.int sm), .val (.ref b4)] [])) t
    refine XS.aload X10.here hx rfl (hb hby d26_30) rfl rfl ?_
    exact k
  obtain ⟨fs, hr, hrun, hended, hW, hsame⟩ := X10.leave (v := some (.ref b4)) (fun h => by rw [Bd.returns] at h; cases h)
  refine ⟨_, _, R11 _ ?_, hrun, hended, _, _, rfl, ?_, ⟨_, rfl⟩, hW, hsame.mono (by decide) (by decide)⟩
  · show Steps p.tables e below (T10.setTop (mkF m 32 #[.val (.ref td), .val (.int (0 : Int32)), .val (.int sm), .val (.int sm), .val (.ref b4)] [(.ref b4)])) _
    exact retOut X10 hx Bd.returns rfl (Or.inr (Or.inr (Or.inr (Or.inr ⟨rfl, rfl, rfl⟩)))) (hb hby d26_32) hr
  · show Q_corb Z zCS vFM td kd zd vd sm rs h0 n0 _ T10.heap _
    rw [e10]
    exact ⟨b4, k4, rfl, N10, K10, sz_b4, V10⟩
theorem d25_0 : decode jdk_65_method_132_code 0 = .ok (.iload_n 1, 1) := by decide +kernel
theorem d25_1 : decode jdk_65_method_132_code 1 = .ok (.ifCond .ne 9, 3) := by decide +kernel
theorem d25_4 : decode jdk_65_method_132_code 4 = .ok (.iload_n 2, 1) := by decide +kernel
theorem d25_5 : decode jdk_65_method_132_code 5 = .ok (.aload_n 0, 1) := by decide +kernel
theorem d25_6 : decode jdk_65_method_132_code 6 = .ok (.arraylength, 1) := by decide +kernel
theorem d25_7 : decode jdk_65_method_132_code 7 = .ok (.if_icmp .eq 10, 3) := by decide +kernel
theorem d25_10 : decode jdk_65_method_132_code 10 = .ok (.aload_n 0, 1) := by decide +kernel
theorem d25_11 : decode jdk_65_method_132_code 11 = .ok (.iload_n 1, 1) := by decide +kernel
theorem d25_12 : decode jdk_65_method_132_code 12 = .ok (.iload_n 2, 1) := by decide +kernel
theorem pd_9 : parseMethodDescriptor "([BII)[B" = some ⟨[(.array .byte), .int, .int], some (.array .byte)⟩ := by decide +kernel
theorem d25_13 : decode jdk_65_method_132_code 13 = .ok (.invokestatic 339, 3) := by decide +kernel
theorem d25_16 : decode jdk_65_method_132_code 16 = .ok (.areturn, 1) := by decide +kernel
theorem ef_cor (m : MethodId) (td : Addr) (kd : ClassId) (zd : Int32) (vd : List Value) (sm : Int32) (rs : List Value) : entryFrame m #[(.ref td), (.int (0 : Int32)), (.int sm)] 3 = mkF m 0 #[.val (.ref td), .val (.int (0 : Int32)), .val (.int sm)] [] := by first | (simp [entryFrame, mkF, argsToLocals, Value.category]; done) | rfl
def Q_cor (Z : State) (zCS : Int32) (vFM : Value) (td : Addr) (kd : ClassId) (zd : Int32) (vd : List Value) (sm : Int32) (rs : List Value) (h0 : Heap) (n0 : Nat) (vv_ : Option Value) (hh_ : Heap) (LL_ : List Loc) : Prop := ∃ (b : Addr) (kb : ClassId), vv_ = some (.ref b) ∧ (Fr n0 LL_) ∧ (Keep h0 hh_ []) ∧ (h0.size ≤ b) ∧ (Arv Z hh_ b kb .byte sm rs (.int 0))
set_option maxRecDepth 65536 in
set_option maxHeartbeats 40000000 in
theorem cor (l : Launch) (Z : State) (a0 : Array Value) (hw : ∀ d ∈ tables_1, d.before a0 Z = true) (ws : List Jvm.Cond) (zCS : Int32) (vFM : Value) (td : Addr) (kd : ClassId) (zd : Int32) (vd : List Value) (sm : Int32) (rs : List Value) (h0 : Heap) (n0 : Nat) (O0 : Old Z n0 h0) (S_CS : Sta Z Z.heap "java/lang/String" "COMPACT_STRINGS" "Z" (.int zCS)) (hCS : ¬ (zCS = (0 : Int32))) (hcT0 : Jvm.Lit.constHeld Z "com/example/relayout/relayout/plan/Transfer" 7) (hcT1 : Jvm.Lit.constHeld Z "com/example/relayout/relayout/plan/Transfer" 22) (hcT2 : Jvm.Lit.constHeld Z "com/example/relayout/relayout/plan/Transfer" 26) (hcT3 : Jvm.Lit.constHeld Z "com/example/relayout/relayout/plan/Transfer" 45) (hcT4 : Jvm.Lit.constHeld Z "com/example/relayout/relayout/plan/Transfer" 47) (hcH : Jvm.Lit.constHeld Z "java/lang/String" 7) (hcW : Jvm.Lit.compactW.before a0 Z = true) (S_FM : Sta Z Z.heap "jdk/internal/util/Preconditions" "SIOOBE_FORMATTER" "Ljava/util/function/BiFunction;" vFM) (rFM : vFM.isRef = true) (Ad : Arv Z h0 td kd .byte zd vd (.int 0)) (hs0 : ¬ (sm < (0 : Int32))) (hlt : sm < zd) (hcap : sm.toNatClampNeg ≤ 16) (hcz : sm.toNatClampNeg ≤ zd.toNatClampNeg) (hrs : (List.take (0 : Int32).toNatClampNeg (List.replicate sm.toNatClampNeg (.int 0)) ++ (List.map (fun i => List.getD vd ((0 : Int32).toNatClampNeg + i) (.int 0)) (List.range sm.toNatClampNeg)) ++ List.drop ((0 : Int32).toNatClampNeg + sm.toNatClampNeg) (List.replicate sm.toNatClampNeg (.int 0))) = rs) (hne : ¬ (sm = zd)) :
    MetFree l (⟨"java/util/Arrays", "copyOfRange", "([BII)[B"⟩ : MethodName) (head1 (Jvm.Cond.code (⟨"java/util/Arrays", "copyOfRange", "([BII)[B"⟩ : MethodName) jdk_65_method_132_code 3 (some (.array .byte)) :: ws) ({ frames := 2, cells := 1, slots := 16, locals := 34 } : Room)) (fun aa_ U_ => aa_ = #[(.ref td), (.int (0 : Int32)), (.int sm)] ∧ Z.Warmed39 U_.vm ∧ U_.heap = h0) (fun _ _ _ _ _ => True) (fun _ U_ oo_ V_ => ∃ vv_ LL_, oo_ = .returned vv_ ∧ Q_cor Z zCS vFM td kd zd vd sm rs h0 n0 vv_ V_.heap LL_ ∧ FrameEnd U_ oo_ V_ LL_ ({ frames := 2, cells := 1, slots := 16, locals := 34 } : Room).cells ({ frames := 2, cells := 1, slots := 16, locals := 34 } : Room).slots) := by
  refine MetFree.of_bodySF (plainFor_of_name pn_java_util_Arrays) hisR ?_
  intro p e s m args below meth c s₁ Bd hml0 hP hK
  obtain ⟨rfl, hZ, hh⟩ := hP
  have hx := Bd.exec
  have hby := Bd.bytes
  have hml : c.maxLocals = 3 := hml0
  have hown : s.vm.findClass "java/util/Arrays" = some m.cls := findClass_of_methodNamed Bd.named
  have hnm := (name_of_methodNamed Bd.named Bd.method).1
  have X0 : Stand p l e ({ frames := 2, cells := 1, slots := 16, locals := 34 } : Room) s m #[(.ref td), (.int (0 : Int32)), (.int sm)] below meth c s₁ [] 0 0 := Stand.of_body Bd
  have e0 : s₁.heap = h0 := by rw [← hh, Bd.state]; rfl
  have N0 := Fr.nil n0
  have Z0 : n0 ≤ h0.size := O0.1 ▸ O0.2.1
  have hk0 := Nat.zero_le h0.size
  have K0 : Keep h0 h0 [] := Keep.refl _ _
  have R0 : ∀ t, Steps p.tables e below (s₁.setTop (mkF m 0 #[.val (.ref td), .val (.int (0 : Int32)), .val (.int sm)] [])) t → Steps p.tables e below (s₁.setTop (entryFrame m #[(.ref td), (.int (0 : Int32)), (.int sm)] 3)) t := fun t k => castTop (ef_cor m td kd zd vd sm rs) k
  obtain ⟨cl1, Ar1, -, S1, M1, -, -⟩ := id Ad
  obtain ⟨_, _, ⟨T2, L2, k2, n2⟩, -, X2, ⟨Lc2, hQ2, cl_2, cy_2, cz_2⟩, st2⟩ := Jvm.LawKit.callS X0 hx (y := (⟨"java/util/Arrays", "copyOfRangeByte", "([BII)[B"⟩ : MethodName)) hown (mvT hZ (hw _ (List.mem_of_getElem? (i := 154) rfl))) (mvT hZ (hw _ (List.mem_of_getElem? (i := 155) rfl))) (mvT hZ (hw _ (List.mem_of_getElem? (i := 152) rfl))) (mvT hZ (hw _ (List.mem_of_getElem? (i := 156) rfl))) (by decide) (backOf (W := 0) (corb l Z a0 hw [] zCS vFM td kd zd vd sm rs h0 n0 O0 S_CS hCS hcT0 hcT1 hcT2 hcT3 hcT4 hcH hcW S_FM rFM   Ad hs0 hlt hcap hcz hrs) hZ (hw _ (List.mem_of_getElem? (i := 156) rfl)) (hw _ (List.mem_of_getElem? (i := 152) rfl)) (by decide) (by decide)) (g := (mkF m 13 #[.val (.ref td), .val (.int (0 : Int32)), .val (.int sm)] [(.int sm), (.int (0 : Int32)), (.ref td)])) rfl (by rw [hml]; rfl) (argsL := [(.ref td), (.int (0 : Int32)), (.int sm)]) (rest := []) (lenOf pd_9 rfl) rfl (by show 2 * 0 + _ ≤ _; exact Nat.le_of_eq rfl) (hb hby d25_13) (fun _ _ => ⟨rfl, e0, (by decide : 0 + 1 ≤ _), (by decide : 0 + 16 ≤ _)⟩)
  dsimp only [Pt.U, Pt.locs, Pt.cells, Pt.slots] at X2 cl_2 cy_2 cz_2 st2 hQ2
  rw [cl_2, cy_2, cz_2] at X2
  obtain ⟨b2, kb2, rfl, N2q, K2q, fr2_b, y2_0⟩ := hQ2
  have N2 := Fr.app N0 N2q
  have ne_td_b2 : td ≠ b2 := Nat.ne_of_lt (Nat.lt_of_lt_of_le Ad.lt fr2_b)
  have g_b2 : n0 ≤ b2 := Nat.le_trans Z0 fr2_b
  have sz_b2 : h0.size ≤ b2 := Nat.le_trans K0.1 fr2_b
  have Z2 : n0 ≤ T2.heap.size := Nat.le_trans Z0 K2q.1
  have K2 : Keep h0 T2.heap [] := K0.trans K2q all0
  have O2 : Old Z n0 T2.heap := O0.keep K2q all0
  have R3 : ∀ t, Steps p.tables e below (T2.setTop (mkF m 16 #[.val (.ref td), .val (.int (0 : Int32)), .val (.int sm)] [(.ref b2)])) t → Steps p.tables e below (s₁.setTop (entryFrame m #[(.ref td), (.int (0 : Int32)), (.int sm)] 3)) t := by
    intro t k
    refine R0 t ?_
    show Steps p.tables e below (s₁.setTop (mkF m 0 #[.val (.ref td), .val (.int (0 : Int32)), .val (.int sm)] [])) t
    refine XS.iloadN X0.here hx rfl (hb hby d25_0) rfl ?_
    show Steps p.tables e below (s₁.setTop (mkF m 1 #[.val (.ref td), .val (.int (0 : Int32)), .val (.int sm)] [(.int (0 : Int32))])) t
    refine XS.ifNo X0.here hx rfl (hb hby d25_1) rfl ((if0 _ _).trans (teq ((by decide) : (0 : Int32) = (0 : Int32))).2) ?_
    show Steps p.tables e below (s₁.setTop (mkF m 4 #[.val (.ref td), .val (.int (0 : Int32)), .val (.int sm)] [])) t
    refine XS.iloadN X0.here hx rfl (hb hby d25_4) rfl ?_
    show Steps p.tables e below (s₁.setTop (mkF m 5 #[.val (.ref td), .val (.int (0 : Int32)), .val (.int sm)] [(.int sm)])) t
    refine XS.aloadN X0.here hx rfl (hb hby d25_5) rfl rfl ?_
    show Steps p.tables e below (s₁.setTop (mkF m 6 #[.val (.ref td), .val (.int (0 : Int32)), .val (.int sm)] [(.ref td), (.int sm)])) t
    refine X0.arraylength hx (by rw [e0]; exact Ar1.1) (State.isArrayOf_alike hZ.alike Ar1.2.1) (g := (mkF m 6 #[.val (.ref td), .val (.int (0 : Int32)), .val (.int sm)] [(.ref td), (.int sm)])) rfl rfl (hb hby d25_6) _ ?_
    rw [len_of S1 M1]
    show Steps p.tables e below (s₁.setTop (mkF m 7 #[.val (.ref td), .val (.int (0 : Int32)), .val (.int sm)] [(.int zd), (.int sm)])) t
    refine XS.icmpNo X0.here hx rfl (hb hby d25_7) rfl (feq (hne : ¬ (sm = zd))).1 ?_
    show Steps p.tables e below (s₁.setTop (mkF m 10 #[.val (.ref td), .val (.int (0 : Int32)), .val (.int sm)] [])) t
    refine XS.aloadN X0.here hx rfl (hb hby d25_10) rfl rfl ?_
    show Steps p.tables e below (s₁.setTop (mkF m 11 #[.val (.ref td), .val (.int (0 : Int32)), .val (.int sm)] [(.ref td)])) t
    refine XS.iloadN X0.here hx rfl (hb hby d25_11) rfl ?_
    show Steps p.tables e below (s₁.setTop (mkF m 12 #[.val (.ref td), .val (.int (0 : Int32)), .val (.int sm)] [(.int (0 : Int32)), (.ref td)])) t
    refine XS.iloadN X0.here hx rfl (hb hby d25_12) rfl ?_
    show Steps p.tables e below (s₁.setTop (mkF m 13 #[.val (.ref td), .val (.int (0 : Int32)), .val (.int sm)] [(.int sm), (.int (0 : Int32)), (.ref td)])) t
    refine st2 _ ?_
    exact k
  obtain ⟨fs, hr, hrun, hended, hW, hsame⟩ := X2.leave (v := some (.ref b2)) (fun h => by rw [Bd.returns] at h; cases h)
  refine ⟨_, _, R3 _ ?_, hrun, hended, _, _, rfl, ?_, ⟨_, rfl⟩, hW, hsame.mono (by decide) (by decide)⟩
  · show Steps p.tables e below (T2.setTop (mkF m 16 #[.val (.ref td), .val (.int (0 : Int32)), .val (.int sm)] [(.ref b2)])) _
    exact retOut X2 hx Bd.returns rfl (Or.inr (Or.inr (Or.inr (Or.inr ⟨rfl, rfl, rfl⟩)))) (hb hby d25_16) hr
  · show Q_cor Z zCS vFM td kd zd vd sm rs h0 n0 _ T2.heap _
    exact ⟨b2, kb2, rfl, N2, K2, sz_b2, y2_0⟩
theorem d20_0 : decode jdk_42_method_150_code 0 = .ok (.aload_n 0, 1) := by decide +kernel
theorem d20_1 : decode jdk_42_method_150_code 1 = .ok (.invokespecial 1, 3) := by decide +kernel
theorem d20_4 : decode jdk_42_method_150_code 4 = .ok (.aload_n 1, 1) := by decide +kernel
theorem pd_10 : parseMethodDescriptor "()[B" = some ⟨[], some (.array .byte)⟩ := by decide +kernel
theorem d20_5 : decode jdk_42_method_150_code 5 = .ok (.invokevirtual 552, 3) := by decide +kernel
theorem d20_8 : decode jdk_42_method_150_code 8 = .ok (.astore_n 3, 1) := by decide +kernel
theorem d20_9 : decode jdk_42_method_150_code 9 = .ok (.aload_n 1, 1) := by decide +kernel
theorem d20_10 : decode jdk_42_method_150_code 10 = .ok (.invokevirtual 549, 3) := by decide +kernel
theorem d20_13 : decode jdk_42_method_150_code 13 = .ok (.istore 4, 2) := by decide +kernel
theorem d20_15 : decode jdk_42_method_150_code 15 = .ok (.aload_n 1, 1) := by decide +kernel
theorem pd_11 : parseMethodDescriptor "()Z" = some ⟨[], some .boolean⟩ := by decide +kernel
theorem d20_16 : decode jdk_42_method_150_code 16 = .ok (.invokevirtual 1047, 3) := by decide +kernel
theorem d20_19 : decode jdk_42_method_150_code 19 = .ok (.ifCond .eq 22, 3) := by decide +kernel
theorem d20_22 : decode jdk_42_method_150_code 22 = .ok (.aload_n 0, 1) := by decide +kernel
theorem d20_23 : decode jdk_42_method_150_code 23 = .ok (.iconst 0, 1) := by decide +kernel
theorem d20_24 : decode jdk_42_method_150_code 24 = .ok (.putfield 15, 3) := by decide +kernel
theorem d20_27 : decode jdk_42_method_150_code 27 = .ok (.aload_n 0, 1) := by decide +kernel
theorem d20_28 : decode jdk_42_method_150_code 28 = .ok (.aload_n 3, 1) := by decide +kernel
theorem d20_29 : decode jdk_42_method_150_code 29 = .ok (.iconst 0, 1) := by decide +kernel
theorem d20_30 : decode jdk_42_method_150_code 30 = .ok (.iload 4, 2) := by decide +kernel
theorem d20_32 : decode jdk_42_method_150_code 32 = .ok (.invokestatic 54, 3) := by decide +kernel
theorem d20_35 : decode jdk_42_method_150_code 35 = .ok (.putfield 9, 3) := by decide +kernel
theorem d20_38 : decode jdk_42_method_150_code 38 = .ok (.goto 59, 3) := by decide +kernel
theorem d20_97 : decode jdk_42_method_150_code 97 = .ok (.return_, 1) := by decide +kernel
theorem ef_sinB2 (m : MethodId) (a : Addr) (sb : Addr) (td : Addr) (kd : ClassId) (zd : Int32) (vd : List Value) (sm : Int32) (rs : List Value) (u1 : Value) (u2 : Value) : entryFrame m #[(.ref a), (.ref sb), .null] 5 = mkF m 0 #[.val (.ref a), .val (.ref sb), .val .null, .unset, .unset] [] := by first | (simp [entryFrame, mkF, argsToLocals, Value.category]; done) | rfl
def Q_sinB2 (Z : State) (zCS : Int32) (vFM : Value) (a : Addr) (sb : Addr) (td : Addr) (kd : ClassId) (zd : Int32) (vd : List Value) (sm : Int32) (rs : List Value) (u1 : Value) (u2 : Value) (h0 : Heap) (n0 : Nat) (vv_ : Option Value) (hh_ : Heap) (LL_ : List Loc) : Prop := ∃ (b : Addr) (kb : ClassId), vv_ = none ∧ (Fr n0 LL_) ∧ (Keep h0 hh_ [a]) ∧ (h0.size ≤ b) ∧ (Exa Z hh_ a "java/lang/String") ∧ (Fld Z hh_ a "java/lang/String" "coder" "B" (.int (0 : Int32))) ∧ (Fld Z hh_ a "java/lang/String" "value" "[B" (.ref b)) ∧ (Arv Z hh_ b kb .byte sm rs (.int 0))
set_option maxRecDepth 65536 in
set_option maxHeartbeats 40000000 in
theorem sinB2 (l : Launch) (Z : State) (a0 : Array Value) (hw : ∀ d ∈ tables_1, d.before a0 Z = true) (ws : List Jvm.Cond) (zCS : Int32) (vFM : Value) (a : Addr) (sb : Addr) (td : Addr) (kd : ClassId) (zd : Int32) (vd : List Value) (sm : Int32) (rs : List Value) (u1 : Value) (u2 : Value) (h0 : Heap) (n0 : Nat) (O0 : Old Z n0 h0) (S_CS : Sta Z Z.heap "java/lang/String" "COMPACT_STRINGS" "Z" (.int zCS)) (hCS : ¬ (zCS = (0 : Int32))) (hcT0 : Jvm.Lit.constHeld Z "com/example/relayout/relayout/plan/Transfer" 7) (hcT1 : Jvm.Lit.constHeld Z "com/example/relayout/relayout/plan/Transfer" 22) (hcT2 : Jvm.Lit.constHeld Z "com/example/relayout/relayout/plan/Transfer" 26) (hcT3 : Jvm.Lit.constHeld Z "com/example/relayout/relayout/plan/Transfer" 45) (hcT4 : Jvm.Lit.constHeld Z "com/example/relayout/relayout/plan/Transfer" 47) (hcH : Jvm.Lit.constHeld Z "java/lang/String" 7) (hcW : Jvm.Lit.compactW.before a0 Z = true) (S_FM : Sta Z Z.heap "jdk/internal/util/Preconditions" "SIOOBE_FORMATTER" "Ljava/util/function/BiFunction;" vFM) (rFM : vFM.isRef = true) (g_a : n0 ≤ a) (Es : Exa Z h0 a "java/lang/String") (Fw1 : Fld Z h0 a "java/lang/String" "coder" "B" u1) (Fw2 : Fld Z h0 a "java/lang/String" "value" "[B" u2) (Eb : Exa Z h0 sb "java/lang/StringBuilder") (Fbc : Fld Z h0 sb "java/lang/AbstractStringBuilder" "coder" "B" (.int (0 : Int32))) (Fbv : Fld Z h0 sb "java/lang/AbstractStringBuilder" "value" "[B" (.ref td)) (Ad : Arv Z h0 td kd .byte zd vd (.int 0)) (Fbn : Fld Z h0 sb "java/lang/AbstractStringBuilder" "count" "I" (.int sm)) (hs0 : ¬ (sm < (0 : Int32))) (hlt : sm < zd) (hcap : sm.toNatClampNeg ≤ 16) (hcz : sm.toNatClampNeg ≤ zd.toNatClampNeg) (hrs : (List.take (0 : Int32).toNatClampNeg (List.replicate sm.toNatClampNeg (.int 0)) ++ (List.map (fun i => List.getD vd ((0 : Int32).toNatClampNeg + i) (.int 0)) (List.range sm.toNatClampNeg)) ++ List.drop ((0 : Int32).toNatClampNeg + sm.toNatClampNeg) (List.replicate sm.toNatClampNeg (.int 0))) = rs) (hne : ¬ (sm = zd)) :
    MetFree l (⟨"java/lang/String", "<init>", "(Ljava/lang/AbstractStringBuilder;Ljava/lang/Void;)V"⟩ : MethodName) (head1 (Jvm.Cond.code (⟨"java/lang/String", "<init>", "(Ljava/lang/AbstractStringBuilder;Ljava/lang/Void;)V"⟩ : MethodName) jdk_42_method_150_code 5 none :: ws) ({ frames := 3, cells := 1, slots := 16, locals := 49 } : Room)) (fun aa_ U_ => aa_ = #[(.ref a), (.ref sb), .null] ∧ Z.Warmed39 U_.vm ∧ U_.heap = h0) (fun _ _ _ _ _ => True) (fun _ U_ oo_ V_ => ∃ vv_ LL_, oo_ = .returned vv_ ∧ Q_sinB2 Z zCS vFM a sb td kd zd vd sm rs u1 u2 h0 n0 vv_ V_.heap LL_ ∧ FrameEnd U_ oo_ V_ LL_ ({ frames := 3, cells := 1, slots := 16, locals := 49 } : Room).cells ({ frames := 3, cells := 1, slots := 16, locals := 49 } : Room).slots) := by
  refine MetFree.of_bodySF (plainFor_of_name pn_java_lang_String) hisR ?_
  intro p e s m args below meth c s₁ Bd hml0 hP hK
  obtain ⟨rfl, hZ, hh⟩ := hP
  have hx := Bd.exec
  have hby := Bd.bytes
  have hml : c.maxLocals = 5 := hml0
  have hown : s.vm.findClass "java/lang/String" = some m.cls := findClass_of_methodNamed Bd.named
  have hnm := (name_of_methodNamed Bd.named Bd.method).1
  have X0 : Stand p l e ({ frames := 3, cells := 1, slots := 16, locals := 49 } : Room) s m #[(.ref a), (.ref sb), .null] below meth c s₁ [] 0 0 := Stand.of_body Bd
  have e0 : s₁.heap = h0 := by rw [← hh, Bd.state]; rfl
  have N0 := Fr.nil n0
  have Z0 : n0 ≤ h0.size := O0.1 ▸ O0.2.1
  have hk0 := Nat.zero_le h0.size
  have K0 : Keep h0 h0 [a] := Keep.refl _ _
  have R0 : ∀ t, Steps p.tables e below (s₁.setTop (mkF m 0 #[.val (.ref a), .val (.ref sb), .val .null, .unset, .unset] [])) t → Steps p.tables e below (s₁.setTop (entryFrame m #[(.ref a), (.ref sb), .null] 5)) t := fun t k => castTop (ef_sinB2 m a sb td kd zd vd sm rs u1 u2) k
  obtain ⟨T1, X1, e1, st1⟩ := initO X0 hx hZ hown (hw _ (List.mem_of_getElem? (i := 15) rfl)) (hw _ (List.mem_of_getElem? (i := 16) rfl)) (hw _ (List.mem_of_getElem? (i := 17) rfl)) e0 (g := (mkF m 1 #[.val (.ref a), .val (.ref sb), .val .null, .unset, .unset] [(.ref a)])) rfl (by rw [hml]; rfl) rfl (hb hby d20_1) (by decide) (W := 0) (by show 2 * 0 + _ ≤ _; exact Nat.le_of_eq rfl) (by decide)
  obtain ⟨cq2, kq2, q2a, q2b, q2c⟩ := isOf hZ e1 Eb
  obtain ⟨_, _, ⟨T2, L2, k2, n2⟩, -, X2, ⟨Lc2, hQ2, cl_2, cy_2, cz_2⟩, st2⟩ := X1.virtualBack hx (y := (⟨"java/lang/AbstractStringBuilder", "getValue", "()[B"⟩ : MethodName)) (z := (⟨"java/lang/AbstractStringBuilder", "getValue", "()[B"⟩ : MethodName)) hown (mvT hZ (hw _ (List.mem_of_getElem? (i := 132) rfl))) (mvT hZ (hw _ (List.mem_of_getElem? (i := 133) rfl))) (notFace_of_selects (args := #[]) (mvT hZ (hw _ (List.mem_of_getElem? (i := 135) rfl)))) (mvT hZ (hw _ (List.mem_of_getElem? (i := 135) rfl))) (mvT hZ (hw _ (List.mem_of_getElem? (i := 134) rfl))) (by decide) (backOf (W := 0) (gval l Z a0 hw [] zCS vFM sb td h0 n0 O0 S_CS hCS hcT0 hcT1 hcT2 hcT3 hcT4 hcH hcW S_FM rFM   Fbv) hZ (hw _ (List.mem_of_getElem? (i := 136) rfl)) (hw _ (List.mem_of_getElem? (i := 62) rfl)) (by decide) (by decide)) q2a q2c (g := (mkF m 5 #[.val (.ref a), .val (.ref sb), .val .null, .unset, .unset] [(.ref sb)])) rfl (by rw [hml]; rfl) (Steps.refl _) (argsL := []) (rest := []) (lenOf pd_10 rfl) rfl (by show 2 * 0 + _ ≤ _; exact Nat.le_of_eq rfl) (hb hby d20_5) (fun _ _ => ⟨rfl, e1, (by decide : 0 + 0 ≤ _), (by decide : 0 + 0 ≤ _)⟩)
  dsimp only [Pt.U, Pt.locs, Pt.cells, Pt.slots] at X2 cl_2 cy_2 cz_2 st2 hQ2
  rw [cl_2, cy_2, cz_2] at X2
  obtain ⟨rfl, N2q, e2⟩ := hQ2
  have N2 := Fr.app N0 N2q
  obtain ⟨cq3, kq3, q3a, q3b, q3c⟩ := isOf hZ e2 Eb
  obtain ⟨_, _, ⟨T3, L3, k3, n3⟩, -, X3, ⟨Lc3, hQ3, cl_3, cy_3, cz_3⟩, st3⟩ := X2.virtualBack hx (y := (⟨"java/lang/AbstractStringBuilder", "length", "()I"⟩ : MethodName)) (z := (⟨"java/lang/StringBuilder", "length", "()I"⟩ : MethodName)) hown (mvT hZ (hw _ (List.mem_of_getElem? (i := 137) rfl))) (mvT hZ (hw _ (List.mem_of_getElem? (i := 138) rfl))) (own_nf (args := #[]) (y := (⟨"java/lang/AbstractStringBuilder", "length", "()I"⟩ : MethodName)) (mvT hZ (hw _ (List.mem_of_getElem? (i := 96) rfl))) rfl) (mvT hZ (hw _ (List.mem_of_getElem? (i := 140) rfl))) (mvT hZ (hw _ (List.mem_of_getElem? (i := 141) rfl))) (by decide) (backOf (W := 0) (blen l Z a0 hw [] zCS vFM sb sm h0 n0 O0 S_CS hCS hcT0 hcT1 hcT2 hcT3 hcT4 hcH hcW S_FM rFM   Eb Fbn) hZ (hw _ (List.mem_of_getElem? (i := 142) rfl)) (hw _ (List.mem_of_getElem? (i := 54) rfl)) (by decide) (by decide)) q3a q3c (g := (mkF m 10 #[.val (.ref a), .val (.ref sb), .val .null, .val (.ref td), .unset] [(.ref sb)])) rfl (by rw [hml]; rfl) (Steps.refl _) (argsL := []) (rest := []) (lenOf pd_3 rfl) rfl (by show 2 * 0 + _ ≤ _; exact Nat.le_of_eq rfl) (hb hby d20_10) (fun _ _ => ⟨rfl, e2, (by decide : 0 + 0 ≤ _), (by decide : 0 + 0 ≤ _)⟩)
  dsimp only [Pt.U, Pt.locs, Pt.cells, Pt.slots] at X3 cl_3 cy_3 cz_3 st3 hQ3
  rw [cl_3, cy_3, cz_3] at X3
  obtain ⟨rfl, N3q, e3⟩ := hQ3
  have N3 := Fr.app N2 N3q
  obtain ⟨cq4, kq4, q4a, q4b, q4c⟩ := isOf hZ e3 Eb
  obtain ⟨_, _, ⟨T4, L4, k4, n4⟩, -, X4, ⟨Lc4, hQ4, cl_4, cy_4, cz_4⟩, st4⟩ := X3.virtualBack hx (y := (⟨"java/lang/AbstractStringBuilder", "isLatin1", "()Z"⟩ : MethodName)) (z := (⟨"java/lang/AbstractStringBuilder", "isLatin1", "()Z"⟩ : MethodName)) hown (mvT hZ (hw _ (List.mem_of_getElem? (i := 145) rfl))) (mvT hZ (hw _ (List.mem_of_getElem? (i := 146) rfl))) (notFace_of_selects (args := #[]) (mvT hZ (hw _ (List.mem_of_getElem? (i := 148) rfl)))) (mvT hZ (hw _ (List.mem_of_getElem? (i := 148) rfl))) (mvT hZ (hw _ (List.mem_of_getElem? (i := 147) rfl))) (by decide) (backOf (W := 0) (alat l Z a0 hw [] zCS vFM sb h0 n0 O0 S_CS hCS hcT0 hcT1 hcT2 hcT3 hcT4 hcH hcW S_FM rFM   Eb Fbc) hZ (hw _ (List.mem_of_getElem? (i := 149) rfl)) (hw _ (List.mem_of_getElem? (i := 62) rfl)) (by decide) (by decide)) q4a q4c (g := (mkF m 16 #[.val (.ref a), .val (.ref sb), .val .null, .val (.ref td), .val (.int sm)] [(.ref sb)])) rfl (by rw [hml]; rfl) (Steps.refl _) (argsL := []) (rest := []) (lenOf pd_11 rfl) rfl (by show 2 * 0 + _ ≤ _; exact Nat.le_of_eq rfl) (hb hby d20_16) (fun _ _ => ⟨rfl, e3, (by decide : 0 + 0 ≤ _), (by decide : 0 + 0 ≤ _)⟩)
  dsimp only [Pt.U, Pt.locs, Pt.cells, Pt.slots] at X4 cl_4 cy_4 cz_4 st4 hQ4
  rw [cl_4, cy_4, cz_4] at X4
  obtain ⟨rfl, N4q, e4⟩ := hQ4
  have N4 := Fr.app N3 N4q
  obtain ⟨T5, h5, X5, e5, W5, st5⟩ := putFN X4 hx hZ hown (hw _ (List.mem_of_getElem? (i := 25) rfl)) Via.refl e4 Fw1 Es (Or.inr ⟨(hw _ (List.mem_of_getElem? (i := 21) rfl)), rfl, hnm⟩) (hw _ (List.mem_of_getElem? (i := 5) rfl)) (ty := .byte) (v' := (.int (0 : Int32))) (by decide) (by decide) (by decide) (g := (mkF m 24 #[.val (.ref a), .val (.ref sb), .val .null, .val (.ref td), .val (.int sm)] [(.int (0 : Int32)), (.ref a)])) rfl rfl (hb hby d20_24)
  have ne_sb_a : sb ≠ a := ne_exa Eb Es (by decide)
  have ne_a_td : a ≠ td := Es.neArv Ad (hw _ (List.mem_of_getElem? (i := 5) rfl))
  have Z5 : n0 ≤ h5.size := Nat.le_trans Z0 (Keep.of_wr W5).1
  have K5 : Keep h0 h5 [a] := K0.wr W5 (Or.inl (List.mem_of_getElem? (i := 0) rfl))
  have O5 : Old Z n0 h5 := O0.wr W5 g_a
  have N5 := Fr.snoc X5 N4 g_a
  have fw5 : Fld Z h5 a "java/lang/String" "coder" "B" (.int (0 : Int32)) := Fw1.same W5
  have f7 : Arv Z h5 td kd .byte zd vd (.int 0) := (Ad.other W5 (Ne.symm ne_a_td))
  obtain ⟨_, _, ⟨T6, L6, k6, n6⟩, -, X6, ⟨Lc6, hQ6, cl_6, cy_6, cz_6⟩, st6⟩ := Jvm.LawKit.callS X5 hx (y := (⟨"java/util/Arrays", "copyOfRange", "([BII)[B"⟩ : MethodName)) hown (mvT hZ (hw _ (List.mem_of_getElem? (i := 150) rfl))) (mvT hZ (hw _ (List.mem_of_getElem? (i := 151) rfl))) (mvT hZ (hw _ (List.mem_of_getElem? (i := 152) rfl))) (mvT hZ (hw _ (List.mem_of_getElem? (i := 153) rfl))) (by decide) (backOf (W := 1) (cor l Z a0 hw [] zCS vFM td kd zd vd sm rs h5 n0 O5 S_CS hCS hcT0 hcT1 hcT2 hcT3 hcT4 hcH hcW S_FM rFM   f7 hs0 hlt hcap hcz hrs hne) hZ (hw _ (List.mem_of_getElem? (i := 153) rfl)) (hw _ (List.mem_of_getElem? (i := 152) rfl)) (by decide) (by decide)) (g := (mkF m 32 #[.val (.ref a), .val (.ref sb), .val .null, .val (.ref td), .val (.int sm)] [(.int sm), (.int (0 : Int32)), (.ref td), (.ref a)])) rfl (by rw [hml]; rfl) (argsL := [(.ref td), (.int (0 : Int32)), (.int sm)]) (rest := [(.ref a)]) (lenOf pd_9 rfl) rfl (by show 2 * 0 + _ ≤ _; exact Nat.le_of_eq rfl) (hb hby d20_32) (fun _ _ => ⟨rfl, e5, (by decide : 0 + 1 ≤ _), (by decide : 0 + 16 ≤ _)⟩)
  dsimp only [Pt.U, Pt.locs, Pt.cells, Pt.slots] at X6 cl_6 cy_6 cz_6 st6 hQ6
  rw [cl_6, cy_6, cz_6] at X6
  obtain ⟨b6, kb6, rfl, N6q, K6q, fr6_b, y6_0⟩ := hQ6
  have N6 := Fr.app N5 N6q
  have f8 : Exa Z h5 a "java/lang/String" := (Es.wr W5)
  have ne_a_b6 : a ≠ b6 := Nat.ne_of_lt (Nat.lt_of_lt_of_le f8.lt fr6_b)
  have f9 : Exa Z h5 sb "java/lang/StringBuilder" := (Eb.wr W5)
  have ne_sb_b6 : sb ≠ b6 := Nat.ne_of_lt (Nat.lt_of_lt_of_le f9.lt fr6_b)
  have ne_td_b6 : td ≠ b6 := Nat.ne_of_lt (Nat.lt_of_lt_of_le f7.lt fr6_b)
  have g_b6 : n0 ≤ b6 := Nat.le_trans Z5 fr6_b
  have sz_b6 : h0.size ≤ b6 := Nat.le_trans K5.1 fr6_b
  have Z6 : n0 ≤ T6.heap.size := Nat.le_trans Z5 K6q.1
  have K6 : Keep h0 T6.heap [a] := K5.trans K6q all0
  have O6 : Old Z n0 T6.heap := O5.keep K6q all0
  have f11 : Exa Z T6.heap a "java/lang/String" := (f8.keep K6q)
  have f12 : Fld Z T6.heap a "java/lang/String" "value" "[B" u2 := ((Fw2.other W5 (Or.inr (slot_ne (Or.inr (hw _ (List.mem_of_getElem? (i := 20) rfl))) (Or.inr (hw _ (List.mem_of_getElem? (i := 21) rfl))) (by decide) (t := (.array .byte)) (t' := .byte) (by decide) (by decide)))).keep K6q nin0)
  obtain ⟨T10, h10, X10, e10, W10, st10⟩ := putF X6 hx hZ hown (host := "") (Or.inl (hw _ (List.mem_of_getElem? (i := 24) rfl))) Via.refl rfl f12 f11 (Or.inr ⟨(hw _ (List.mem_of_getElem? (i := 20) rfl)), rfl, hnm⟩) (hw _ (List.mem_of_getElem? (i := 5) rfl)) (ty := (.array .byte)) (by decide) rfl rfl (g := (mkF m 35 #[.val (.ref a), .val (.ref sb), .val .null, .val (.ref td), .val (.int sm)] [(.ref b6), (.ref a)])) rfl rfl (hb hby d20_35)
  have Z10 : n0 ≤ h10.size := Nat.le_trans Z6 (Keep.of_wr W10).1
  have K10 : Keep h0 h10 [a] := K6.wr W10 (Or.inl (List.mem_of_getElem? (i := 0) rfl))
  have O10 : Old Z n0 h10 := O6.wr W10 g_a
  have N10 := Fr.snoc X10 N6 g_a
  have fw10 : Fld Z h10 a "java/lang/String" "value" "[B" (.ref b6) := f12.same W10
  have R13 : ∀ t, Steps p.tables e below (T10.setTop (mkF m 97 #[.val (.ref a), .val (.ref sb), .val .null, .val (.ref td), .val (.int sm)] [])) t → Steps p.tables e below (s₁.setTop (entryFrame m #[(.ref a), (.ref sb), .null] 5)) t := by
    intro t k
    refine R0 t ?_
    show Steps p.tables e below (s₁.setTop (mkF m 0 #[.val (.ref a), .val (.ref sb), .val .null, .unset, .unset] [])) t
    refine XS.aloadN X0.here hx rfl (hb hby d20_0) rfl rfl ?_
    show Steps p.tables e below (s₁.setTop (mkF m 1 #[.val (.ref a), .val (.ref sb), .val .null, .unset, .unset] [(.ref a)])) t
    refine st1 _ ?_
    show Steps p.tables e below (T1.setTop (mkF m 4 #[.val (.ref a), .val (.ref sb), .val .null, .unset, .unset] [])) t
    refine XS.aloadN X1.here hx rfl (hb hby d20_4) rfl rfl ?_
    show Steps p.tables e below (T1.setTop (mkF m 5 #[.val (.ref a), .val (.ref sb), .val .null, .unset, .unset] [(.ref sb)])) t
    refine st2.trans ?_
    show Steps p.tables e below (T2.setTop (mkF m 8 #[.val (.ref a), .val (.ref sb), .val .null, .unset, .unset] [(.ref td)])) t
    refine XS.astoreN X2.here hx rfl (hb hby d20_8) rfl rfl (l' := #[.val (.ref a), .val (.ref sb), .val .null, .val (.ref td), .unset]) rfl ?_
    show Steps p.tables e below (T2.setTop (mkF m 9 #[.val (.ref a), .val (.ref sb), .val .null, .val (.ref td), .unset] [])) t
    refine XS.aloadN X2.here hx rfl (hb hby d20_9) rfl rfl ?_
    show Steps p.tables e below (T2.setTop (mkF m 10 #[.val (.ref a), .val (.ref sb), .val .null, .val (.ref td), .unset] [(.ref sb)])) t
    refine st3.trans ?_
    show Steps p.tables e below (T3.setTop (mkF m 13 #[.val (.ref a), .val (.ref sb), .val .null, .val (.ref td), .unset] [(.int sm)])) t
    refine XS.istore X3.here hx rfl (hb hby d20_13) rfl (l' := #[.val (.ref a), .val (.ref sb), .val .null, .val (.ref td), .val (.int sm)]) rfl ?_
    show Steps p.tables e below (T3.setTop (mkF m 15 #[.val (.ref a), .val (.ref sb), .val .null, .val (.ref td), .val (.int sm)] [])) t
    refine XS.aloadN X3.here hx rfl (hb hby d20_15) rfl rfl ?_
    show Steps p.tables e below (T3.setTop (mkF m 16 #[.val (.ref a), .val (.ref sb), .val .null, .val (.ref td), .val (.int sm)] [(.ref sb)])) t
    refine st4.trans ?_
    show Steps p.tables e below (T4.setTop (mkF m 19 #[.val (.ref a), .val (.ref sb), .val .null, .val (.ref td), .val (.int sm)] [(.int (1 : Int32))])) t
    refine XS.ifNo X4.here hx rfl (hb hby d20_19) rfl ((if0 _ _).trans (feq ((by decide) : ¬ ((1 : Int32) = (0 : Int32)))).1) ?_
    show Steps p.tables e below (T4.setTop (mkF m 22 #[.val (.ref a), .val (.ref sb), .val .null, .val (.ref td), .val (.int sm)] [])) t
    refine XS.aloadN X4.here hx rfl (hb hby d20_22) rfl rfl ?_
    show Steps p.tables e below (T4.setTop (mkF m 23 #[.val (.ref a), .val (.ref sb), .val .null, .val (.ref td), .val (.int sm)] [(.ref a)])) t
    refine XS.iconst X4.here hx rfl (hb hby d20_23) ?_
    show Steps p.tables e below (T4.setTop (mkF m 24 #[.val (.ref a), .val (.ref sb), .val .null, .val (.ref td), .val (.int sm)] [(.int (0 : Int32)), (.ref a)])) t
    refine st5 _ ?_
    show Steps p.tables e below (T5.setTop (mkF m 27 #[.val (.ref a), .val (.ref sb), .val .null, .val (.ref td), .val (.int sm)] [])) t
    refine XS.aloadN X5.here hx rfl (hb hby d20_27) rfl rfl ?_
    show Steps p.tables e below (T5.setTop (mkF m 28 #[.val (.ref a), .val (.ref sb), .val .null, .val (.ref td), .val (.int sm)] [(.ref a)])) t
    refine XS.aloadN X5.here hx rfl (hb hby d20_28) rfl rfl ?_
    show Steps p.tables e below (T5.setTop (mkF m 29 #[.val (.ref a), .val (.ref sb), .val .null, .val (.ref td), .val (.int sm)] [(.ref td), (.ref a)])) t
    refine XS.iconst X5.here hx rfl (hb hby d20_29) ?_
    show Steps p.tables e below (T5.setTop (mkF m 30 #[.val (.ref a), .val (.ref sb), .val .null, .val (.ref td), .val (.int sm)] [(.int (0 : Int32)), (.ref td), (.ref a)])) t
    refine XS.iload X5.here hx rfl (hb hby d20_30) rfl ?_
    show Steps p.tables e below (T5.setTop (mkF m 32 #[.val (.ref a), .val (.ref sb), .val .null, .val (.ref td), .val (.int sm)] [(.int sm), (.int (0 : Int32)), (.ref td), (.ref a)])) t
    refine st6 _ ?_
    show Steps p.tables e below (T6.setTop (mkF m 35 #[.val (.ref a), .val (.ref sb), .val .null, .val (.ref td), .val (.int sm)] [(.ref b6), (.ref a)])) t
    refine st10 _ ?_
    show Steps p.tables e below (T10.setTop (mkF m 38 #[.val (.ref a), .val (.ref sb), .val .null, .val (.ref td), .val (.int sm)] [])) t
    refine XS.goto X10.here hx rfl (pc0 := 38) (pc' := 97) rfl (hb hby d20_38) (by decide) (by decide) ?_
    exact k
  have f14 : Exa Z h10 a "java/lang/String" := (f11.wr W10)
  have f15 : Fld Z h10 a "java/lang/String" "coder" "B" (.int (0 : Int32)) := ((fw5.keep K6q nin0).other W10 (Or.inr (slot_ne (Or.inr (hw _ (List.mem_of_getElem? (i := 21) rfl))) (Or.inr (hw _ (List.mem_of_getElem? (i := 20) rfl))) (by decide) (t := .byte) (t' := (.array .byte)) (by decide) (by decide))))
  have f16 : Arv Z h10 b6 kb6 .byte sm rs (.int 0) := (y6_0.other W10 (Ne.symm ne_a_b6))
  obtain ⟨fs, hr, hrun, hended, hW, hsame⟩ := X10.leave (v := none) (fun _ => rfl)
  refine ⟨_, _, R13 _ ?_, hrun, hended, _, _, rfl, ?_, ⟨_, rfl⟩, hW, hsame.mono (by decide) (by decide)⟩
  · show Steps p.tables e below (T10.setTop (mkF m 97 #[.val (.ref a), .val (.ref sb), .val .null, .val (.ref td), .val (.int sm)] [])) _
    exact X10.returnOut hx Bd.returns (hb hby d20_97) hr
  · show Q_sinB2 Z zCS vFM a sb td kd zd vd sm rs u1 u2 h0 n0 _ T10.heap _
    rw [e10]
    exact ⟨b6, kb6, rfl, N10, K10, sz_b6, f14, f15, fw10, f16⟩
theorem d19_0 : decode jdk_42_method_53_code 0 = .ok (.aload_n 0, 1) := by decide +kernel
theorem d19_1 : decode jdk_42_method_53_code 1 = .ok (.aload_n 1, 1) := by decide +kernel
theorem d19_2 : decode jdk_42_method_53_code 2 = .ok (.aconst_null, 1) := by decide +kernel
theorem pd_12 : parseMethodDescriptor "(Ljava/lang/AbstractStringBuilder;Ljava/lang/Void;)V" = some ⟨[(.object "java/lang/AbstractStringBuilder"), (.object "java/lang/Void")], none⟩ := by decide +kernel
theorem d19_3 : decode jdk_42_method_53_code 3 = .ok (.invokespecial 489, 3) := by decide +kernel
theorem d19_6 : decode jdk_42_method_53_code 6 = .ok (.return_, 1) := by decide +kernel
theorem ef_sinB (m : MethodId) (a : Addr) (sb : Addr) (td : Addr) (kd : ClassId) (zd : Int32) (vd : List Value) (sm : Int32) (rs : List Value) (u1 : Value) (u2 : Value) : entryFrame m #[(.ref a), (.ref sb)] 2 = mkF m 0 #[.val (.ref a), .val (.ref sb)] [] := by first | (simp [entryFrame, mkF, argsToLocals, Value.category]; done) | rfl
def Q_sinB (Z : State) (zCS : Int32) (vFM : Value) (a : Addr) (sb : Addr) (td : Addr) (kd : ClassId) (zd : Int32) (vd : List Value) (sm : Int32) (rs : List Value) (u1 : Value) (u2 : Value) (h0 : Heap) (n0 : Nat) (vv_ : Option Value) (hh_ : Heap) (LL_ : List Loc) : Prop := ∃ (b : Addr) (kb : ClassId), vv_ = none ∧ (Fr n0 LL_) ∧ (Keep h0 hh_ [a]) ∧ (h0.size ≤ b) ∧ (Exa Z hh_ a "java/lang/String") ∧ (Fld Z hh_ a "java/lang/String" "coder" "B" (.int (0 : Int32))) ∧ (Fld Z hh_ a "java/lang/String" "value" "[B" (.ref b)) ∧ (Arv Z hh_ b kb .byte sm rs (.int 0))
set_option maxRecDepth 65536 in
set_option maxHeartbeats 40000000 in
theorem sinB (l : Launch) (Z : State) (a0 : Array Value) (hw : ∀ d ∈ tables_1, d.before a0 Z = true) (ws : List Jvm.Cond) (zCS : Int32) (vFM : Value) (a : Addr) (sb : Addr) (td : Addr) (kd : ClassId) (zd : Int32) (vd : List Value) (sm : Int32) (rs : List Value) (u1 : Value) (u2 : Value) (h0 : Heap) (n0 : Nat) (O0 : Old Z n0 h0) (S_CS : Sta Z Z.heap "java/lang/String" "COMPACT_STRINGS" "Z" (.int zCS)) (hCS : ¬ (zCS = (0 : Int32))) (hcT0 : Jvm.Lit.constHeld Z "com/example/relayout/relayout/plan/Transfer" 7) (hcT1 : Jvm.Lit.constHeld Z "com/example/relayout/relayout/plan/Transfer" 22) (hcT2 : Jvm.Lit.constHeld Z "com/example/relayout/relayout/plan/Transfer" 26) (hcT3 : Jvm.Lit.constHeld Z "com/example/relayout/relayout/plan/Transfer" 45) (hcT4 : Jvm.Lit.constHeld Z "com/example/relayout/relayout/plan/Transfer" 47) (hcH : Jvm.Lit.constHeld Z "java/lang/String" 7) (hcW : Jvm.Lit.compactW.before a0 Z = true) (S_FM : Sta Z Z.heap "jdk/internal/util/Preconditions" "SIOOBE_FORMATTER" "Ljava/util/function/BiFunction;" vFM) (rFM : vFM.isRef = true) (g_a : n0 ≤ a) (Es : Exa Z h0 a "java/lang/String") (Fw1 : Fld Z h0 a "java/lang/String" "coder" "B" u1) (Fw2 : Fld Z h0 a "java/lang/String" "value" "[B" u2) (Eb : Exa Z h0 sb "java/lang/StringBuilder") (Fbc : Fld Z h0 sb "java/lang/AbstractStringBuilder" "coder" "B" (.int (0 : Int32))) (Fbv : Fld Z h0 sb "java/lang/AbstractStringBuilder" "value" "[B" (.ref td)) (Ad : Arv Z h0 td kd .byte zd vd (.int 0)) (Fbn : Fld Z h0 sb "java/lang/AbstractStringBuilder" "count" "I" (.int sm)) (hs0 : ¬ (sm < (0 : Int32))) (hlt : sm < zd) (hcap : sm.toNatClampNeg ≤ 16) (hcz : sm.toNatClampNeg ≤ zd.toNatClampNeg) (hrs : (List.take (0 : Int32).toNatClampNeg (List.replicate sm.toNatClampNeg (.int 0)) ++ (List.map (fun i => List.getD vd ((0 : Int32).toNatClampNeg + i) (.int 0)) (List.range sm.toNatClampNeg)) ++ List.drop ((0 : Int32).toNatClampNeg + sm.toNatClampNeg) (List.replicate sm.toNatClampNeg (.int 0))) = rs) (hne : ¬ (sm = zd)) :
    MetFree l (⟨"java/lang/String", "<init>", "(Ljava/lang/StringBuilder;)V"⟩ : MethodName) (head1 (Jvm.Cond.code (⟨"java/lang/String", "<init>", "(Ljava/lang/StringBuilder;)V"⟩ : MethodName) jdk_42_method_53_code 2 none :: ws) ({ frames := 4, cells := 1, slots := 16, locals := 65 } : Room)) (fun aa_ U_ => aa_ = #[(.ref a), (.ref sb)] ∧ Z.Warmed39 U_.vm ∧ U_.heap = h0) (fun _ _ _ _ _ => True) (fun _ U_ oo_ V_ => ∃ vv_ LL_, oo_ = .returned vv_ ∧ Q_sinB Z zCS vFM a sb td kd zd vd sm rs u1 u2 h0 n0 vv_ V_.heap LL_ ∧ FrameEnd U_ oo_ V_ LL_ ({ frames := 4, cells := 1, slots := 16, locals := 65 } : Room).cells ({ frames := 4, cells := 1, slots := 16, locals := 65 } : Room).slots) := by
  refine MetFree.of_bodySF (plainFor_of_name pn_java_lang_String) hisR ?_
  intro p e s m args below meth c s₁ Bd hml0 hP hK
  obtain ⟨rfl, hZ, hh⟩ := hP
  have hx := Bd.exec
  have hby := Bd.bytes
  have hml : c.maxLocals = 2 := hml0
  have hown : s.vm.findClass "java/lang/String" = some m.cls := findClass_of_methodNamed Bd.named
  have hnm := (name_of_methodNamed Bd.named Bd.method).1
  have X0 : Stand p l e ({ frames := 4, cells := 1, slots := 16, locals := 65 } : Room) s m #[(.ref a), (.ref sb)] below meth c s₁ [] 0 0 := Stand.of_body Bd
  have e0 : s₁.heap = h0 := by rw [← hh, Bd.state]; rfl
  have N0 := Fr.nil n0
  have Z0 : n0 ≤ h0.size := O0.1 ▸ O0.2.1
  have hk0 := Nat.zero_le h0.size
  have K0 : Keep h0 h0 [a] := Keep.refl _ _
  have R0 : ∀ t, Steps p.tables e below (s₁.setTop (mkF m 0 #[.val (.ref a), .val (.ref sb)] [])) t → Steps p.tables e below (s₁.setTop (entryFrame m #[(.ref a), (.ref sb)] 2)) t := fun t k => castTop (ef_sinB m a sb td kd zd vd sm rs u1 u2) k
  obtain ⟨_, _, ⟨T1, L1, k1, n1⟩, -, X1, ⟨Lc1, hQ1, cl_1, cy_1, cz_1⟩, st1⟩ := X0.specialBack hx (y := (⟨"java/lang/String", "<init>", "(Ljava/lang/AbstractStringBuilder;Ljava/lang/Void;)V"⟩ : MethodName)) rfl hown (mvT hZ (hw _ (List.mem_of_getElem? (i := 129) rfl))) (mvT hZ (hw _ (List.mem_of_getElem? (i := 130) rfl))) (mvT hZ (hw _ (List.mem_of_getElem? (i := 131) rfl))) (by decide) (backOf (W := 0) (sinB2 l Z a0 hw [] zCS vFM a sb td kd zd vd sm rs u1 u2 h0 n0 O0 S_CS hCS hcT0 hcT1 hcT2 hcT3 hcT4 hcH hcW S_FM rFM g_a  Es Fw1 Fw2 Eb Fbc Fbv Ad Fbn hs0 hlt hcap hcz hrs hne) hZ (hw _ (List.mem_of_getElem? (i := 131) rfl)) (hw _ (List.mem_of_getElem? (i := 6) rfl)) (by decide) (by decide)) (g := (mkF m 3 #[.val (.ref a), .val (.ref sb)] [.null, (.ref sb), (.ref a)])) rfl (by rw [hml]; rfl) (Steps.refl _) (a := a) (argsL := [(.ref sb), .null]) (rest := []) (lenOf pd_12 rfl) rfl (by show 2 * 0 + _ ≤ _; exact Nat.le_of_eq rfl) (hb hby d19_3) (fun _ _ => ⟨rfl, e0, (by decide : 0 + 1 ≤ _), (by decide : 0 + 16 ≤ _)⟩)
  dsimp only [Pt.U, Pt.locs, Pt.cells, Pt.slots] at X1 cl_1 cy_1 cz_1 st1 hQ1
  rw [cl_1, cy_1, cz_1] at X1
  obtain ⟨b1, kb1, rfl, N1q, K1q, fr1_b, y1_0, y1_1, y1_2, y1_3⟩ := hQ1
  have N1 := Fr.app N0 N1q
  have ne_a_b1 : a ≠ b1 := Nat.ne_of_lt (Nat.lt_of_lt_of_le Es.lt fr1_b)
  have ne_sb_b1 : sb ≠ b1 := Nat.ne_of_lt (Nat.lt_of_lt_of_le Eb.lt fr1_b)
  have ne_td_b1 : td ≠ b1 := Nat.ne_of_lt (Nat.lt_of_lt_of_le Ad.lt fr1_b)
  have g_b1 : n0 ≤ b1 := Nat.le_trans Z0 fr1_b
  have sz_b1 : h0.size ≤ b1 := Nat.le_trans K0.1 fr1_b
  have ne_sb_a : sb ≠ a := ne_exa Eb Es (by decide)
  have ne_a_td : a ≠ td := Es.neArv Ad (hw _ (List.mem_of_getElem? (i := 5) rfl))
  have Z1 : n0 ≤ T1.heap.size := Nat.le_trans Z0 K1q.1
  have K1 : Keep h0 T1.heap [a] := K0.trans K1q (allS (Or.inl (List.mem_of_getElem? (i := 0) rfl)) all0)
  have O1 : Old Z n0 T1.heap := O0.keep K1q (allS g_a all0)
  have R2 : ∀ t, Steps p.tables e below (T1.setTop (mkF m 6 #[.val (.ref a), .val (.ref sb)] [])) t → Steps p.tables e below (s₁.setTop (entryFrame m #[(.ref a), (.ref sb)] 2)) t := by
    intro t k
    refine R0 t ?_
    show Steps p.tables e below (s₁.setTop (mkF m 0 #[.val (.ref a), .val (.ref sb)] [])) t
    refine XS.aloadN X0.here hx rfl (hb hby d19_0) rfl rfl ?_
    show Steps p.tables e below (s₁.setTop (mkF m 1 #[.val (.ref a), .val (.ref sb)] [(.ref a)])) t
    refine XS.aloadN X0.here hx rfl (hb hby d19_1) rfl rfl ?_
    show Steps p.tables e below (s₁.setTop (mkF m 2 #[.val (.ref a), .val (.ref sb)] [(.ref sb), (.ref a)])) t
    refine XS.aconstNull X0.here hx rfl (hb hby d19_2) ?_
    show Steps p.tables e below (s₁.setTop (mkF m 3 #[.val (.ref a), .val (.ref sb)] [.null, (.ref sb), (.ref a)])) t
    refine st1.trans ?_
    exact k
  obtain ⟨fs, hr, hrun, hended, hW, hsame⟩ := X1.leave (v := none) (fun _ => rfl)
  refine ⟨_, _, R2 _ ?_, hrun, hended, _, _, rfl, ?_, ⟨_, rfl⟩, hW, hsame.mono (by decide) (by decide)⟩
  · show Steps p.tables e below (T1.setTop (mkF m 6 #[.val (.ref a), .val (.ref sb)] [])) _
    exact X1.returnOut hx Bd.returns (hb hby d19_6) hr
  · show Q_sinB Z zCS vFM a sb td kd zd vd sm rs u1 u2 h0 n0 _ T1.heap _
    exact ⟨b1, kb1, rfl, N1, K1, sz_b1, y1_0, y1_1, y1_2, y1_3⟩
theorem d18_0 : decode jdk_67_method_42_code 0 = .ok (.new 18, 3) := by decide +kernel
theorem d18_3 : decode jdk_67_method_42_code 3 = .ok (.dup, 1) := by decide +kernel
theorem d18_4 : decode jdk_67_method_42_code 4 = .ok (.aload_n 0, 1) := by decide +kernel
theorem pd_13 : parseMethodDescriptor "(Ljava/lang/StringBuilder;)V" = some ⟨[(.object "java/lang/StringBuilder")], none⟩ := by decide +kernel
theorem d18_5 : decode jdk_67_method_42_code 5 = .ok (.invokespecial 137, 3) := by decide +kernel
theorem d18_8 : decode jdk_67_method_42_code 8 = .ok (.areturn, 1) := by decide +kernel
theorem ef_sbts (m : MethodId) (sb : Addr) (td : Addr) (kd : ClassId) (zd : Int32) (vd : List Value) (sm : Int32) (rs : List Value) : entryFrame m #[(.ref sb)] 1 = mkF m 0 #[.val (.ref sb)] [] := by first | (simp [entryFrame, mkF, argsToLocals, Value.category]; done) | rfl
def Q_sbts (Z : State) (zCS : Int32) (vFM : Value) (sb : Addr) (td : Addr) (kd : ClassId) (zd : Int32) (vd : List Value) (sm : Int32) (rs : List Value) (h0 : Heap) (n0 : Nat) (vv_ : Option Value) (hh_ : Heap) (LL_ : List Loc) : Prop := ∃ (a : Addr) (b : Addr) (kb : ClassId), vv_ = some (.ref a) ∧ (Fr n0 LL_) ∧ (Keep h0 hh_ []) ∧ (h0.size ≤ a) ∧ (h0.size ≤ b) ∧ (Exa Z hh_ a "java/lang/String") ∧ (Fld Z hh_ a "java/lang/String" "coder" "B" (.int (0 : Int32))) ∧ (Fld Z hh_ a "java/lang/String" "value" "[B" (.ref b)) ∧ (Arv Z hh_ b kb .byte sm rs (.int 0))
set_option maxRecDepth 65536 in
set_option maxHeartbeats 40000000 in
theorem sbts (l : Launch) (Z : State) (a0 : Array Value) (hw : ∀ d ∈ tables_1, d.before a0 Z = true) (ws : List Jvm.Cond) (zCS : Int32) (vFM : Value) (sb : Addr) (td : Addr) (kd : ClassId) (zd : Int32) (vd : List Value) (sm : Int32) (rs : List Value) (h0 : Heap) (n0 : Nat) (O0 : Old Z n0 h0) (S_CS : Sta Z Z.heap "java/lang/String" "COMPACT_STRINGS" "Z" (.int zCS)) (hCS : ¬ (zCS = (0 : Int32))) (hcT0 : Jvm.Lit.constHeld Z "com/example/relayout/relayout/plan/Transfer" 7) (hcT1 : Jvm.Lit.constHeld Z "com/example/relayout/relayout/plan/Transfer" 22) (hcT2 : Jvm.Lit.constHeld Z "com/example/relayout/relayout/plan/Transfer" 26) (hcT3 : Jvm.Lit.constHeld Z "com/example/relayout/relayout/plan/Transfer" 45) (hcT4 : Jvm.Lit.constHeld Z "com/example/relayout/relayout/plan/Transfer" 47) (hcH : Jvm.Lit.constHeld Z "java/lang/String" 7) (hcW : Jvm.Lit.compactW.before a0 Z = true) (S_FM : Sta Z Z.heap "jdk/internal/util/Preconditions" "SIOOBE_FORMATTER" "Ljava/util/function/BiFunction;" vFM) (rFM : vFM.isRef = true) (Eb : Exa Z h0 sb "java/lang/StringBuilder") (Fbc : Fld Z h0 sb "java/lang/AbstractStringBuilder" "coder" "B" (.int (0 : Int32))) (Fbv : Fld Z h0 sb "java/lang/AbstractStringBuilder" "value" "[B" (.ref td)) (Ad : Arv Z h0 td kd .byte zd vd (.int 0)) (Fbn : Fld Z h0 sb "java/lang/AbstractStringBuilder" "count" "I" (.int sm)) (hs0 : ¬ (sm < (0 : Int32))) (hlt : sm < zd) (hcap : sm.toNatClampNeg ≤ 16) (hcz : sm.toNatClampNeg ≤ zd.toNatClampNeg) (hrs : (List.take (0 : Int32).toNatClampNeg (List.replicate sm.toNatClampNeg (.int 0)) ++ (List.map (fun i => List.getD vd ((0 : Int32).toNatClampNeg + i) (.int 0)) (List.range sm.toNatClampNeg)) ++ List.drop ((0 : Int32).toNatClampNeg + sm.toNatClampNeg) (List.replicate sm.toNatClampNeg (.int 0))) = rs) (hne : ¬ (sm = zd)) :
    MetFree l (⟨"java/lang/StringBuilder", "toString", "()Ljava/lang/String;"⟩ : MethodName) (head1 (Jvm.Cond.code (⟨"java/lang/StringBuilder", "toString", "()Ljava/lang/String;"⟩ : MethodName) jdk_67_method_42_code 1 (some (.object "java/lang/String")) :: ws) ({ frames := 5, cells := 2, slots := 20, locals := 79 } : Room)) (fun aa_ U_ => aa_ = #[(.ref sb)] ∧ Z.Warmed39 U_.vm ∧ U_.heap = h0) (fun _ _ _ _ _ => True) (fun _ U_ oo_ V_ => ∃ vv_ LL_, oo_ = .returned vv_ ∧ Q_sbts Z zCS vFM sb td kd zd vd sm rs h0 n0 vv_ V_.heap LL_ ∧ FrameEnd U_ oo_ V_ LL_ ({ frames := 5, cells := 2, slots := 20, locals := 79 } : Room).cells ({ frames := 5, cells := 2, slots := 20, locals := 79 } : Room).slots) := by
  refine MetFree.of_bodySF (plainFor_of_name pn_java_lang_StringBuilder) hisR ?_
  intro p e s m args below meth c s₁ Bd hml0 hP hK
  obtain ⟨rfl, hZ, hh⟩ := hP
  have hx := Bd.exec
  have hby := Bd.bytes
  have hml : c.maxLocals = 1 := hml0
  have hown : s.vm.findClass "java/lang/StringBuilder" = some m.cls := findClass_of_methodNamed Bd.named
  have hnm := (name_of_methodNamed Bd.named Bd.method).1
  have X0 : Stand p l e ({ frames := 5, cells := 2, slots := 20, locals := 79 } : Room) s m #[(.ref sb)] below meth c s₁ [] 0 0 := Stand.of_body Bd
  have e0 : s₁.heap = h0 := by rw [← hh, Bd.state]; rfl
  have N0 := Fr.nil n0
  have Z0 : n0 ≤ h0.size := O0.1 ▸ O0.2.1
  have hk0 := Nat.zero_le h0.size
  have K0 : Keep h0 h0 [] := Keep.refl _ _
  have R0 : ∀ t, Steps p.tables e below (s₁.setTop (mkF m 0 #[.val (.ref sb)] [])) t → Steps p.tables e below (s₁.setTop (entryFrame m #[(.ref sb)] 1)) t := fun t k => castTop (ef_sbts m sb td kd zd vd sm rs) k
  obtain ⟨T1, h1, X1, e1, E1, A1, D1, -, st1⟩ := newO X0 hx hZ hown (hw _ (List.mem_of_getElem? (i := 125) rfl)) (hw _ (List.mem_of_getElem? (i := 5) rfl)) (hw _ (List.mem_of_getElem? (i := 6) rfl)) e0 (g := (mkF m 0 #[.val (.ref sb)] [])) rfl (hb hby d18_0) (by decide) (by decide)
  obtain ⟨b1, gg1⟩ : ∃ z, z = h0.size := ⟨_, rfl⟩
  rw [← gg1] at A1 D1 st1
  have ne_sb_b1 : sb ≠ b1 := Nat.ne_of_lt (Nat.lt_of_lt_of_le Eb.lt (Nat.le_of_eq gg1.symm))
  have ne_td_b1 : td ≠ b1 := Nat.ne_of_lt (Nat.lt_of_lt_of_le Ad.lt (Nat.le_of_eq gg1.symm))
  have g_b1 : n0 ≤ b1 := Nat.le_trans Z0 (Nat.le_of_eq gg1.symm)
  have sz_b1 : h0.size ≤ b1 := Nat.le_trans K0.1 (Nat.le_of_eq gg1.symm)
  have Z1 : n0 ≤ h1.size := Nat.le_trans Z0 E1.1
  have K1 : Keep h0 h1 [] := K0.ext E1
  have O1 : Old Z n0 h1 := O0.ext E1
  have F1_value : Fld Z h1 b1 "java/lang/String" "value" "[B" .null := D1 (Or.inr (hw _ (List.mem_of_getElem? (i := 20) rfl))) (ty := (.array .byte)) (by decide)
  have F1_coder : Fld Z h1 b1 "java/lang/String" "coder" "B" (.int (0 : Int32)) := D1 (Or.inr (hw _ (List.mem_of_getElem? (i := 21) rfl))) (ty := .byte) (by decide)
  have f3 : Exa Z h1 sb "java/lang/StringBuilder" := (Eb.ext E1)
  have f4 : Fld Z h1 sb "java/lang/AbstractStringBuilder" "coder" "B" (.int (0 : Int32)) := (Fbc.ext E1)
  have f5 : Fld Z h1 sb "java/lang/AbstractStringBuilder" "value" "[B" (.ref td) := (Fbv.ext E1)
  have f6 : Arv Z h1 td kd .byte zd vd (.int 0) := (Ad.ext E1)
  have f7 : Fld Z h1 sb "java/lang/AbstractStringBuilder" "count" "I" (.int sm) := (Fbn.ext E1)
  obtain ⟨_, _, ⟨T2, L2, k2, n2⟩, -, X2, ⟨Lc2, hQ2, cl_2, cy_2, cz_2⟩, st2⟩ := X1.specialBack hx (y := (⟨"java/lang/String", "<init>", "(Ljava/lang/StringBuilder;)V"⟩ : MethodName)) rfl hown (mvT hZ (hw _ (List.mem_of_getElem? (i := 126) rfl))) (mvT hZ (hw _ (List.mem_of_getElem? (i := 127) rfl))) (mvT hZ (hw _ (List.mem_of_getElem? (i := 128) rfl))) (by decide) (backOf (W := 1) (sinB l Z a0 hw [] zCS vFM b1 sb td kd zd vd sm rs (.int (0 : Int32)) .null h1 n0 O1 S_CS hCS hcT0 hcT1 hcT2 hcT3 hcT4 hcH hcW S_FM rFM g_b1  A1 F1_coder F1_value f3 f4 f5 f6 f7 hs0 hlt hcap hcz hrs hne) hZ (hw _ (List.mem_of_getElem? (i := 128) rfl)) (hw _ (List.mem_of_getElem? (i := 6) rfl)) (by decide) (by decide)) (g := (mkF m 5 #[.val (.ref sb)] [(.ref sb), (.ref b1), (.ref b1)])) rfl (by rw [hml]; rfl) (Steps.refl _) (a := b1) (argsL := [(.ref sb)]) (rest := [(.ref b1)]) (lenOf pd_13 rfl) rfl (by show 2 * 0 + _ ≤ _; exact Nat.le_of_eq rfl) (hb hby d18_5) (fun _ _ => ⟨rfl, e1, (by decide : 1 + 1 ≤ _), (by decide : 4 + 16 ≤ _)⟩)
  dsimp only [Pt.U, Pt.locs, Pt.cells, Pt.slots] at X2 cl_2 cy_2 cz_2 st2 hQ2
  rw [cl_2, cy_2, cz_2] at X2
  obtain ⟨b2, kb2, rfl, N2q, K2q, fr2_b, y2_0, y2_1, y2_2, y2_3⟩ := hQ2
  have N2 := Fr.app N0 N2q
  have ne_sb_b2 : sb ≠ b2 := Nat.ne_of_lt (Nat.lt_of_lt_of_le f3.lt fr2_b)
  have ne_td_b2 : td ≠ b2 := Nat.ne_of_lt (Nat.lt_of_lt_of_le f6.lt fr2_b)
  have ne_b1_b2 : b1 ≠ b2 := Nat.ne_of_lt (Nat.lt_of_lt_of_le A1.lt fr2_b)
  have g_b2 : n0 ≤ b2 := Nat.le_trans Z1 fr2_b
  have sz_b2 : h0.size ≤ b2 := Nat.le_trans K1.1 fr2_b
  have Z2 : n0 ≤ T2.heap.size := Nat.le_trans Z1 K2q.1
  have K2 : Keep h0 T2.heap [] := K1.trans K2q (allS (Or.inr sz_b1) all0)
  have O2 : Old Z n0 T2.heap := O1.keep K2q (allS g_b1 all0)
  have R8 : ∀ t, Steps p.tables e below (T2.setTop (mkF m 8 #[.val (.ref sb)] [(.ref b1)])) t → Steps p.tables e below (s₁.setTop (entryFrame m #[(.ref sb)] 1)) t := by
    intro t k
    refine R0 t ?_
    show Steps p.tables e below (s₁.setTop (mkF m 0 #[.val (.ref sb)] [])) t
    refine st1 _ ?_
    show Steps p.tables e below (T1.setTop (mkF m 3 #[.val (.ref sb)] [(.ref b1)])) t
    refine XS.dup X1.here hx rfl (hb hby d18_3) rfl rfl ?_
    show Steps p.tables e below (T1.setTop (mkF m 4 #[.val (.ref sb)] [(.ref b1), (.ref b1)])) t
    refine XS.aloadN X1.here hx rfl (hb hby d18_4) rfl rfl ?_
    show Steps p.tables e below (T1.setTop (mkF m 5 #[.val (.ref sb)] [(.ref sb), (.ref b1), (.ref b1)])) t
    refine st2.trans ?_
    exact k
  obtain ⟨fs, hr, hrun, hended, hW, hsame⟩ := X2.leave (v := some (.ref b1)) (fun h => by rw [Bd.returns] at h; cases h)
  refine ⟨_, _, R8 _ ?_, hrun, hended, _, _, rfl, ?_, ⟨_, rfl⟩, hW, hsame.mono (by decide) (by decide)⟩
  · show Steps p.tables e below (T2.setTop (mkF m 8 #[.val (.ref sb)] [(.ref b1)])) _
    exact retOut X2 hx Bd.returns rfl (Or.inr (Or.inr (Or.inr (Or.inr ⟨rfl, rfl, rfl⟩)))) (hb hby d18_8) hr
  · show Q_sbts Z zCS vFM sb td kd zd vd sm rs h0 n0 _ T2.heap _
    exact ⟨b1, b2, kb2, rfl, N2, K2, sz_b1, sz_b2, y2_0, y2_1, y2_2, y2_3⟩
theorem d34_0 : decode jdk_41_method_11_code 0 = .ok (.iload_n 0, 1) := by decide +kernel
theorem d34_1 : decode jdk_41_method_11_code 1 = .ok (.ifCond .lt 8, 3) := by decide +kernel
theorem d34_4 : decode jdk_41_method_11_code 4 = .ok (.iload_n 0, 1) := by decide +kernel
theorem d34_5 : decode jdk_41_method_11_code 5 = .ok (.iload_n 1, 1) := by decide +kernel
theorem d34_6 : decode jdk_41_method_11_code 6 = .ok (.if_icmp .lt 10, 3) := by decide +kernel
theorem d34_16 : decode jdk_41_method_11_code 16 = .ok (.iload_n 0, 1) := by decide +kernel
theorem d34_17 : decode jdk_41_method_11_code 17 = .ok (.ireturn, 1) := by decide +kernel
theorem pn_jdk_internal_util_Preconditions : plainName "jdk/internal/util/Preconditions" = true := by first | (simp [plainName, overriddenIn]; done) | decide +kernel
theorem ef_pci (m : MethodId) (j : Int32) (nn : Int32) (v2 : Value) (rv2 : v2.isRef = true) : entryFrame m #[(.int j), (.int nn), v2] 3 = mkF m 0 #[.val (.int j), .val (.int nn), .val v2] [] := by
  rcases ref_cases rv2 with rfl | ⟨a, rfl⟩ <;> first | (simp [entryFrame, mkF, argsToLocals, Value.category]; done) | rfl
def Q_pci (Z : State) (zCS : Int32) (vFM : Value) (j : Int32) (nn : Int32) (v2 : Value) (h0 : Heap) (n0 : Nat) (vv_ : Option Value) (hh_ : Heap) (LL_ : List Loc) : Prop := vv_ = some (.int j) ∧ (Fr n0 LL_) ∧ (hh_ = h0)
set_option maxRecDepth 65536 in
set_option maxHeartbeats 40000000 in
theorem pci (l : Launch) (Z : State) (a0 : Array Value) (hw : ∀ d ∈ tables_1, d.before a0 Z = true) (ws : List Jvm.Cond) (zCS : Int32) (vFM : Value) (j : Int32) (nn : Int32) (v2 : Value) (h0 : Heap) (n0 : Nat) (O0 : Old Z n0 h0) (S_CS : Sta Z Z.heap "java/lang/String" "COMPACT_STRINGS" "Z" (.int zCS)) (hCS : ¬ (zCS = (0 : Int32))) (hcT0 : Jvm.Lit.constHeld Z "com/example/relayout/relayout/plan/Transfer" 7) (hcT1 : Jvm.Lit.constHeld Z "com/example/relayout/relayout/plan/Transfer" 22) (hcT2 : Jvm.Lit.constHeld Z "com/example/relayout/relayout/plan/Transfer" 26) (hcT3 : Jvm.Lit.constHeld Z "com/example/relayout/relayout/plan/Transfer" 45) (hcT4 : Jvm.Lit.constHeld Z "com/example/relayout/relayout/plan/Transfer" 47) (hcH : Jvm.Lit.constHeld Z "java/lang/String" 7) (hcW : Jvm.Lit.compactW.before a0 Z = true) (S_FM : Sta Z Z.heap "jdk/internal/util/Preconditions" "SIOOBE_FORMATTER" "Ljava/util/function/BiFunction;" vFM) (rFM : vFM.isRef = true) (hj0 : ¬ (j < (0 : Int32))) (hjn : j < nn) (rv2 : v2.isRef = true) :
    MetFree l (⟨"jdk/internal/util/Preconditions", "checkIndex", "(IILjava/util/function/BiFunction;)I"⟩ : MethodName) (head1 (Jvm.Cond.code (⟨"jdk/internal/util/Preconditions", "checkIndex", "(IILjava/util/function/BiFunction;)I"⟩ : MethodName) jdk_41_method_11_code 3 (some .int) :: ws) ({ frames := 0, cells := 0, slots := 0, locals := 0 } : Room)) (fun aa_ U_ => aa_ = #[(.int j), (.int nn), v2] ∧ Z.Warmed39 U_.vm ∧ U_.heap = h0) (fun _ _ _ _ _ => True) (fun _ U_ oo_ V_ => ∃ vv_ LL_, oo_ = .returned vv_ ∧ Q_pci Z zCS vFM j nn v2 h0 n0 vv_ V_.heap LL_ ∧ FrameEnd U_ oo_ V_ LL_ ({ frames := 0, cells := 0, slots := 0, locals := 0 } : Room).cells ({ frames := 0, cells := 0, slots := 0, locals := 0 } : Room).slots) := by
  refine MetFree.of_bodySF (plainFor_of_name pn_jdk_internal_util_Preconditions) hisR ?_
  intro p e s m args below meth c s₁ Bd hml0 hP hK
  obtain ⟨rfl, hZ, hh⟩ := hP
  have hx := Bd.exec
  have hby := Bd.bytes
  have hml : c.maxLocals = 3 := hml0
  have hown : s.vm.findClass "jdk/internal/util/Preconditions" = some m.cls := findClass_of_methodNamed Bd.named
  have hnm := (name_of_methodNamed Bd.named Bd.method).1
  have X0 : Stand p l e ({ frames := 0, cells := 0, slots := 0, locals := 0 } : Room) s m #[(.int j), (.int nn), v2] below meth c s₁ [] 0 0 := Stand.of_body Bd
  have e0 : s₁.heap = h0 := by rw [← hh, Bd.state]; rfl
  have N0 := Fr.nil n0
  have Z0 : n0 ≤ h0.size := O0.1 ▸ O0.2.1
  have hk0 := Nat.zero_le h0.size
  have K0 : Keep h0 h0 [] := Keep.refl _ _
  have R0 : ∀ t, Steps p.tables e below (s₁.setTop (mkF m 0 #[.val (.int j), .val (.int nn), .val v2] [])) t → Steps p.tables e below (s₁.setTop (entryFrame m #[(.int j), (.int nn), v2] 3)) t := fun t k => castTop (ef_pci m j nn v2 rv2) k
  have R1 : ∀ t, Steps p.tables e below (s₁.setTop (mkF m 17 #[.val (.int j), .val (.int nn), .val v2] [(.int j)])) t → Steps p.tables e below (s₁.setTop (entryFrame m #[(.int j), (.int nn), v2] 3)) t := by
    intro t k
    refine R0 t ?_
    show Steps p.tables e below (s₁.setTop (mkF m 0 #[.val (.int j), .val (.int nn), .val v2] [])) t
    refine XS.iloadN X0.here hx rfl (hb hby d34_0) rfl ?_
    show Steps p.tables e below (s₁.setTop (mkF m 1 #[.val (.int j), .val (.int nn), .val v2] [(.int j)])) t
    refine XS.ifNo X0.here hx rfl (hb hby d34_1) rfl ((if0 _ _).trans (flt (hj0 : ¬ (j < (0 : Int32)))).1) ?_
    show Steps p.tables e below (s₁.setTop (mkF m 4 #[.val (.int j), .val (.int nn), .val v2] [])) t
    refine XS.iloadN X0.here hx rfl (hb hby d34_4) rfl ?_
    show Steps p.tables e below (s₁.setTop (mkF m 5 #[.val (.int j), .val (.int nn), .val v2] [(.int j)])) t
    refine XS.iloadN X0.here hx rfl (hb hby d34_5) rfl ?_
    show Steps p.tables e below (s₁.setTop (mkF m 6 #[.val (.int j), .val (.int nn), .val v2] [(.int nn), (.int j)])) t
    refine XS.icmpYes X0.here hx rfl (pc0 := 6) (pc' := 16) rfl (hb hby d34_6) rfl (tlt (hjn : j < nn)).1 (by decide) (by decide) ?_
    show Steps p.tables e below (s₁.setTop (mkF m 16 #[.val (.int j), .val (.int nn), .val v2] [])) t
    refine XS.iloadN X0.here hx rfl (hb hby d34_16) rfl ?_
    exact k
  obtain ⟨fs, hr, hrun, hended, hW, hsame⟩ := X0.leave (v := some (.int j)) (fun h => by rw [Bd.returns] at h; cases h)
  refine ⟨_, _, R1 _ ?_, hrun, hended, _, _, rfl, ?_, ⟨_, rfl⟩, hW, hsame.mono (by decide) (by decide)⟩
  · show Steps p.tables e below (s₁.setTop (mkF m 17 #[.val (.int j), .val (.int nn), .val v2] [(.int j)])) _
    exact retOut X0 hx Bd.returns rfl (Or.inl ⟨rfl, Or.inl rfl, _, rfl⟩) (hb hby d34_17) hr
  · show Q_pci Z zCS vFM j nn v2 h0 n0 _ s₁.heap _
    rw [e0]
    exact ⟨rfl, N0, rfl⟩
theorem d33_0 : decode jdk_42_method_155_code 0 = .ok (.iload_n 0, 1) := by decide +kernel
theorem d33_1 : decode jdk_42_method_155_code 1 = .ok (.iload_n 1, 1) := by decide +kernel
theorem d33_2 : decode jdk_42_method_155_code 2 = .ok (.getstatic 1053, 3) := by decide +kernel
theorem pd_14 : parseMethodDescriptor "(IILjava/util/function/BiFunction;)I" = some ⟨[.int, .int, (.object "java/util/function/BiFunction")], some .int⟩ := by decide +kernel
theorem d33_5 : decode jdk_42_method_155_code 5 = .ok (.invokestatic 1059, 3) := by decide +kernel
theorem d33_8 : decode jdk_42_method_155_code 8 = .ok (.pop, 1) := by decide +kernel
theorem d33_9 : decode jdk_42_method_155_code 9 = .ok (.return_, 1) := by decide +kernel
theorem ef_sci (m : MethodId) (j : Int32) (nn : Int32) : entryFrame m #[(.int j), (.int nn)] 2 = mkF m 0 #[.val (.int j), .val (.int nn)] [] := by first | (simp [entryFrame, mkF, argsToLocals, Value.category]; done) | rfl
def Q_sci (Z : State) (zCS : Int32) (vFM : Value) (j : Int32) (nn : Int32) (h0 : Heap) (n0 : Nat) (vv_ : Option Value) (hh_ : Heap) (LL_ : List Loc) : Prop := vv_ = none ∧ (Fr n0 LL_) ∧ (hh_ = h0)
set_option maxRecDepth 65536 in
set_option maxHeartbeats 40000000 in
theorem sci (l : Launch) (Z : State) (a0 : Array Value) (hw : ∀ d ∈ tables_1, d.before a0 Z = true) (ws : List Jvm.Cond) (zCS : Int32) (vFM : Value) (j : Int32) (nn : Int32) (h0 : Heap) (n0 : Nat) (O0 : Old Z n0 h0) (S_CS : Sta Z Z.heap "java/lang/String" "COMPACT_STRINGS" "Z" (.int zCS)) (hCS : ¬ (zCS = (0 : Int32))) (hcT0 : Jvm.Lit.constHeld Z "com/example/relayout/relayout/plan/Transfer" 7) (hcT1 : Jvm.Lit.constHeld Z "com/example/relayout/relayout/plan/Transfer" 22) (hcT2 : Jvm.Lit.constHeld Z "com/example/relayout/relayout/plan/Transfer" 26) (hcT3 : Jvm.Lit.constHeld Z "com/example/relayout/relayout/plan/Transfer" 45) (hcT4 : Jvm.Lit.constHeld Z "com/example/relayout/relayout/plan/Transfer" 47) (hcH : Jvm.Lit.constHeld Z "java/lang/String" 7) (hcW : Jvm.Lit.compactW.before a0 Z = true) (S_FM : Sta Z Z.heap "jdk/internal/util/Preconditions" "SIOOBE_FORMATTER" "Ljava/util/function/BiFunction;" vFM) (rFM : vFM.isRef = true) (hj0 : ¬ (j < (0 : Int32))) (hjn : j < nn) :
    MetFree l (⟨"java/lang/String", "checkIndex", "(II)V"⟩ : MethodName) (head1 (Jvm.Cond.code (⟨"java/lang/String", "checkIndex", "(II)V"⟩ : MethodName) jdk_42_method_155_code 2 none :: ws) ({ frames := 1, cells := 0, slots := 0, locals := 14 } : Room)) (fun aa_ U_ => aa_ = #[(.int j), (.int nn)] ∧ Z.Warmed39 U_.vm ∧ U_.heap = h0) (fun _ _ _ _ _ => True) (fun _ U_ oo_ V_ => ∃ vv_ LL_, oo_ = .returned vv_ ∧ Q_sci Z zCS vFM j nn h0 n0 vv_ V_.heap LL_ ∧ FrameEnd U_ oo_ V_ LL_ ({ frames := 1, cells := 0, slots := 0, locals := 14 } : Room).cells ({ frames := 1, cells := 0, slots := 0, locals := 14 } : Room).slots) := by
  refine MetFree.of_bodySF (plainFor_of_name pn_java_lang_String) hisR ?_
  intro p e s m args below meth c s₁ Bd hml0 hP hK
  obtain ⟨rfl, hZ, hh⟩ := hP
  have hx := Bd.exec
  have hby := Bd.bytes
  have hml : c.maxLocals = 2 := hml0
  have hown : s.vm.findClass "java/lang/String" = some m.cls := findClass_of_methodNamed Bd.named
  have hnm := (name_of_methodNamed Bd.named Bd.method).1
  have X0 : Stand p l e ({ frames := 1, cells := 0, slots := 0, locals := 14 } : Room) s m #[(.int j), (.int nn)] below meth c s₁ [] 0 0 := Stand.of_body Bd
  have e0 : s₁.heap = h0 := by rw [← hh, Bd.state]; rfl
  have N0 := Fr.nil n0
  have Z0 : n0 ≤ h0.size := O0.1 ▸ O0.2.1
  have hk0 := Nat.zero_le h0.size
  have K0 : Keep h0 h0 [] := Keep.refl _ _
  have R0 : ∀ t, Steps p.tables e below (s₁.setTop (mkF m 0 #[.val (.int j), .val (.int nn)] [])) t → Steps p.tables e below (s₁.setTop (entryFrame m #[(.int j), (.int nn)] 2)) t := fun t k => castTop (ef_sci m j nn) k
  obtain ⟨T1, X1, e1, st1⟩ := getS2 X0 hx hZ hown (host := "") (Or.inl (hw _ (List.mem_of_getElem? (i := 186) rfl))) Via.refl e0 (S_FM.ext O0.2) (g := (mkF m 2 #[.val (.int j), .val (.int nn)] [(.int nn), (.int j)])) rfl (hb hby d33_2)
  obtain ⟨_, _, ⟨T2, L2, k2, n2⟩, -, X2, ⟨Lc2, hQ2, cl_2, cy_2, cz_2⟩, st2⟩ := Jvm.LawKit.callS X1 hx (y := (⟨"jdk/internal/util/Preconditions", "checkIndex", "(IILjava/util/function/BiFunction;)I"⟩ : MethodName)) hown (mvT hZ (hw _ (List.mem_of_getElem? (i := 188) rfl))) (mvT hZ (hw _ (List.mem_of_getElem? (i := 189) rfl))) (mvT hZ (hw _ (List.mem_of_getElem? (i := 187) rfl))) (mvT hZ (hw _ (List.mem_of_getElem? (i := 190) rfl))) (by decide) (backOf (W := 0) (pci l Z a0 hw [] zCS vFM j nn vFM h0 n0 O0 S_CS hCS hcT0 hcT1 hcT2 hcT3 hcT4 hcH hcW S_FM rFM   hj0 hjn rFM) hZ (hw _ (List.mem_of_getElem? (i := 190) rfl)) (hw _ (List.mem_of_getElem? (i := 187) rfl)) (by decide) (by decide)) (g := (mkF m 5 #[.val (.int j), .val (.int nn)] [vFM, (.int nn), (.int j)])) rfl (by rw [hml]; rfl) (argsL := [(.int j), (.int nn), vFM]) (rest := []) (lenOf pd_14 rfl) rfl (by show 2 * 0 + _ ≤ _; exact Nat.le_of_eq rfl) (hb hby d33_5) (fun _ _ => ⟨rfl, e1, (by decide : 0 + 0 ≤ _), (by decide : 0 + 0 ≤ _)⟩)
  dsimp only [Pt.U, Pt.locs, Pt.cells, Pt.slots] at X2 cl_2 cy_2 cz_2 st2 hQ2
  rw [cl_2, cy_2, cz_2] at X2
  obtain ⟨rfl, N2q, e2⟩ := hQ2
  have N2 := Fr.app N0 N2q
  have R3 : ∀ t, Steps p.tables e below (T2.setTop (mkF m 9 #[.val (.int j), .val (.int nn)] [])) t → Steps p.tables e below (s₁.setTop (entryFrame m #[(.int j), (.int nn)] 2)) t := by
    intro t k
    refine R0 t ?_
    show Steps p.tables e below (s₁.setTop (mkF m 0 #[.val (.int j), .val (.int nn)] [])) t
    refine XS.iloadN X0.here hx rfl (hb hby d33_0) rfl ?_
    show Steps p.tables e below (s₁.setTop (mkF m 1 #[.val (.int j), .val (.int nn)] [(.int j)])) t
    refine XS.iloadN X0.here hx rfl (hb hby d33_1) rfl ?_
    show Steps p.tables e below (s₁.setTop (mkF m 2 #[.val (.int j), .val (.int nn)] [(.int nn), (.int j)])) t
    refine st1 _ ?_
    show Steps p.tables e below (T1.setTop (mkF m 5 #[.val (.int j), .val (.int nn)] [vFM, (.int nn), (.int j)])) t
    refine st2 _ ?_
    show Steps p.tables e below (T2.setTop (mkF m 8 #[.val (.int j), .val (.int nn)] [(.int j)])) t
    refine XS.pop X2.here hx rfl (hb hby d33_8) rfl rfl ?_
    exact k
  obtain ⟨fs, hr, hrun, hended, hW, hsame⟩ := X2.leave (v := none) (fun _ => rfl)
  refine ⟨_, _, R3 _ ?_, hrun, hended, _, _, rfl, ?_, ⟨_, rfl⟩, hW, hsame.mono (by decide) (by decide)⟩
  · show Steps p.tables e below (T2.setTop (mkF m 9 #[.val (.int j), .val (.int nn)] [])) _
    exact X2.returnOut hx Bd.returns (hb hby d33_9) hr
  · show Q_sci Z zCS vFM j nn h0 n0 _ T2.heap _
    rw [e2]
    exact ⟨rfl, N2, rfl⟩
theorem d32_0 : decode jdk_43_method_2_code 0 = .ok (.iload_n 1, 1) := by decide +kernel
theorem d32_1 : decode jdk_43_method_2_code 1 = .ok (.aload_n 0, 1) := by decide +kernel
theorem d32_2 : decode jdk_43_method_2_code 2 = .ok (.arraylength, 1) := by decide +kernel
theorem d32_3 : decode jdk_43_method_2_code 3 = .ok (.invokestatic 9, 3) := by decide +kernel
theorem d32_6 : decode jdk_43_method_2_code 6 = .ok (.aload_n 0, 1) := by decide +kernel
theorem d32_7 : decode jdk_43_method_2_code 7 = .ok (.iload_n 1, 1) := by decide +kernel
theorem d32_8 : decode jdk_43_method_2_code 8 = .ok (.baload, 1) := by decide +kernel
theorem d32_9 : decode jdk_43_method_2_code 9 = .ok (.sipush 255, 3) := by decide +kernel
theorem d32_12 : decode jdk_43_method_2_code 12 = .ok (.iand, 1) := by decide +kernel
theorem d32_13 : decode jdk_43_method_2_code 13 = .ok (.i2c, 1) := by decide +kernel
theorem d32_14 : decode jdk_43_method_2_code 14 = .ok (.ireturn, 1) := by decide +kernel
theorem pn_java_lang_StringLatin1 : plainName "java/lang/StringLatin1" = true := by first | (simp [plainName, overriddenIn]; done) | decide +kernel
theorem ef_lch (m : MethodId) (tv : Addr) (kv : ClassId) (nn : Int32) (vs : List Value) (j : Int32) (v : Int32) : entryFrame m #[(.ref tv), (.int j)] 2 = mkF m 0 #[.val (.ref tv), .val (.int j)] [] := by first | (simp [entryFrame, mkF, argsToLocals, Value.category]; done) | rfl
def Q_lch (Z : State) (zCS : Int32) (vFM : Value) (tv : Addr) (kv : ClassId) (nn : Int32) (vs : List Value) (j : Int32) (v : Int32) (h0 : Heap) (n0 : Nat) (vv_ : Option Value) (hh_ : Heap) (LL_ : List Loc) : Prop := vv_ = some (.int (nar .char ((v &&& (255 : Int32)).toUInt32.toUInt16.toUInt32.toInt32))) ∧ (Fr n0 LL_) ∧ (hh_ = h0)
set_option maxRecDepth 65536 in
set_option maxHeartbeats 40000000 in
theorem lch (l : Launch) (Z : State) (a0 : Array Value) (hw : ∀ d ∈ tables_1, d.before a0 Z = true) (ws : List Jvm.Cond) (zCS : Int32) (vFM : Value) (tv : Addr) (kv : ClassId) (nn : Int32) (vs : List Value) (j : Int32) (v : Int32) (h0 : Heap) (n0 : Nat) (O0 : Old Z n0 h0) (S_CS : Sta Z Z.heap "java/lang/String" "COMPACT_STRINGS" "Z" (.int zCS)) (hCS : ¬ (zCS = (0 : Int32))) (hcT0 : Jvm.Lit.constHeld Z "com/example/relayout/relayout/plan/Transfer" 7) (hcT1 : Jvm.Lit.constHeld Z "com/example/relayout/relayout/plan/Transfer" 22) (hcT2 : Jvm.Lit.constHeld Z "com/example/relayout/relayout/plan/Transfer" 26) (hcT3 : Jvm.Lit.constHeld Z "com/example/relayout/relayout/plan/Transfer" 45) (hcT4 : Jvm.Lit.constHeld Z "com/example/relayout/relayout/plan/Transfer" 47) (hcH : Jvm.Lit.constHeld Z "java/lang/String" 7) (hcW : Jvm.Lit.compactW.before a0 Z = true) (S_FM : Sta Z Z.heap "jdk/internal/util/Preconditions" "SIOOBE_FORMATTER" "Ljava/util/function/BiFunction;" vFM) (rFM : vFM.isRef = true) (Av : Arv Z h0 tv kv .byte nn vs (.int 0)) (hj0 : ¬ (j < (0 : Int32))) (hjn : j < nn) (hget : vs.getD j.toNatClampNeg (.int 0) = .int v) :
    MetFree l (⟨"java/lang/StringLatin1", "charAt", "([BI)C"⟩ : MethodName) (head1 (Jvm.Cond.code (⟨"java/lang/StringLatin1", "charAt", "([BI)C"⟩ : MethodName) jdk_43_method_2_code 2 (some .char) :: ws) ({ frames := 2, cells := 0, slots := 0, locals := 27 } : Room)) (fun aa_ U_ => aa_ = #[(.ref tv), (.int j)] ∧ Z.Warmed39 U_.vm ∧ U_.heap = h0) (fun _ _ _ _ _ => True) (fun _ U_ oo_ V_ => ∃ vv_ LL_, oo_ = .returned vv_ ∧ Q_lch Z zCS vFM tv kv nn vs j v h0 n0 vv_ V_.heap LL_ ∧ FrameEnd U_ oo_ V_ LL_ ({ frames := 2, cells := 0, slots := 0, locals := 27 } : Room).cells ({ frames := 2, cells := 0, slots := 0, locals := 27 } : Room).slots) := by
  refine MetFree.of_bodySF (plainFor_of_name pn_java_lang_StringLatin1) hisR ?_
  intro p e s m args below meth c s₁ Bd hml0 hP hK
  obtain ⟨rfl, hZ, hh⟩ := hP
  have hx := Bd.exec
  have hby := Bd.bytes
  have hml : c.maxLocals = 2 := hml0
  have hown : s.vm.findClass "java/lang/StringLatin1" = some m.cls := findClass_of_methodNamed Bd.named
  have hnm := (name_of_methodNamed Bd.named Bd.method).1
  have X0 : Stand p l e ({ frames := 2, cells := 0, slots := 0, locals := 27 } : Room) s m #[(.ref tv), (.int j)] below meth c s₁ [] 0 0 := Stand.of_body Bd
  have e0 : s₁.heap = h0 := by rw [← hh, Bd.state]; rfl
  have N0 := Fr.nil n0
  have Z0 : n0 ≤ h0.size := O0.1 ▸ O0.2.1
  have hk0 := Nat.zero_le h0.size
  have K0 : Keep h0 h0 [] := Keep.refl _ _
  have R0 : ∀ t, Steps p.tables e below (s₁.setTop (mkF m 0 #[.val (.ref tv), .val (.int j)] [])) t → Steps p.tables e below (s₁.setTop (entryFrame m #[(.ref tv), (.int j)] 2)) t := fun t k => castTop (ef_lch m tv kv nn vs j v) k
  obtain ⟨cl1, Ar1, -, S1, M1, -, -⟩ := id Av
  obtain ⟨_, _, ⟨T2, L2, k2, n2⟩, -, X2, ⟨Lc2, hQ2, cl_2, cy_2, cz_2⟩, st2⟩ := Jvm.LawKit.callS X0 hx (y := (⟨"java/lang/String", "checkIndex", "(II)V"⟩ : MethodName)) hown (mvT hZ (hw _ (List.mem_of_getElem? (i := 183) rfl))) (mvT hZ (hw _ (List.mem_of_getElem? (i := 184) rfl))) (mvT hZ (hw _ (List.mem_of_getElem? (i := 6) rfl))) (mvT hZ (hw _ (List.mem_of_getElem? (i := 185) rfl))) (by decide) (backOf (W := 0) (sci l Z a0 hw [] zCS vFM j nn h0 n0 O0 S_CS hCS hcT0 hcT1 hcT2 hcT3 hcT4 hcH hcW S_FM rFM   hj0 hjn) hZ (hw _ (List.mem_of_getElem? (i := 185) rfl)) (hw _ (List.mem_of_getElem? (i := 6) rfl)) (by decide) (by decide)) (g := (mkF m 3 #[.val (.ref tv), .val (.int j)] [(.int nn), (.int j)])) rfl (by rw [hml]; rfl) (argsL := [(.int j), (.int nn)]) (rest := []) (lenOf pd_7 rfl) rfl (by show 2 * 0 + _ ≤ _; exact Nat.le_of_eq rfl) (hb hby d32_3) (fun _ _ => ⟨rfl, e0, (by decide : 0 + 0 ≤ _), (by decide : 0 + 0 ≤ _)⟩)
  dsimp only [Pt.U, Pt.locs, Pt.cells, Pt.slots] at X2 cl_2 cy_2 cz_2 st2 hQ2
  rw [cl_2, cy_2, cz_2] at X2
  obtain ⟨rfl, N2q, e2⟩ := hQ2
  have N2 := Fr.app N0 N2q
  obtain ⟨cl3, Ar3, q3, S3, M3, H3, G3⟩ := id Av
  have in3 : ¬ (j < 0 ∨ cl3.slots.size ≤ (j).toNatClampNeg) := inb_of S3 ⟨hj0, hjn⟩
  have at3 : cl3.slots[(j).toNatClampNeg]? = some (.int v) := H3.at in3 hget
  have R4 : ∀ t, Steps p.tables e below (T2.setTop (mkF m 14 #[.val (.ref tv), .val (.int j)] [(.int ((v &&& (255 : Int32)).toUInt32.toUInt16.toUInt32.toInt32))])) t → Steps p.tables e below (s₁.setTop (entryFrame m #[(.ref tv), (.int j)] 2)) t := by
    intro t k
    refine R0 t ?_
    show Steps p.tables e below (s₁.setTop (mkF m 0 #[.val (.ref tv), .val (.int j)] [])) t
    refine XS.iloadN X0.here hx rfl (hb hby d32_0) rfl ?_
    show Steps p.tables e below (s₁.setTop (mkF m 1 #[.val (.ref tv), .val (.int j)] [(.int j)])) t
    refine XS.aloadN X0.here hx rfl (hb hby d32_1) rfl rfl ?_
    show Steps p.tables e below (s₁.setTop (mkF m 2 #[.val (.ref tv), .val (.int j)] [(.ref tv), (.int j)])) t
    refine X0.arraylength hx (by rw [e0]; exact Ar1.1) (State.isArrayOf_alike hZ.alike Ar1.2.1) (g := (mkF m 2 #[.val (.ref tv), .val (.int j)] [(.ref tv), (.int j)])) rfl rfl (hb hby d32_2) _ ?_
    rw [len_of S1 M1]
    show Steps p.tables e below (s₁.setTop (mkF m 3 #[.val (.ref tv), .val (.int j)] [(.int nn), (.int j)])) t
    refine st2 _ ?_
    show Steps p.tables e below (T2.setTop (mkF m 6 #[.val (.ref tv), .val (.int j)] [])) t
    refine XS.aloadN X2.here hx rfl (hb hby d32_6) rfl rfl ?_
    show Steps p.tables e below (T2.setTop (mkF m 7 #[.val (.ref tv), .val (.int j)] [(.ref tv)])) t
    refine XS.iloadN X2.here hx rfl (hb hby d32_7) rfl ?_
    show Steps p.tables e below (T2.setTop (mkF m 8 #[.val (.ref tv), .val (.int j)] [(.int j), (.ref tv)])) t
    refine X2.baloadBytes hx (j := j) (v := (.int v)) (by rw [e2]; exact Ar3.1) (State.isArrayOf_alike hZ.alike Ar3.2.1) Ar3.2.2 in3 at3 (g := (mkF m 8 #[.val (.ref tv), .val (.int j)] [(.int j), (.ref tv)])) rfl rfl (hb hby d32_8) _ ?_
    show Steps p.tables e below (T2.setTop (mkF m 9 #[.val (.ref tv), .val (.int j)] [(.int v)])) t
    refine XS.sipush X2.here hx rfl (hb hby d32_9) ?_
    show Steps p.tables e below (T2.setTop (mkF m 12 #[.val (.ref tv), .val (.int j)] [(.int (255 : Int32)), (.int v)])) t
    refine XS.iand X2.here hx rfl (hb hby d32_12) rfl ?_
    show Steps p.tables e below (T2.setTop (mkF m 13 #[.val (.ref tv), .val (.int j)] [(.int (v &&& (255 : Int32)))])) t
    refine XS.i2c X2.here hx rfl (hb hby d32_13) rfl ?_
    exact k
  obtain ⟨fs, hr, hrun, hended, hW, hsame⟩ := X2.leave (v := some (.int (nar .char ((v &&& (255 : Int32)).toUInt32.toUInt16.toUInt32.toInt32)))) (fun h => by rw [Bd.returns] at h; cases h)
  refine ⟨_, _, R4 _ ?_, hrun, hended, _, _, rfl, ?_, ⟨_, rfl⟩, hW, hsame.mono (by decide) (by decide)⟩
  · show Steps p.tables e below (T2.setTop (mkF m 14 #[.val (.ref tv), .val (.int j)] [(.int ((v &&& (255 : Int32)).toUInt32.toUInt16.toUInt32.toInt32))])) _
    exact retN X2 hx (t := .char) Bd.returns (by simp) (hb hby d32_14) hr
  · show Q_lch Z zCS vFM tv kv nn vs j v h0 n0 _ T2.heap _
    rw [e2]
    exact ⟨rfl, N2, rfl⟩
theorem d31_0 : decode jdk_42_method_154_code 0 = .ok (.getstatic 38, 3) := by decide +kernel
theorem d31_3 : decode jdk_42_method_154_code 3 = .ok (.ifCond .eq 14, 3) := by decide +kernel
theorem d31_6 : decode jdk_42_method_154_code 6 = .ok (.aload_n 0, 1) := by decide +kernel
theorem d31_7 : decode jdk_42_method_154_code 7 = .ok (.getfield 15, 3) := by decide +kernel
theorem d31_10 : decode jdk_42_method_154_code 10 = .ok (.ifCond .ne 7, 3) := by decide +kernel
theorem d31_13 : decode jdk_42_method_154_code 13 = .ok (.iconst 1, 1) := by decide +kernel
theorem d31_14 : decode jdk_42_method_154_code 14 = .ok (.goto 4, 3) := by decide +kernel
theorem d31_18 : decode jdk_42_method_154_code 18 = .ok (.ireturn, 1) := by decide +kernel
theorem ef_isLat (m : MethodId) (a : Addr) : entryFrame m #[(.ref a)] 1 = mkF m 0 #[.val (.ref a)] [] := by first | (simp [entryFrame, mkF, argsToLocals, Value.category]; done) | rfl
def Q_isLat (Z : State) (zCS : Int32) (vFM : Value) (a : Addr) (h0 : Heap) (n0 : Nat) (vv_ : Option Value) (hh_ : Heap) (LL_ : List Loc) : Prop := vv_ = some (.int (1 : Int32)) ∧ (Fr n0 LL_) ∧ (hh_ = h0)
set_option maxRecDepth 65536 in
set_option maxHeartbeats 40000000 in
theorem isLat (l : Launch) (Z : State) (a0 : Array Value) (hw : ∀ d ∈ tables_1, d.before a0 Z = true) (ws : List Jvm.Cond) (zCS : Int32) (vFM : Value) (a : Addr) (h0 : Heap) (n0 : Nat) (O0 : Old Z n0 h0) (S_CS : Sta Z Z.heap "java/lang/String" "COMPACT_STRINGS" "Z" (.int zCS)) (hCS : ¬ (zCS = (0 : Int32))) (hcT0 : Jvm.Lit.constHeld Z "com/example/relayout/relayout/plan/Transfer" 7) (hcT1 : Jvm.Lit.constHeld Z "com/example/relayout/relayout/plan/Transfer" 22) (hcT2 : Jvm.Lit.constHeld Z "com/example/relayout/relayout/plan/Transfer" 26) (hcT3 : Jvm.Lit.constHeld Z "com/example/relayout/relayout/plan/Transfer" 45) (hcT4 : Jvm.Lit.constHeld Z "com/example/relayout/relayout/plan/Transfer" 47) (hcH : Jvm.Lit.constHeld Z "java/lang/String" 7) (hcW : Jvm.Lit.compactW.before a0 Z = true) (S_FM : Sta Z Z.heap "jdk/internal/util/Preconditions" "SIOOBE_FORMATTER" "Ljava/util/function/BiFunction;" vFM) (rFM : vFM.isRef = true) (Ea : Exa Z h0 a "java/lang/String") (Fc : Fld Z h0 a "java/lang/String" "coder" "B" (.int (0 : Int32))) :
    MetFree l (⟨"java/lang/String", "isLatin1", "()Z"⟩ : MethodName) (head1 (Jvm.Cond.code (⟨"java/lang/String", "isLatin1", "()Z"⟩ : MethodName) jdk_42_method_154_code 1 (some .boolean) :: ws) ({ frames := 0, cells := 0, slots := 0, locals := 0 } : Room)) (fun aa_ U_ => aa_ = #[(.ref a)] ∧ Z.Warmed39 U_.vm ∧ U_.heap = h0) (fun _ _ _ _ _ => True) (fun _ U_ oo_ V_ => ∃ vv_ LL_, oo_ = .returned vv_ ∧ Q_isLat Z zCS vFM a h0 n0 vv_ V_.heap LL_ ∧ FrameEnd U_ oo_ V_ LL_ ({ frames := 0, cells := 0, slots := 0, locals := 0 } : Room).cells ({ frames := 0, cells := 0, slots := 0, locals := 0 } : Room).slots) := by
  refine MetFree.of_bodySF (plainFor_of_name pn_java_lang_String) hisR ?_
  intro p e s m args below meth c s₁ Bd hml0 hP hK
  obtain ⟨rfl, hZ, hh⟩ := hP
  have hx := Bd.exec
  have hby := Bd.bytes
  have hml : c.maxLocals = 1 := hml0
  have hown : s.vm.findClass "java/lang/String" = some m.cls := findClass_of_methodNamed Bd.named
  have hnm := (name_of_methodNamed Bd.named Bd.method).1
  have X0 : Stand p l e ({ frames := 0, cells := 0, slots := 0, locals := 0 } : Room) s m #[(.ref a)] below meth c s₁ [] 0 0 := Stand.of_body Bd
  have e0 : s₁.heap = h0 := by rw [← hh, Bd.state]; rfl
  have N0 := Fr.nil n0
  have Z0 : n0 ≤ h0.size := O0.1 ▸ O0.2.1
  have hk0 := Nat.zero_le h0.size
  have K0 : Keep h0 h0 [] := Keep.refl _ _
  have R0 : ∀ t, Steps p.tables e below (s₁.setTop (mkF m 0 #[.val (.ref a)] [])) t → Steps p.tables e below (s₁.setTop (entryFrame m #[(.ref a)] 1)) t := fun t k => castTop (ef_isLat m a) k
  obtain ⟨T1, X1, e1, st1⟩ := getS2 X0 hx hZ hown (host := "") (Or.inl (hw _ (List.mem_of_getElem? (i := 90) rfl))) Via.refl e0 (S_CS.ext O0.2) (g := (mkF m 0 #[.val (.ref a)] [])) rfl (hb hby d31_0)
  obtain ⟨T2, X2, e2, st2⟩ := getF X1 hx hZ hown (host := "") (Or.inl (hw _ (List.mem_of_getElem? (i := 25) rfl))) Via.refl e1 Fc (g := (mkF m 7 #[.val (.ref a)] [(.ref a)])) rfl rfl (hb hby d31_7)
  have R3 : ∀ t, Steps p.tables e below (T2.setTop (mkF m 18 #[.val (.ref a)] [(.int (1 : Int32))])) t → Steps p.tables e below (s₁.setTop (entryFrame m #[(.ref a)] 1)) t := by
    intro t k
    refine R0 t ?_
    show Steps p.tables e below (s₁.setTop (mkF m 0 #[.val (.ref a)] [])) t
    refine st1 _ ?_
    show Steps p.tables e below (T1.setTop (mkF m 3 #[.val (.ref a)] [(.int zCS)])) t
    refine XS.ifNo X1.here hx rfl (hb hby d31_3) rfl ((if0 _ _).trans (feq (hCS : ¬ (zCS = (0 : Int32)))).1) ?_
    show Steps p.tables e below (T1.setTop (mkF m 6 #[.val (.ref a)] [])) t
    refine XS.aloadN X1.here hx rfl (hb hby d31_6) rfl rfl ?_
    show Steps p.tables e below (T1.setTop (mkF m 7 #[.val (.ref a)] [(.ref a)])) t
    refine st2 _ ?_
    show Steps p.tables e below (T2.setTop (mkF m 10 #[.val (.ref a)] [(.int (0 : Int32))])) t
    refine XS.ifNo X2.here hx rfl (hb hby d31_10) rfl ((if0 _ _).trans (teq ((by decide) : (0 : Int32) = (0 : Int32))).2) ?_
    show Steps p.tables e below (T2.setTop (mkF m 13 #[.val (.ref a)] [])) t
    refine XS.iconst X2.here hx rfl (hb hby d31_13) ?_
    show Steps p.tables e below (T2.setTop (mkF m 14 #[.val (.ref a)] [(.int (1 : Int32))])) t
    refine XS.goto X2.here hx rfl (pc0 := 14) (pc' := 18) rfl (hb hby d31_14) (by decide) (by decide) ?_
    exact k
  obtain ⟨fs, hr, hrun, hended, hW, hsame⟩ := X2.leave (v := some (.int (1 : Int32))) (fun h => by rw [Bd.returns] at h; cases h)
  refine ⟨_, _, R3 _ ?_, hrun, hended, _, _, rfl, ?_, ⟨_, rfl⟩, hW, hsame.mono (by decide) (by decide)⟩
  · show Steps p.tables e below (T2.setTop (mkF m 18 #[.val (.ref a)] [(.int (1 : Int32))])) _
    exact retN X2 hx (t := .boolean) Bd.returns (by simp) (hb hby d31_18) hr
  · show Q_isLat Z zCS vFM a h0 n0 _ T2.heap _
    rw [e2]
    exact ⟨rfl, N0, rfl⟩
theorem d30_0 : decode jdk_42_method_56_code 0 = .ok (.aload_n 0, 1) := by decide +kernel
theorem d30_1 : decode jdk_42_method_56_code 1 = .ok (.invokevirtual 492, 3) := by decide +kernel
theorem d30_4 : decode jdk_42_method_56_code 4 = .ok (.ifCond .eq 12, 3) := by decide +kernel
theorem d30_7 : decode jdk_42_method_56_code 7 = .ok (.aload_n 0, 1) := by decide +kernel
theorem d30_8 : decode jdk_42_method_56_code 8 = .ok (.getfield 9, 3) := by decide +kernel
theorem d30_11 : decode jdk_42_method_56_code 11 = .ok (.iload_n 1, 1) := by decide +kernel
theorem pd_15 : parseMethodDescriptor "([BI)C" = some ⟨[(.array .byte), .int], some .char⟩ := by decide +kernel
theorem d30_12 : decode jdk_42_method_56_code 12 = .ok (.invokestatic 495, 3) := by decide +kernel
theorem d30_15 : decode jdk_42_method_56_code 15 = .ok (.ireturn, 1) := by decide +kernel
theorem ef_sch (m : MethodId) (a : Addr) (tv : Addr) (kv : ClassId) (nn : Int32) (vs : List Value) (j : Int32) (v : Int32) : entryFrame m #[(.ref a), (.int j)] 2 = mkF m 0 #[.val (.ref a), .val (.int j)] [] := by first | (simp [entryFrame, mkF, argsToLocals, Value.category]; done) | rfl
def Q_sch (Z : State) (zCS : Int32) (vFM : Value) (a : Addr) (tv : Addr) (kv : ClassId) (nn : Int32) (vs : List Value) (j : Int32) (v : Int32) (h0 : Heap) (n0 : Nat) (vv_ : Option Value) (hh_ : Heap) (LL_ : List Loc) : Prop := vv_ = some (.int (nar .char (nar .char ((v &&& (255 : Int32)).toUInt32.toUInt16.toUInt32.toInt32)))) ∧ (Fr n0 LL_) ∧ (hh_ = h0)
set_option maxRecDepth 65536 in
set_option maxHeartbeats 40000000 in
theorem sch (l : Launch) (Z : State) (a0 : Array Value) (hw : ∀ d ∈ tables_1, d.before a0 Z = true) (ws : List Jvm.Cond) (zCS : Int32) (vFM : Value) (a : Addr) (tv : Addr) (kv : ClassId) (nn : Int32) (vs : List Value) (j : Int32) (v : Int32) (h0 : Heap) (n0 : Nat) (O0 : Old Z n0 h0) (S_CS : Sta Z Z.heap "java/lang/String" "COMPACT_STRINGS" "Z" (.int zCS)) (hCS : ¬ (zCS = (0 : Int32))) (hcT0 : Jvm.Lit.constHeld Z "com/example/relayout/relayout/plan/Transfer" 7) (hcT1 : Jvm.Lit.constHeld Z "com/example/relayout/relayout/plan/Transfer" 22) (hcT2 : Jvm.Lit.constHeld Z "com/example/relayout/relayout/plan/Transfer" 26) (hcT3 : Jvm.Lit.constHeld Z "com/example/relayout/relayout/plan/Transfer" 45) (hcT4 : Jvm.Lit.constHeld Z "com/example/relayout/relayout/plan/Transfer" 47) (hcH : Jvm.Lit.constHeld Z "java/lang/String" 7) (hcW : Jvm.Lit.compactW.before a0 Z = true) (S_FM : Sta Z Z.heap "jdk/internal/util/Preconditions" "SIOOBE_FORMATTER" "Ljava/util/function/BiFunction;" vFM) (rFM : vFM.isRef = true) (Ea : Exa Z h0 a "java/lang/String") (Fc : Fld Z h0 a "java/lang/String" "coder" "B" (.int (0 : Int32))) (Fv : Fld Z h0 a "java/lang/String" "value" "[B" (.ref tv)) (Av : Arv Z h0 tv kv .byte nn vs (.int 0)) (hj0 : ¬ (j < (0 : Int32))) (hjn : j < nn) (hget : vs.getD j.toNatClampNeg (.int 0) = .int v) :
    MetFree l (⟨"java/lang/String", "charAt", "(I)C"⟩ : MethodName) (head1 (Jvm.Cond.code (⟨"java/lang/String", "charAt", "(I)C"⟩ : MethodName) jdk_42_method_56_code 2 (some .char) :: ws) ({ frames := 3, cells := 0, slots := 0, locals := 40 } : Room)) (fun aa_ U_ => aa_ = #[(.ref a), (.int j)] ∧ Z.Warmed39 U_.vm ∧ U_.heap = h0) (fun _ _ _ _ _ => True) (fun _ U_ oo_ V_ => ∃ vv_ LL_, oo_ = .returned vv_ ∧ Q_sch Z zCS vFM a tv kv nn vs j v h0 n0 vv_ V_.heap LL_ ∧ FrameEnd U_ oo_ V_ LL_ ({ frames := 3, cells := 0, slots := 0, locals := 40 } : Room).cells ({ frames := 3, cells := 0, slots := 0, locals := 40 } : Room).slots) := by
  refine MetFree.of_bodySF (plainFor_of_name pn_java_lang_String) hisR ?_
  intro p e s m args below meth c s₁ Bd hml0 hP hK
  obtain ⟨rfl, hZ, hh⟩ := hP
  have hx := Bd.exec
  have hby := Bd.bytes
  have hml : c.maxLocals = 2 := hml0
  have hown : s.vm.findClass "java/lang/String" = some m.cls := findClass_of_methodNamed Bd.named
  have hnm := (name_of_methodNamed Bd.named Bd.method).1
  have X0 : Stand p l e ({ frames := 3, cells := 0, slots := 0, locals := 40 } : Room) s m #[(.ref a), (.int j)] below meth c s₁ [] 0 0 := Stand.of_body Bd
  have e0 : s₁.heap = h0 := by rw [← hh, Bd.state]; rfl
  have N0 := Fr.nil n0
  have Z0 : n0 ≤ h0.size := O0.1 ▸ O0.2.1
  have hk0 := Nat.zero_le h0.size
  have K0 : Keep h0 h0 [] := Keep.refl _ _
  have R0 : ∀ t, Steps p.tables e below (s₁.setTop (mkF m 0 #[.val (.ref a), .val (.int j)] [])) t → Steps p.tables e below (s₁.setTop (entryFrame m #[(.ref a), (.int j)] 2)) t := fun t k => castTop (ef_sch m a tv kv nn vs j v) k
  obtain ⟨cq1, kq1, q1a, q1b, q1c⟩ := isOf hZ e0 Ea
  obtain ⟨_, _, ⟨T1, L1, k1, n1⟩, -, X1, ⟨Lc1, hQ1, cl_1, cy_1, cz_1⟩, st1⟩ := X0.virtualBack hx (y := (⟨"java/lang/String", "isLatin1", "()Z"⟩ : MethodName)) (z := (⟨"java/lang/String", "isLatin1", "()Z"⟩ : MethodName)) hown (mvT hZ (hw _ (List.mem_of_getElem? (i := 174) rfl))) (mvT hZ (hw _ (List.mem_of_getElem? (i := 175) rfl))) (notFace_of_selects (args := #[]) (mvT hZ (hw _ (List.mem_of_getElem? (i := 177) rfl)))) (mvT hZ (hw _ (List.mem_of_getElem? (i := 177) rfl))) (mvT hZ (hw _ (List.mem_of_getElem? (i := 176) rfl))) (by decide) (backOf (W := 0) (isLat l Z a0 hw [] zCS vFM a h0 n0 O0 S_CS hCS hcT0 hcT1 hcT2 hcT3 hcT4 hcH hcW S_FM rFM   Ea Fc) hZ (hw _ (List.mem_of_getElem? (i := 178) rfl)) (hw _ (List.mem_of_getElem? (i := 6) rfl)) (by decide) (by decide)) q1a q1c (g := (mkF m 1 #[.val (.ref a), .val (.int j)] [(.ref a)])) rfl (by rw [hml]; rfl) (Steps.refl _) (argsL := []) (rest := []) (lenOf pd_11 rfl) rfl (by show 2 * 0 + _ ≤ _; exact Nat.le_of_eq rfl) (hb hby d30_1) (fun _ _ => ⟨rfl, e0, (by decide : 0 + 0 ≤ _), (by decide : 0 + 0 ≤ _)⟩)
  dsimp only [Pt.U, Pt.locs, Pt.cells, Pt.slots] at X1 cl_1 cy_1 cz_1 st1 hQ1
  rw [cl_1, cy_1, cz_1] at X1
  obtain ⟨rfl, N1q, e1⟩ := hQ1
  have N1 := Fr.app N0 N1q
  obtain ⟨T2, X2, e2, st2⟩ := getF X1 hx hZ hown (host := "") (Or.inl (hw _ (List.mem_of_getElem? (i := 24) rfl))) Via.refl e1 Fv (g := (mkF m 8 #[.val (.ref a), .val (.int j)] [(.ref a)])) rfl rfl (hb hby d30_8)
  obtain ⟨_, _, ⟨T3, L3, k3, n3⟩, -, X3, ⟨Lc3, hQ3, cl_3, cy_3, cz_3⟩, st3⟩ := Jvm.LawKit.callS X2 hx (y := (⟨"java/lang/StringLatin1", "charAt", "([BI)C"⟩ : MethodName)) hown (mvT hZ (hw _ (List.mem_of_getElem? (i := 179) rfl))) (mvT hZ (hw _ (List.mem_of_getElem? (i := 180) rfl))) (mvT hZ (hw _ (List.mem_of_getElem? (i := 181) rfl))) (mvT hZ (hw _ (List.mem_of_getElem? (i := 182) rfl))) (by decide) (backOf (W := 0) (lch l Z a0 hw [] zCS vFM tv kv nn vs j v h0 n0 O0 S_CS hCS hcT0 hcT1 hcT2 hcT3 hcT4 hcH hcW S_FM rFM   Av hj0 hjn hget) hZ (hw _ (List.mem_of_getElem? (i := 182) rfl)) (hw _ (List.mem_of_getElem? (i := 181) rfl)) (by decide) (by decide)) (g := (mkF m 12 #[.val (.ref a), .val (.int j)] [(.int j), (.ref tv)])) rfl (by rw [hml]; rfl) (argsL := [(.ref tv), (.int j)]) (rest := []) (lenOf pd_15 rfl) rfl (by show 2 * 0 + _ ≤ _; exact Nat.le_of_eq rfl) (hb hby d30_12) (fun _ _ => ⟨rfl, e2, (by decide : 0 + 0 ≤ _), (by decide : 0 + 0 ≤ _)⟩)
  dsimp only [Pt.U, Pt.locs, Pt.cells, Pt.slots] at X3 cl_3 cy_3 cz_3 st3 hQ3
  rw [cl_3, cy_3, cz_3] at X3
  obtain ⟨rfl, N3q, e3⟩ := hQ3
  have N3 := Fr.app N1 N3q
  have R4 : ∀ t, Steps p.tables e below (T3.setTop (mkF m 15 #[.val (.ref a), .val (.int j)] [(.int (nar .char ((v &&& (255 : Int32)).toUInt32.toUInt16.toUInt32.toInt32)))])) t → Steps p.tables e below (s₁.setTop (entryFrame m #[(.ref a), (.int j)] 2)) t := by
    intro t k
    refine R0 t ?_
    show Steps p.tables e below (s₁.setTop (mkF m 0 #[.val (.ref a), .val (.int j)] [])) t
    refine XS.aloadN X0.here hx rfl (hb hby d30_0) rfl rfl ?_
    show Steps p.tables e below (s₁.setTop (mkF m 1 #[.val (.ref a), .val (.int j)] [(.ref a)])) t
    refine st1.trans ?_
    show Steps p.tables e below (T1.setTop (mkF m 4 #[.val (.ref a), .val (.int j)] [(.int (1 : Int32))])) t
    refine XS.ifNo X1.here hx rfl (hb hby d30_4) rfl ((if0 _ _).trans (feq ((by decide) : ¬ ((1 : Int32) = (0 : Int32)))).1) ?_
    show Steps p.tables e below (T1.setTop (mkF m 7 #[.val (.ref a), .val (.int j)] [])) t
    refine XS.aloadN X1.here hx rfl (hb hby d30_7) rfl rfl ?_
    show Steps p.tables e below (T1.setTop (mkF m 8 #[.val (.ref a), .val (.int j)] [(.ref a)])) t
    refine st2 _ ?_
    show Steps p.tables e below (T2.setTop (mkF m 11 #[.val (.ref a), .val (.int j)] [(.ref tv)])) t
    refine XS.iloadN X2.here hx rfl (hb hby d30_11) rfl ?_
    show Steps p.tables e below (T2.setTop (mkF m 12 #[.val (.ref a), .val (.int j)] [(.int j), (.ref tv)])) t
    refine st3 _ ?_
    exact k
  obtain ⟨fs, hr, hrun, hended, hW, hsame⟩ := X3.leave (v := some (.int (nar .char (nar .char ((v &&& (255 : Int32)).toUInt32.toUInt16.toUInt32.toInt32))))) (fun h => by rw [Bd.returns] at h; cases h)
  refine ⟨_, _, R4 _ ?_, hrun, hended, _, _, rfl, ?_, ⟨_, rfl⟩, hW, hsame.mono (by decide) (by decide)⟩
  · show Steps p.tables e below (T3.setTop (mkF m 15 #[.val (.ref a), .val (.int j)] [(.int (nar .char ((v &&& (255 : Int32)).toUInt32.toUInt16.toUInt32.toInt32)))])) _
    exact retN X3 hx (t := .char) Bd.returns (by simp) (hb hby d30_15) hr
  · show Q_sch Z zCS vFM a tv kv nn vs j v h0 n0 _ T3.heap _
    rw [e3]
    exact ⟨rfl, N3, rfl⟩
theorem own_len (a b c : Int32) : ((((((0 : Int32) + a) + (1 : Int32)) + b) + (1 : Int32)) + c) = (((a + b) + c) + (2 : Int32)) := by
  rw [show (2 : Int32) = 1 + 1 from by decide, Int32.zero_add]; ac_rfl
theorem own_off (a b : Int32) : (((a + (1 : Int32)) + b) + (1 : Int32)) = ((a + b) + (2 : Int32)) := by
  rw [show (2 : Int32) = 1 + 1 from by decide]; ac_rfl
theorem d3_0 : decode jdk_42_method_149_code 0 = .ok (.aload_n 0, 1) := by decide +kernel
theorem d3_1 : decode jdk_42_method_149_code 1 = .ok (.invokespecial 1, 3) := by decide +kernel
theorem d3_4 : decode jdk_42_method_149_code 4 = .ok (.iload_n 3, 1) := by decide +kernel
theorem d3_5 : decode jdk_42_method_149_code 5 = .ok (.ifCond .ne 22, 3) := by decide +kernel
theorem d3_8 : decode jdk_42_method_149_code 8 = .ok (.aload_n 0, 1) := by decide +kernel
theorem d3_9 : decode jdk_42_method_149_code 9 = .ok (.ldc 7, 2) := by decide +kernel
theorem d3_11 : decode jdk_42_method_149_code 11 = .ok (.getfield 9, 3) := by decide +kernel
theorem d3_14 : decode jdk_42_method_149_code 14 = .ok (.putfield 9, 3) := by decide +kernel
theorem d3_17 : decode jdk_42_method_149_code 17 = .ok (.aload_n 0, 1) := by decide +kernel
theorem d3_18 : decode jdk_42_method_149_code 18 = .ok (.ldc 7, 2) := by decide +kernel
theorem d3_20 : decode jdk_42_method_149_code 20 = .ok (.getfield 15, 3) := by decide +kernel
theorem d3_23 : decode jdk_42_method_149_code 23 = .ok (.putfield 15, 3) := by decide +kernel
theorem d3_26 : decode jdk_42_method_149_code 26 = .ok (.return_, 1) := by decide +kernel
theorem ef_sinit2 (m : MethodId) (a : Addr) (ca : Addr) (u1 : Value) : entryFrame m #[(.ref a), (.ref ca), (.int (0 : Int32)), (.int (0 : Int32)), .null] 6 = mkF m 0 #[.val (.ref a), .val (.ref ca), .val (.int (0 : Int32)), .val (.int (0 : Int32)), .val .null, .unset] [] := by first | (simp [entryFrame, mkF, argsToLocals, Value.category]; done) | rfl
def Q_sinit2 (Z : State) (zCS : Int32) (vFM : Value) (a : Addr) (ca : Addr) (u1 : Value) (h0 : Heap) (n0 : Nat) (vv_ : Option Value) (hh_ : Heap) (vm_ : Vm) (LL_ : List Loc) : Prop := ∃ (b : Addr) (kb : ClassId), vv_ = none ∧ (Fr n0 LL_) ∧ (Keep h0 hh_ [a]) ∧ (Exa Z hh_ a "java/lang/String") ∧ (Fld Z hh_ a "java/lang/String" "coder" "B" (.int (0 : Int32))) ∧ (Fld Z hh_ a "java/lang/String" "value" "[B" (.ref b)) ∧ (Arv Z hh_ b kb .byte (0 : Int32) [] (.int 0)) ∧ (LS Z "java/lang/String" 7 [] vm_ hh_ hh_.size)
set_option maxRecDepth 65536 in
set_option maxHeartbeats 40000000 in
theorem sinit2 (l : Launch) (Z : State) (a0 : Array Value) (hw : ∀ d ∈ tables_1, d.before a0 Z = true) (ws : List Jvm.Cond) (zCS : Int32) (vFM : Value) (a : Addr) (ca : Addr) (u1 : Value) (NN : Nat) (h0 : Heap) (n0 : Nat) (O0 : Old Z n0 h0) (S_CS : Sta Z Z.heap "java/lang/String" "COMPACT_STRINGS" "Z" (.int zCS)) (hCS : ¬ (zCS = (0 : Int32))) (hcT0 : Jvm.Lit.constHeld Z "com/example/relayout/relayout/plan/Transfer" 7) (hcT1 : Jvm.Lit.constHeld Z "com/example/relayout/relayout/plan/Transfer" 22) (hcT2 : Jvm.Lit.constHeld Z "com/example/relayout/relayout/plan/Transfer" 26) (hcT3 : Jvm.Lit.constHeld Z "com/example/relayout/relayout/plan/Transfer" 45) (hcT4 : Jvm.Lit.constHeld Z "com/example/relayout/relayout/plan/Transfer" 47) (hcH : Jvm.Lit.constHeld Z "java/lang/String" 7) (hcW : Jvm.Lit.compactW.before a0 Z = true) (S_FM : Sta Z Z.heap "jdk/internal/util/Preconditions" "SIOOBE_FORMATTER" "Ljava/util/function/BiFunction;" vFM) (rFM : vFM.isRef = true) (g_a : n0 ≤ a) (Ea : Exa Z h0 a "java/lang/String") (Fv : Fld Z h0 a "java/lang/String" "value" "[B" .null) (Fc : Fld Z h0 a "java/lang/String" "coder" "B" u1) :
    MetFree l (⟨"java/lang/String", "<init>", "([CIILjava/lang/Void;)V"⟩ : MethodName) (head1 (Jvm.Cond.code (⟨"java/lang/String", "<init>", "([CIILjava/lang/Void;)V"⟩ : MethodName) jdk_42_method_149_code 6 none :: ws) ({ frames := 1, cells := 2, slots := 4, locals := 12 } : Room)) (fun aa_ U_ => aa_ = #[(.ref a), (.ref ca), (.int (0 : Int32)), (.int (0 : Int32)), .null] ∧ (Z.Warmed39 U_.vm ∧ LS Z "java/lang/String" 7 [] U_.vm h0 NN) ∧ U_.heap = h0) (fun _ _ _ _ _ => True) (fun _ U_ oo_ V_ => ∃ vv_ LL_, oo_ = .returned vv_ ∧ Q_sinit2 Z zCS vFM a ca u1 h0 n0 vv_ V_.heap V_.vm LL_ ∧ ReturnedEndW U_ oo_ V_ LL_ ({ frames := 1, cells := 2, slots := 4, locals := 12 } : Room).cells ({ frames := 1, cells := 2, slots := 4, locals := 12 } : Room).slots) := by
  refine MetFree.of_bodySF (plainFor_of_name pn_java_lang_String) hisR ?_
  intro p e s m args below meth c s₁ Bd hml0 hP hK
  obtain ⟨rfl, ⟨hZ, hL0⟩, hh⟩ := hP
  have hx := Bd.exec
  have hby := Bd.bytes
  have hml : c.maxLocals = 6 := hml0
  have hown : s.vm.findClass "java/lang/String" = some m.cls := findClass_of_methodNamed Bd.named
  have hnm := (name_of_methodNamed Bd.named Bd.method).1
  have hZ0 : Z.Warmed39 (s.setVm s.vm).vm := hZ
  have hown0 : (s.setVm s.vm).vm.findClass "java/lang/String" = some m.cls := hown
  have hS0 : s.Since s.vm 0 := ⟨State.Warmed39.refl s, fun j p h1 h2 => absurd (Array.getElem?_eq_some_iff.mp h2).1 (Nat.not_lt.mpr h1)⟩
  have X0 : Stand p l e ({ frames := 1, cells := 2, slots := 4, locals := 12 } : Room) (s.setVm s.vm) m #[(.ref a), (.ref ca), (.int (0 : Int32)), (.int (0 : Int32)), .null] below meth c s₁ [] 0 0 := Stand.of_body Bd
  have e0 : s₁.heap = h0 := by rw [← hh, Bd.state]; rfl
  have N0 := Fr.nil n0
  have Z0 : n0 ≤ h0.size := O0.1 ▸ O0.2.1
  have hk0 := Nat.zero_le h0.size
  have K0 : Keep h0 h0 [a] := Keep.refl _ _
  have R0 : ∀ t, Steps p.tables e below (s₁.setTop (mkF m 0 #[.val (.ref a), .val (.ref ca), .val (.int (0 : Int32)), .val (.int (0 : Int32)), .val .null, .unset] [])) t → Steps p.tables e below (s₁.setTop (entryFrame m #[(.ref a), (.ref ca), (.int (0 : Int32)), (.int (0 : Int32)), .null] 6)) t := fun t k => castTop (ef_sinit2 m a ca u1) k
  obtain ⟨T1, X1, e1, st1⟩ := initO X0 hx hZ0 hown0 (hw _ (List.mem_of_getElem? (i := 15) rfl)) (hw _ (List.mem_of_getElem? (i := 16) rfl)) (hw _ (List.mem_of_getElem? (i := 17) rfl)) e0 (g := (mkF m 1 #[.val (.ref a), .val (.ref ca), .val (.int (0 : Int32)), .val (.int (0 : Int32)), .val .null, .unset] [(.ref a)])) rfl (by rw [hml]; rfl) rfl (hb hby d3_1) (by decide) (W := 0) (by show 2 * 0 + _ ≤ _; exact Nat.le_of_eq rfl) (by decide)
  obtain ⟨a2, T2, h2, k2, b2, kb2, X2, e2, E2, hS2, hk2, hZ2, hown2, Ea2, Ca2, Va2, Aa2, la2, lb2, hL2, Li2, st2⟩ := own_ldcE X1 hx hZ0 hown0 (hw _ (List.mem_of_getElem? (i := 18) rfl)) (own_sat hw) e1 hS0 hk0 (fun b cl q => by rw [e1]; rw [← hh]; exact q) (fun b cl q => by rw [hh]; exact O0.2.2 b cl q) hL0 hcH hcW (g := (mkF m 9 #[.val (.ref a), .val (.ref ca), .val (.int (0 : Int32)), .val (.int (0 : Int32)), .val .null, .unset] [(.ref a)])) rfl (hb hby d3_9) (by decide) (by decide)
  have Z2 : n0 ≤ h2.size := Nat.le_trans Z0 E2.1
  have K2 : Keep h0 h2 [a] := K0.ext E2
  have O2 : Old Z n0 h2 := O0.ext E2
  have f3 : Fld Z h2 a "java/lang/String" "value" "[B" .null := (Fv.ext E2)
  have f4 : Exa Z h2 a "java/lang/String" := (Ea.ext E2)
  have ne_a_a2 : a ≠ a2 := f3.ne Va2 (by simp)
  have ne_a_b2 : a ≠ b2 := f4.neArv Aa2 (hw _ (List.mem_of_getElem? (i := 5) rfl))
  obtain ⟨T5, X5, e5, st5⟩ := getF X2 hx hZ2 hown2 (host := "") (Or.inl (hw _ (List.mem_of_getElem? (i := 24) rfl))) Via.refl e2 Va2 (g := (mkF m 11 #[.val (.ref a), .val (.ref ca), .val (.int (0 : Int32)), .val (.int (0 : Int32)), .val .null, .unset] [(.ref a2), (.ref a)])) rfl rfl (hb hby d3_11)
  obtain ⟨T6, h6, X6, e6, W6, st6⟩ := putF X5 hx hZ2 hown2 (host := "") (Or.inl (hw _ (List.mem_of_getElem? (i := 24) rfl))) Via.refl e5 f3 f4 (Or.inr ⟨(hw _ (List.mem_of_getElem? (i := 20) rfl)), rfl, hnm⟩) (hw _ (List.mem_of_getElem? (i := 5) rfl)) (ty := (.array .byte)) (by decide) rfl rfl (g := (mkF m 14 #[.val (.ref a), .val (.ref ca), .val (.int (0 : Int32)), .val (.int (0 : Int32)), .val .null, .unset] [(.ref b2), (.ref a)])) rfl rfl (hb hby d3_14)
  have Z6 : n0 ≤ h6.size := Nat.le_trans Z2 (Keep.of_wr W6).1
  have K6 : Keep h0 h6 [a] := K2.wr W6 (Or.inl (List.mem_of_getElem? (i := 0) rfl))
  have O6 : Old Z n0 h6 := O2.wr W6 g_a
  have N6 := Fr.snoc X6 N0 g_a
  have hL6 := LS.keepX (s := s) hL2 Li2 Va2 (Keep.of_wr W6) (ninS (Ne.symm ne_a_a2) nin0) (ninS (Ne.symm ne_a_b2) nin0)
  have hk6 := Nat.le_trans hk2 (Keep.of_wr W6).1
  have fw6 : Fld Z h6 a "java/lang/String" "value" "[B" (.ref b2) := f3.same W6
  have f9 : Fld Z h6 a2 "java/lang/String" "coder" "B" (.int (0 : Int32)) := (Ca2.other W6 (Or.inl (Ne.symm ne_a_a2)))
  obtain ⟨T8, X8, e8, st8⟩ := getF X6 hx hZ2 hown2 (host := "") (Or.inl (hw _ (List.mem_of_getElem? (i := 25) rfl))) Via.refl e6 f9 (g := (mkF m 20 #[.val (.ref a), .val (.ref ca), .val (.int (0 : Int32)), .val (.int (0 : Int32)), .val .null, .unset] [(.ref a2), (.ref a)])) rfl rfl (hb hby d3_20)
  have f11 : Exa Z h6 a "java/lang/String" := (f4.wr W6)
  have f12 : Fld Z h6 a "java/lang/String" "coder" "B" u1 := ((Fc.ext E2).other W6 (Or.inr (slot_ne (Or.inr (hw _ (List.mem_of_getElem? (i := 21) rfl))) (Or.inr (hw _ (List.mem_of_getElem? (i := 20) rfl))) (by decide) (t := .byte) (t' := (.array .byte)) (by decide) (by decide))))
  have f13 : Fld Z h6 a2 "java/lang/String" "value" "[B" (.ref b2) := (Va2.other W6 (Or.inl (Ne.symm ne_a_a2)))
  obtain ⟨T10, h10, X10, e10, W10, st10⟩ := putFN X8 hx hZ2 hown2 (hw _ (List.mem_of_getElem? (i := 25) rfl)) Via.refl e8 f12 f11 (Or.inr ⟨(hw _ (List.mem_of_getElem? (i := 21) rfl)), rfl, hnm⟩) (hw _ (List.mem_of_getElem? (i := 5) rfl)) (ty := .byte) (v' := (.int (0 : Int32))) (by decide) (by decide) (by decide) (g := (mkF m 23 #[.val (.ref a), .val (.ref ca), .val (.int (0 : Int32)), .val (.int (0 : Int32)), .val .null, .unset] [(.int (0 : Int32)), (.ref a)])) rfl rfl (hb hby d3_23)
  have Z10 : n0 ≤ h10.size := Nat.le_trans Z6 (Keep.of_wr W10).1
  have K10 : Keep h0 h10 [a] := K6.wr W10 (Or.inl (List.mem_of_getElem? (i := 0) rfl))
  have O10 : Old Z n0 h10 := O6.wr W10 g_a
  have N10 := Fr.snoc X10 N6 g_a
  have hL10 := LS.keepX (s := s) hL6 Li2 f13 (Keep.of_wr W10) (ninS (Ne.symm ne_a_a2) nin0) (ninS (Ne.symm ne_a_b2) nin0)
  have hk10 := Nat.le_trans hk6 (Keep.of_wr W10).1
  have fw10 : Fld Z h10 a "java/lang/String" "coder" "B" (.int (0 : Int32)) := f12.same W10
  have R14 : ∀ t, Steps p.tables e below (T10.setTop (mkF m 26 #[.val (.ref a), .val (.ref ca), .val (.int (0 : Int32)), .val (.int (0 : Int32)), .val .null, .unset] [])) t → Steps p.tables e below (s₁.setTop (entryFrame m #[(.ref a), (.ref ca), (.int (0 : Int32)), (.int (0 : Int32)), .null] 6)) t := by
    intro t k
    refine R0 t ?_
    show Steps p.tables e below (s₁.setTop (mkF m 0 #[.val (.ref a), .val (.ref ca), .val (.int (0 : Int32)), .val (.int (0 : Int32)), .val .null, .unset] [])) t
    refine XS.aloadN X0.here hx rfl (hb hby d3_0) rfl rfl ?_
    show Steps p.tables e below (s₁.setTop (mkF m 1 #[.val (.ref a), .val (.ref ca), .val (.int (0 : Int32)), .val (.int (0 : Int32)), .val .null, .unset] [(.ref a)])) t
    refine st1 _ ?_
    show Steps p.tables e below (T1.setTop (mkF m 4 #[.val (.ref a), .val (.ref ca), .val (.int (0 : Int32)), .val (.int (0 : Int32)), .val .null, .unset] [])) t
    refine XS.iloadN X1.here hx rfl (hb hby d3_4) rfl ?_
    show Steps p.tables e below (T1.setTop (mkF m 5 #[.val (.ref a), .val (.ref ca), .val (.int (0 : Int32)), .val (.int (0 : Int32)), .val .null, .unset] [(.int (0 : Int32))])) t
    refine XS.ifNo X1.here hx rfl (hb hby d3_5) rfl ((if0 _ _).trans (teq ((by decide) : (0 : Int32) = (0 : Int32))).2) ?_
    show Steps p.tables e below (T1.setTop (mkF m 8 #[.val (.ref a), .val (.ref ca), .val (.int (0 : Int32)), .val (.int (0 : Int32)), .val .null, .unset] [])) t
    refine XS.aloadN X1.here hx rfl (hb hby d3_8) rfl rfl ?_
    show Steps p.tables e below (T1.setTop (mkF m 9 #[.val (.ref a), .val (.ref ca), .val (.int (0 : Int32)), .val (.int (0 : Int32)), .val .null, .unset] [(.ref a)])) t
    refine st2 _ ?_
    show Steps p.tables e below (T2.setTop (mkF m 11 #[.val (.ref a), .val (.ref ca), .val (.int (0 : Int32)), .val (.int (0 : Int32)), .val .null, .unset] [(.ref a2), (.ref a)])) t
    refine st5 _ ?_
    show Steps p.tables e below (T5.setTop (mkF m 14 #[.val (.ref a), .val (.ref ca), .val (.int (0 : Int32)), .val (.int (0 : Int32)), .val .null, .unset] [(.ref b2), (.ref a)])) t
    refine st6 _ ?_
    show Steps p.tables e below (T6.setTop (mkF m 17 #[.val (.ref a), .val (.ref ca), .val (.int (0 : Int32)), .val (.int (0 : Int32)), .val .null, .unset] [])) t
    refine XS.aloadN X6.here hx rfl (hb hby d3_17) rfl rfl ?_
    show Steps p.tables e below (T6.setTop (mkF m 18 #[.val (.ref a), .val (.ref ca), .val (.int (0 : Int32)), .val (.int (0 : Int32)), .val .null, .unset] [(.ref a)])) t
    refine ldcAgain X6 hx hZ2 hown2 (hw _ (List.mem_of_getElem? (i := 18) rfl)) Li2 (g := (mkF m 18 #[.val (.ref a), .val (.ref ca), .val (.int (0 : Int32)), .val (.int (0 : Int32)), .val .null, .unset] [(.ref a)])) rfl (hb hby d3_18) _ ?_
    show Steps p.tables e below (T6.setTop (mkF m 20 #[.val (.ref a), .val (.ref ca), .val (.int (0 : Int32)), .val (.int (0 : Int32)), .val .null, .unset] [(.ref a2), (.ref a)])) t
    refine st8 _ ?_
    show Steps p.tables e below (T8.setTop (mkF m 23 #[.val (.ref a), .val (.ref ca), .val (.int (0 : Int32)), .val (.int (0 : Int32)), .val .null, .unset] [(.int (0 : Int32)), (.ref a)])) t
    refine st10 _ ?_
    exact k
  have f15 : Exa Z h10 a "java/lang/String" := (f11.wr W10)
  have f16 : Fld Z h10 a "java/lang/String" "value" "[B" (.ref b2) := (fw6.other W10 (Or.inr (slot_ne (Or.inr (hw _ (List.mem_of_getElem? (i := 20) rfl))) (Or.inr (hw _ (List.mem_of_getElem? (i := 21) rfl))) (by decide) (t := (.array .byte)) (t' := .byte) (by decide) (by decide))))
  have f17 : Arv Z h10 b2 kb2 .byte (0 : Int32) [] (.int 0) := ((Aa2.other W6 (Ne.symm ne_a_b2)).other W10 (Ne.symm ne_a_b2))
  obtain ⟨fs, hr, hrun, hended, hRW⟩ := X10.leaveW hS2 (by rw [e10]; exact hk10) (v := none) (fun _ => rfl)
  refine ⟨_, _, R14 _ ?_, hrun, hended, _, _, rfl, ?_, hRW.1, hRW.2.1, hRW.2.2.1, hRW.2.2.2.mono (by decide) (by decide)⟩
  · show Steps p.tables e below (T10.setTop (mkF m 26 #[.val (.ref a), .val (.ref ca), .val (.int (0 : Int32)), .val (.int (0 : Int32)), .val .null, .unset] [])) _
    exact X10.returnOut hx Bd.returns (hb hby d3_26) hr
  · show Q_sinit2 Z zCS vFM a ca u1 h0 n0 _ T10.heap T10.vm _
    rw [e10]
    exact ⟨b2, kb2, rfl, N10, K10, f15, fw10, f16, f17, ((LS.warm (s := s) hL10 X10.warmed).up hL10.1 (Nat.le_refl _))⟩
theorem d2_0 : decode jdk_42_method_3_code 0 = .ok (.aload_n 0, 1) := by decide +kernel
theorem d2_1 : decode jdk_42_method_3_code 1 = .ok (.aload_n 1, 1) := by decide +kernel
theorem d2_2 : decode jdk_42_method_3_code 2 = .ok (.iconst 0, 1) := by decide +kernel
theorem d2_3 : decode jdk_42_method_3_code 3 = .ok (.aload_n 1, 1) := by decide +kernel
theorem d2_4 : decode jdk_42_method_3_code 4 = .ok (.arraylength, 1) := by decide +kernel
theorem d2_5 : decode jdk_42_method_3_code 5 = .ok (.aconst_null, 1) := by decide +kernel
theorem pd_16 : parseMethodDescriptor "([CIILjava/lang/Void;)V" = some ⟨[(.array .char), .int, .int, (.object "java/lang/Void")], none⟩ := by decide +kernel
theorem d2_6 : decode jdk_42_method_3_code 6 = .ok (.invokespecial 27, 3) := by decide +kernel
theorem d2_9 : decode jdk_42_method_3_code 9 = .ok (.return_, 1) := by decide +kernel
theorem ef_sinit1 (m : MethodId) (a : Addr) (ca : Addr) (kc : ClassId) (u1 : Value) : entryFrame m #[(.ref a), (.ref ca)] 2 = mkF m 0 #[.val (.ref a), .val (.ref ca)] [] := by first | (simp [entryFrame, mkF, argsToLocals, Value.category]; done) | rfl
def Q_sinit1 (Z : State) (zCS : Int32) (vFM : Value) (a : Addr) (ca : Addr) (kc : ClassId) (u1 : Value) (h0 : Heap) (n0 : Nat) (vv_ : Option Value) (hh_ : Heap) (vm_ : Vm) (LL_ : List Loc) : Prop := ∃ (b : Addr) (kb : ClassId), vv_ = none ∧ (Fr n0 LL_) ∧ (Keep h0 hh_ [a]) ∧ (Exa Z hh_ a "java/lang/String") ∧ (Fld Z hh_ a "java/lang/String" "coder" "B" (.int (0 : Int32))) ∧ (Fld Z hh_ a "java/lang/String" "value" "[B" (.ref b)) ∧ (Arv Z hh_ b kb .byte (0 : Int32) [] (.int 0)) ∧ (LS Z "java/lang/String" 7 [] vm_ hh_ hh_.size)
set_option maxRecDepth 65536 in
set_option maxHeartbeats 40000000 in
theorem sinit1 (l : Launch) (Z : State) (a0 : Array Value) (hw : ∀ d ∈ tables_1, d.before a0 Z = true) (ws : List Jvm.Cond) (zCS : Int32) (vFM : Value) (a : Addr) (ca : Addr) (kc : ClassId) (u1 : Value) (NN : Nat) (h0 : Heap) (n0 : Nat) (O0 : Old Z n0 h0) (S_CS : Sta Z Z.heap "java/lang/String" "COMPACT_STRINGS" "Z" (.int zCS)) (hCS : ¬ (zCS = (0 : Int32))) (hcT0 : Jvm.Lit.constHeld Z "com/example/relayout/relayout/plan/Transfer" 7) (hcT1 : Jvm.Lit.constHeld Z "com/example/relayout/relayout/plan/Transfer" 22) (hcT2 : Jvm.Lit.constHeld Z "com/example/relayout/relayout/plan/Transfer" 26) (hcT3 : Jvm.Lit.constHeld Z "com/example/relayout/relayout/plan/Transfer" 45) (hcT4 : Jvm.Lit.constHeld Z "com/example/relayout/relayout/plan/Transfer" 47) (hcH : Jvm.Lit.constHeld Z "java/lang/String" 7) (hcW : Jvm.Lit.compactW.before a0 Z = true) (S_FM : Sta Z Z.heap "jdk/internal/util/Preconditions" "SIOOBE_FORMATTER" "Ljava/util/function/BiFunction;" vFM) (rFM : vFM.isRef = true) (g_a : n0 ≤ a) (Ea : Exa Z h0 a "java/lang/String") (Fv : Fld Z h0 a "java/lang/String" "value" "[B" .null) (Fc : Fld Z h0 a "java/lang/String" "coder" "B" u1) (Vc : Arv Z h0 ca kc .char (0 : Int32) [] (.int (0 : Int32))) :
    MetFree l (⟨"java/lang/String", "<init>", "([C)V"⟩ : MethodName) (head1 (Jvm.Cond.code (⟨"java/lang/String", "<init>", "([C)V"⟩ : MethodName) jdk_42_method_3_code 2 none :: ws) ({ frames := 2, cells := 2, slots := 4, locals := 29 } : Room)) (fun aa_ U_ => aa_ = #[(.ref a), (.ref ca)] ∧ (Z.Warmed39 U_.vm ∧ LS Z "java/lang/String" 7 [] U_.vm h0 NN) ∧ U_.heap = h0) (fun _ _ _ _ _ => True) (fun _ U_ oo_ V_ => ∃ vv_ LL_, oo_ = .returned vv_ ∧ Q_sinit1 Z zCS vFM a ca kc u1 h0 n0 vv_ V_.heap V_.vm LL_ ∧ ReturnedEndW U_ oo_ V_ LL_ ({ frames := 2, cells := 2, slots := 4, locals := 29 } : Room).cells ({ frames := 2, cells := 2, slots := 4, locals := 29 } : Room).slots) := by
  refine MetFree.of_bodySF (plainFor_of_name pn_java_lang_String) hisR ?_
  intro p e s m args below meth c s₁ Bd hml0 hP hK
  obtain ⟨rfl, ⟨hZ, hL0⟩, hh⟩ := hP
  have hx := Bd.exec
  have hby := Bd.bytes
  have hml : c.maxLocals = 2 := hml0
  have hown : s.vm.findClass "java/lang/String" = some m.cls := findClass_of_methodNamed Bd.named
  have hnm := (name_of_methodNamed Bd.named Bd.method).1
  have hZ0 : Z.Warmed39 (s.setVm s.vm).vm := hZ
  have hown0 : (s.setVm s.vm).vm.findClass "java/lang/String" = some m.cls := hown
  have hS0 : s.Since s.vm 0 := ⟨State.Warmed39.refl s, fun j p h1 h2 => absurd (Array.getElem?_eq_some_iff.mp h2).1 (Nat.not_lt.mpr h1)⟩
  have X0 : Stand p l e ({ frames := 2, cells := 2, slots := 4, locals := 29 } : Room) (s.setVm s.vm) m #[(.ref a), (.ref ca)] below meth c s₁ [] 0 0 := Stand.of_body Bd
  have e0 : s₁.heap = h0 := by rw [← hh, Bd.state]; rfl
  have N0 := Fr.nil n0
  have Z0 : n0 ≤ h0.size := O0.1 ▸ O0.2.1
  have hk0 := Nat.zero_le h0.size
  have K0 : Keep h0 h0 [a] := Keep.refl _ _
  have R0 : ∀ t, Steps p.tables e below (s₁.setTop (mkF m 0 #[.val (.ref a), .val (.ref ca)] [])) t → Steps p.tables e below (s₁.setTop (entryFrame m #[(.ref a), (.ref ca)] 2)) t := fun t k => castTop (ef_sinit1 m a ca kc u1) k
  obtain ⟨cl1, Ar1, -, S1, M1, -, -⟩ := id Vc
  obtain ⟨_, _, ⟨T2, L2, k2, n2⟩, -, X2q, hS2q, hg2q, ⟨Lc2, hQ2, cl_2, cy_2, cz_2⟩, st2⟩ := X0.specialBackS hx (y := (⟨"java/lang/String", "<init>", "([CIILjava/lang/Void;)V"⟩ : MethodName)) rfl hown0 (mvT hZ0 (hw _ (List.mem_of_getElem? (i := 11) rfl))) (mvT hZ0 (hw _ (List.mem_of_getElem? (i := 12) rfl))) (mvT hZ0 (hw _ (List.mem_of_getElem? (i := 14) rfl))) (by decide) (own_backV (W := 0) (Pv := fun vm_ => LS Z "java/lang/String" 7 [] vm_ h0 NN) (sinit2 l Z a0 hw [] zCS vFM a ca u1 NN h0 n0 O0 S_CS hCS hcT0 hcT1 hcT2 hcT3 hcT4 hcH hcW S_FM rFM g_a  Ea Fv Fc) hZ0 (fun vm_ hW_ => LS.warm (s := s) hL0 hW_) (hw _ (List.mem_of_getElem? (i := 14) rfl)) (hw _ (List.mem_of_getElem? (i := 6) rfl)) (by decide) (by decide)) (g := (mkF m 6 #[.val (.ref a), .val (.ref ca)] [.null, (.int (0 : Int32)), (.int (0 : Int32)), (.ref ca), (.ref a)])) rfl (by rw [hml]; rfl) (Steps.refl _) (a := a) (argsL := [(.ref ca), (.int (0 : Int32)), (.int (0 : Int32)), .null]) (rest := []) (lenOf pd_16 rfl) rfl (by show 2 * 0 + _ ≤ _; exact Nat.le_of_eq rfl) (hb hby d2_6) (fun _ _ => ⟨rfl, e0, (by decide : 0 + 2 ≤ _), (by decide : 0 + 4 ≤ _)⟩)
  dsimp only [Pt.U, Pt.locs, Pt.cells, Pt.slots] at X2q cl_2 cy_2 cz_2 st2 hQ2 hS2q hg2q
  rw [cl_2, cy_2, cz_2] at X2q
  obtain ⟨X2, hS2, hZ2, hown2⟩ := rebS hS0 (by rw [e0]; exact hk0) X2q hS2q hg2q hZ0 hown0
  have hk2 := Nat.le_refl T2.heap.size
  obtain ⟨b2, kb2, rfl, N2q, K2q, y2_0, y2_1, y2_2, y2_3, hL2⟩ := hQ2
  have N2 := Fr.app N0 N2q
  have ne_a_ca : a ≠ ca := Ea.neArv Vc (hw _ (List.mem_of_getElem? (i := 5) rfl))
  have Z2 : n0 ≤ T2.heap.size := Nat.le_trans Z0 K2q.1
  have K2 : Keep h0 T2.heap [a] := K0.trans K2q (allS (Or.inl (List.mem_of_getElem? (i := 0) rfl)) all0)
  have O2 : Old Z n0 T2.heap := O0.keep K2q (allS g_a all0)
  have ne_a_b2 : a ≠ b2 := y2_0.neArv y2_3 (hw _ (List.mem_of_getElem? (i := 5) rfl))
  have R3 : ∀ t, Steps p.tables e below (T2.setTop (mkF m 9 #[.val (.ref a), .val (.ref ca)] [])) t → Steps p.tables e below (s₁.setTop (entryFrame m #[(.ref a), (.ref ca)] 2)) t := by
    intro t k
    refine R0 t ?_
    show Steps p.tables e below (s₁.setTop (mkF m 0 #[.val (.ref a), .val (.ref ca)] [])) t
    refine XS.aloadN X0.here hx rfl (hb hby d2_0) rfl rfl ?_
    show Steps p.tables e below (s₁.setTop (mkF m 1 #[.val (.ref a), .val (.ref ca)] [(.ref a)])) t
    refine XS.aloadN X0.here hx rfl (hb hby d2_1) rfl rfl ?_
    show Steps p.tables e below (s₁.setTop (mkF m 2 #[.val (.ref a), .val (.ref ca)] [(.ref ca), (.ref a)])) t
    refine XS.iconst X0.here hx rfl (hb hby d2_2) ?_
    show Steps p.tables e below (s₁.setTop (mkF m 3 #[.val (.ref a), .val (.ref ca)] [(.int (0 : Int32)), (.ref ca), (.ref a)])) t
    refine XS.aloadN X0.here hx rfl (hb hby d2_3) rfl rfl ?_
    show Steps p.tables e below (s₁.setTop (mkF m 4 #[.val (.ref a), .val (.ref ca)] [(.ref ca), (.int (0 : Int32)), (.ref ca), (.ref a)])) t
    refine X0.arraylength hx (by rw [e0]; exact Ar1.1) (State.isArrayOf_alike hZ0.alike Ar1.2.1) (g := (mkF m 4 #[.val (.ref a), .val (.ref ca)] [(.ref ca), (.int (0 : Int32)), (.ref ca), (.ref a)])) rfl rfl (hb hby d2_4) _ ?_
    rw [len_of S1 M1]
    show Steps p.tables e below (s₁.setTop (mkF m 5 #[.val (.ref a), .val (.ref ca)] [(.int (0 : Int32)), (.int (0 : Int32)), (.ref ca), (.ref a)])) t
    refine XS.aconstNull X0.here hx rfl (hb hby d2_5) ?_
    show Steps p.tables e below (s₁.setTop (mkF m 6 #[.val (.ref a), .val (.ref ca)] [.null, (.int (0 : Int32)), (.int (0 : Int32)), (.ref ca), (.ref a)])) t
    refine st2.trans ?_
    exact k
  obtain ⟨fs, hr, hrun, hended, hRW⟩ := X2.leaveW hS2 hk2 (v := none) (fun _ => rfl)
  refine ⟨_, _, R3 _ ?_, hrun, hended, _, _, rfl, ?_, hRW.1, hRW.2.1, hRW.2.2.1, hRW.2.2.2.mono (by decide) (by decide)⟩
  · show Steps p.tables e below (T2.setTop (mkF m 9 #[.val (.ref a), .val (.ref ca)] [])) _
    exact X2.returnOut hx Bd.returns (hb hby d2_9) hr
  · show Q_sinit1 Z zCS vFM a ca kc u1 h0 n0 _ T2.heap T2.vm _
    exact ⟨b2, kb2, rfl, N2, K2, y2_0, y2_1, y2_2, y2_3, ((LS.warm (s := s) hL2 X2.warmed).up hL2.1 (Nat.le_refl _))⟩
theorem d1_0 : decode method_3_code 0 = .ok (.iload_n 0, 1) := by decide +kernel
theorem d1_1 : decode method_3_code 1 = .ok (.bipush 16, 2) := by decide +kernel
theorem d1_3 : decode method_3_code 3 = .ok (.iushr, 1) := by decide +kernel
theorem d1_4 : decode method_3_code 4 = .ok (.iconst 3, 1) := by decide +kernel
theorem d1_5 : decode method_3_code 5 = .ok (.irem, 1) := by decide +kernel
theorem d1_6 : decode method_3_code 6 = .ok (.istore_n 1, 1) := by decide +kernel
theorem d1_7 : decode method_3_code 7 = .ok (.iload_n 0, 1) := by decide +kernel
theorem d1_8 : decode method_3_code 8 = .ok (.sipush 255, 3) := by decide +kernel
theorem d1_11 : decode method_3_code 11 = .ok (.iand, 1) := by decide +kernel
theorem d1_12 : decode method_3_code 12 = .ok (.i2c, 1) := by decide +kernel
theorem d1_13 : decode method_3_code 13 = .ok (.istore_n 2, 1) := by decide +kernel
theorem d1_14 : decode method_3_code 14 = .ok (.iload_n 0, 1) := by decide +kernel
theorem d1_15 : decode method_3_code 15 = .ok (.bipush 8, 2) := by decide +kernel
theorem d1_17 : decode method_3_code 17 = .ok (.iushr, 1) := by decide +kernel
theorem d1_18 : decode method_3_code 18 = .ok (.sipush 255, 3) := by decide +kernel
theorem d1_21 : decode method_3_code 21 = .ok (.iand, 1) := by decide +kernel
theorem d1_22 : decode method_3_code 22 = .ok (.i2c, 1) := by decide +kernel
theorem d1_23 : decode method_3_code 23 = .ok (.istore_n 3, 1) := by decide +kernel
theorem d1_24 : decode method_3_code 24 = .ok (.iload_n 1, 1) := by decide +kernel
theorem d1_25 : decode method_3_code 25 = .ok (.ifCond .ne 14, 3) := by decide +kernel
theorem d1_28 : decode method_3_code 28 = .ok (.new 23, 3) := by decide +kernel
theorem d1_31 : decode method_3_code 31 = .ok (.dup, 1) := by decide +kernel
theorem d1_32 : decode method_3_code 32 = .ok (.iconst 0, 1) := by decide +kernel
theorem d1_33 : decode method_3_code 33 = .ok (.newarray .char, 2) := by decide +kernel
theorem pd_17 : parseMethodDescriptor "([C)V" = some ⟨[(.array .char)], none⟩ := by decide +kernel
theorem d1_35 : decode method_3_code 35 = .ok (.invokespecial 36, 3) := by decide +kernel
theorem d1_38 : decode method_3_code 38 = .ok (.areturn, 1) := by decide +kernel
theorem d1_39 : decode method_3_code 39 = .ok (.iload_n 1, 1) := by decide +kernel
theorem d1_40 : decode method_3_code 40 = .ok (.iconst 1, 1) := by decide +kernel
theorem d1_41 : decode method_3_code 41 = .ok (.if_icmp .ne 18, 3) := by decide +kernel
theorem d1_44 : decode method_3_code 44 = .ok (.new 23, 3) := by decide +kernel
theorem d1_47 : decode method_3_code 47 = .ok (.dup, 1) := by decide +kernel
theorem d1_48 : decode method_3_code 48 = .ok (.iconst 1, 1) := by decide +kernel
theorem d1_49 : decode method_3_code 49 = .ok (.newarray .char, 2) := by decide +kernel
theorem d1_51 : decode method_3_code 51 = .ok (.dup, 1) := by decide +kernel
theorem d1_52 : decode method_3_code 52 = .ok (.iconst 0, 1) := by decide +kernel
theorem d1_53 : decode method_3_code 53 = .ok (.iload_n 2, 1) := by decide +kernel
theorem d1_54 : decode method_3_code 54 = .ok (.castore, 1) := by decide +kernel
theorem d1_55 : decode method_3_code 55 = .ok (.invokespecial 36, 3) := by decide +kernel
theorem d1_58 : decode method_3_code 58 = .ok (.areturn, 1) := by decide +kernel
theorem d1_59 : decode method_3_code 59 = .ok (.new 23, 3) := by decide +kernel
theorem d1_62 : decode method_3_code 62 = .ok (.dup, 1) := by decide +kernel
theorem d1_63 : decode method_3_code 63 = .ok (.iconst 2, 1) := by decide +kernel
theorem d1_64 : decode method_3_code 64 = .ok (.newarray .char, 2) := by decide +kernel
theorem d1_66 : decode method_3_code 66 = .ok (.dup, 1) := by decide +kernel
theorem d1_67 : decode method_3_code 67 = .ok (.iconst 0, 1) := by decide +kernel
theorem d1_68 : decode method_3_code 68 = .ok (.iload_n 2, 1) := by decide +kernel
theorem d1_69 : decode method_3_code 69 = .ok (.castore, 1) := by decide +kernel
theorem d1_70 : decode method_3_code 70 = .ok (.dup, 1) := by decide +kernel
theorem d1_71 : decode method_3_code 71 = .ok (.iconst 1, 1) := by decide +kernel
theorem d1_72 : decode method_3_code 72 = .ok (.iload_n 3, 1) := by decide +kernel
theorem d1_73 : decode method_3_code 73 = .ok (.castore, 1) := by decide +kernel
theorem d1_74 : decode method_3_code 74 = .ok (.invokespecial 36, 3) := by decide +kernel
theorem d1_77 : decode method_3_code 77 = .ok (.areturn, 1) := by decide +kernel
theorem pn_com_example_relayout_relayout_plan_TransferToStringPinLaw : plainName "com/example/relayout/relayout/plan/TransferToStringPinLaw" = true := by first | (simp [plainName, overriddenIn]; done) | decide +kernel
theorem ef_mk (m : MethodId) (px : Int32) : entryFrame m #[(.int px)] 4 = mkF m 0 #[.val (.int px), .unset, .unset, .unset] [] := by first | (simp [entryFrame, mkF, argsToLocals, Value.category]; done) | rfl
def Q_mk (Z : State) (zCS : Int32) (vFM : Value) (px : Int32) (h0 : Heap) (n0 : Nat) (vv_ : Option Value) (hh_ : Heap) (vm_ : Vm) (LL_ : List Loc) : Prop := ∃ (b : Addr) (tt : Addr) (kb : ClassId) (nn : Int32) (vs : List Value), vv_ = some (.ref b) ∧ (Fr n0 LL_) ∧ (Keep h0 hh_ []) ∧ (h0.size ≤ b) ∧ (Exa Z hh_ b "java/lang/String") ∧ (Fld Z hh_ b "java/lang/String" "coder" "B" (.int (0 : Int32))) ∧ (Fld Z hh_ b "java/lang/String" "value" "[B" (.ref tt)) ∧ (Arv Z hh_ tt kb .byte nn vs (.int 0)) ∧ (own_N 2 nn vs) ∧ (LS Z "java/lang/String" 7 [] vm_ hh_ hh_.size)
set_option maxRecDepth 65536 in
set_option maxHeartbeats 40000000 in
theorem mk (l : Launch) (Z : State) (a0 : Array Value) (hw : ∀ d ∈ tables_1, d.before a0 Z = true) (ws : List Jvm.Cond) (zCS : Int32) (vFM : Value) (px : Int32) (NN : Nat) (h0 : Heap) (n0 : Nat) (O0 : Old Z n0 h0) (S_CS : Sta Z Z.heap "java/lang/String" "COMPACT_STRINGS" "Z" (.int zCS)) (hCS : ¬ (zCS = (0 : Int32))) (hcT0 : Jvm.Lit.constHeld Z "com/example/relayout/relayout/plan/Transfer" 7) (hcT1 : Jvm.Lit.constHeld Z "com/example/relayout/relayout/plan/Transfer" 22) (hcT2 : Jvm.Lit.constHeld Z "com/example/relayout/relayout/plan/Transfer" 26) (hcT3 : Jvm.Lit.constHeld Z "com/example/relayout/relayout/plan/Transfer" 45) (hcT4 : Jvm.Lit.constHeld Z "com/example/relayout/relayout/plan/Transfer" 47) (hcH : Jvm.Lit.constHeld Z "java/lang/String" 7) (hcW : Jvm.Lit.compactW.before a0 Z = true) (S_FM : Sta Z Z.heap "jdk/internal/util/Preconditions" "SIOOBE_FORMATTER" "Ljava/util/function/BiFunction;" vFM) (rFM : vFM.isRef = true) :
    MetFree l (⟨"com/example/relayout/relayout/plan/TransferToStringPinLaw", "mk", "(I)Ljava/lang/String;"⟩ : MethodName) (head1 (Jvm.Cond.code (⟨"com/example/relayout/relayout/plan/TransferToStringPinLaw", "mk", "(I)Ljava/lang/String;"⟩ : MethodName) method_3_code 4 (some (.object "java/lang/String")) :: ws) ({ frames := 4, cells := 4, slots := 8, locals := 66 } : Room)) (fun aa_ U_ => aa_ = #[(.int px)] ∧ (Z.Warmed39 U_.vm ∧ LS Z "java/lang/String" 7 [] U_.vm h0 NN) ∧ U_.heap = h0) (fun _ _ _ _ _ => True) (fun _ U_ oo_ V_ => ∃ vv_ LL_, oo_ = .returned vv_ ∧ Q_mk Z zCS vFM px h0 n0 vv_ V_.heap V_.vm LL_ ∧ ReturnedEndW U_ oo_ V_ LL_ ({ frames := 4, cells := 4, slots := 8, locals := 66 } : Room).cells ({ frames := 4, cells := 4, slots := 8, locals := 66 } : Room).slots) := by
  refine MetFree.of_bodySF (plainFor_of_name pn_com_example_relayout_relayout_plan_TransferToStringPinLaw) hisR ?_
  intro p e s m args below meth c s₁ Bd hml0 hP hK
  obtain ⟨rfl, ⟨hZ, hL0⟩, hh⟩ := hP
  have hx := Bd.exec
  have hby := Bd.bytes
  have hml : c.maxLocals = 4 := hml0
  have hown : s.vm.findClass "com/example/relayout/relayout/plan/TransferToStringPinLaw" = some m.cls := findClass_of_methodNamed Bd.named
  have hnm := (name_of_methodNamed Bd.named Bd.method).1
  have hZ0 : Z.Warmed39 (s.setVm s.vm).vm := hZ
  have hown0 : (s.setVm s.vm).vm.findClass "com/example/relayout/relayout/plan/TransferToStringPinLaw" = some m.cls := hown
  have hS0 : s.Since s.vm 0 := ⟨State.Warmed39.refl s, fun j p h1 h2 => absurd (Array.getElem?_eq_some_iff.mp h2).1 (Nat.not_lt.mpr h1)⟩
  have X0 : Stand p l e ({ frames := 4, cells := 4, slots := 8, locals := 66 } : Room) (s.setVm s.vm) m #[(.int px)] below meth c s₁ [] 0 0 := Stand.of_body Bd
  have e0 : s₁.heap = h0 := by rw [← hh, Bd.state]; rfl
  have N0 := Fr.nil n0
  have Z0 : n0 ≤ h0.size := O0.1 ▸ O0.2.1
  have hk0 := Nat.zero_le h0.size
  have K0 : Keep h0 h0 [] := Keep.refl _ _
  have R0 : ∀ t, Steps p.tables e below (s₁.setTop (mkF m 0 #[.val (.int px), .unset, .unset, .unset] [])) t → Steps p.tables e below (s₁.setTop (entryFrame m #[(.int px)] 4)) t := fun t k => castTop (ef_mk m px) k
  have R1 : ∀ t, Steps p.tables e below (s₁.setTop (mkF m 25 #[.val (.int px), .val (.int (((px.toUInt32 >>> ((16 : Int32) &&& 31).toUInt32).toInt32) % (3 : Int32))), .val (.int ((px &&& (255 : Int32)).toUInt32.toUInt16.toUInt32.toInt32)), .val (.int ((((px.toUInt32 >>> ((8 : Int32) &&& 31).toUInt32).toInt32) &&& (255 : Int32)).toUInt32.toUInt16.toUInt32.toInt32))] [(.int (((px.toUInt32 >>> ((16 : Int32) &&& 31).toUInt32).toInt32) % (3 : Int32)))])) t → Steps p.tables e below (s₁.setTop (entryFrame m #[(.int px)] 4)) t := by
    intro t k
    refine R0 t ?_
    show Steps p.tables e below (s₁.setTop (mkF m 0 #[.val (.int px), .unset, .unset, .unset] [])) t
    refine XS.iloadN X0.here hx rfl (hb hby d1_0) rfl ?_
    show Steps p.tables e below (s₁.setTop (mkF m 1 #[.val (.int px), .unset, .unset, .unset] [(.int px)])) t
    refine XS.bipush X0.here hx rfl (hb hby d1_1) ?_
    show Steps p.tables e below (s₁.setTop (mkF m 3 #[.val (.int px), .unset, .unset, .unset] [(.int (16 : Int32)), (.int px)])) t
    refine XS.iushr X0.here hx rfl (hb hby d1_3) rfl ?_
    show Steps p.tables e below (s₁.setTop (mkF m 4 #[.val (.int px), .unset, .unset, .unset] [(.int ((px.toUInt32 >>> ((16 : Int32) &&& 31).toUInt32).toInt32))])) t
    refine XS.iconst X0.here hx rfl (hb hby d1_4) ?_
    show Steps p.tables e below (s₁.setTop (mkF m 5 #[.val (.int px), .unset, .unset, .unset] [(.int (3 : Int32)), (.int ((px.toUInt32 >>> ((16 : Int32) &&& 31).toUInt32).toInt32))])) t
    refine iremM (g := (mkF m 5 #[.val (.int px), .unset, .unset, .unset] [(.int (3 : Int32)), (.int ((px.toUInt32 >>> ((16 : Int32) &&& 31).toUInt32).toInt32))])) X0 hx rfl (hb hby d1_5) rfl (by decide) ?_
    show Steps p.tables e below (s₁.setTop (mkF m 6 #[.val (.int px), .unset, .unset, .unset] [(.int (((px.toUInt32 >>> ((16 : Int32) &&& 31).toUInt32).toInt32) % (3 : Int32)))])) t
    refine XS.istoreN X0.here hx rfl (hb hby d1_6) rfl (l' := #[.val (.int px), .val (.int (((px.toUInt32 >>> ((16 : Int32) &&& 31).toUInt32).toInt32) % (3 : Int32))), .unset, .unset]) rfl ?_
    show Steps p.tables e below (s₁.setTop (mkF m 7 #[.val (.int px), .val (.int (((px.toUInt32 >>> ((16 : Int32) &&& 31).toUInt32).toInt32) % (3 : Int32))), .unset, .unset] [])) t
    refine XS.iloadN X0.here hx rfl (hb hby d1_7) rfl ?_
    show Steps p.tables e below (s₁.setTop (mkF m 8 #[.val (.int px), .val (.int (((px.toUInt32 >>> ((16 : Int32) &&& 31).toUInt32).toInt32) % (3 : Int32))), .unset, .unset] [(.int px)])) t
    refine XS.sipush X0.here hx rfl (hb hby d1_8) ?_
    show Steps p.tables e below (s₁.setTop (mkF m 11 #[.val (.int px), .val (.int (((px.toUInt32 >>> ((16 : Int32) &&& 31).toUInt32).toInt32) % (3 : Int32))), .unset, .unset] [(.int (255 : Int32)), (.int px)])) t
    refine XS.iand X0.here hx rfl (hb hby d1_11) rfl ?_
    show Steps p.tables e below (s₁.setTop (mkF m 12 #[.val (.int px), .val (.int (((px.toUInt32 >>> ((16 : Int32) &&& 31).toUInt32).toInt32) % (3 : Int32))), .unset, .unset] [(.int (px &&& (255 : Int32)))])) t
    refine XS.i2c X0.here hx rfl (hb hby d1_12) rfl ?_
    show Steps p.tables e below (s₁.setTop (mkF m 13 #[.val (.int px), .val (.int (((px.toUInt32 >>> ((16 : Int32) &&& 31).toUInt32).toInt32) % (3 : Int32))), .unset, .unset] [(.int ((px &&& (255 : Int32)).toUInt32.toUInt16.toUInt32.toInt32))])) t
    refine XS.istoreN X0.here hx rfl (hb hby d1_13) rfl (l' := #[.val (.int px), .val (.int (((px.toUInt32 >>> ((16 : Int32) &&& 31).toUInt32).toInt32) % (3 : Int32))), .val (.int ((px &&& (255 : Int32)).toUInt32.toUInt16.toUInt32.toInt32)), .unset]) rfl ?_
    show Steps p.tables e below (s₁.setTop (mkF m 14 #[.val (.int px), .val (.int (((px.toUInt32 >>> ((16 : Int32) &&& 31).toUInt32).toInt32) % (3 : Int32))), .val (.int ((px &&& (255 : Int32)).toUInt32.toUInt16.toUInt32.toInt32)), .unset] [])) t
    refine XS.iloadN X0.here hx rfl (hb hby d1_14) rfl ?_
    show Steps p.tables e below (s₁.setTop (mkF m 15 #[.val (.int px), .val (.int (((px.toUInt32 >>> ((16 : Int32) &&& 31).toUInt32).toInt32) % (3 : Int32))), .val (.int ((px &&& (255 : Int32)).toUInt32.toUInt16.toUInt32.toInt32)), .unset] [(.int px)])) t
    refine XS.bipush X0.here hx rfl (hb hby d1_15) ?_
    show Steps p.tables e below (s₁.setTop (mkF m 17 #[.val (.int px), .val (.int (((px.toUInt32 >>> ((16 : Int32) &&& 31).toUInt32).toInt32) % (3 : Int32))), .val (.int ((px &&& (255 : Int32)).toUInt32.toUInt16.toUInt32.toInt32)), .unset] [(.int (8 : Int32)), (.int px)])) t
    refine XS.iushr X0.here hx rfl (hb hby d1_17) rfl ?_
    show Steps p.tables e below (s₁.setTop (mkF m 18 #[.val (.int px), .val (.int (((px.toUInt32 >>> ((16 : Int32) &&& 31).toUInt32).toInt32) % (3 : Int32))), .val (.int ((px &&& (255 : Int32)).toUInt32.toUInt16.toUInt32.toInt32)), .unset] [(.int ((px.toUInt32 >>> ((8 : Int32) &&& 31).toUInt32).toInt32))])) t
    refine XS.sipush X0.here hx rfl (hb hby d1_18) ?_
    show Steps p.tables e below (s₁.setTop (mkF m 21 #[.val (.int px), .val (.int (((px.toUInt32 >>> ((16 : Int32) &&& 31).toUInt32).toInt32) % (3 : Int32))), .val (.int ((px &&& (255 : Int32)).toUInt32.toUInt16.toUInt32.toInt32)), .unset] [(.int (255 : Int32)), (.int ((px.toUInt32 >>> ((8 : Int32) &&& 31).toUInt32).toInt32))])) t
    refine XS.iand X0.here hx rfl (hb hby d1_21) rfl ?_
    show Steps p.tables e below (s₁.setTop (mkF m 22 #[.val (.int px), .val (.int (((px.toUInt32 >>> ((16 : Int32) &&& 31).toUInt32).toInt32) % (3 : Int32))), .val (.int ((px &&& (255 : Int32)).toUInt32.toUInt16.toUInt32.toInt32)), .unset] [(.int (((px.toUInt32 >>> ((8 : Int32) &&& 31).toUInt32).toInt32) &&& (255 : Int32)))])) t
    refine XS.i2c X0.here hx rfl (hb hby d1_22) rfl ?_
    show Steps p.tables e below (s₁.setTop (mkF m 23 #[.val (.int px), .val (.int (((px.toUInt32 >>> ((16 : Int32) &&& 31).toUInt32).toInt32) % (3 : Int32))), .val (.int ((px &&& (255 : Int32)).toUInt32.toUInt16.toUInt32.toInt32)), .unset] [(.int ((((px.toUInt32 >>> ((8 : Int32) &&& 31).toUInt32).toInt32) &&& (255 : Int32)).toUInt32.toUInt16.toUInt32.toInt32))])) t
    refine XS.istoreN X0.here hx rfl (hb hby d1_23) rfl (l' := #[.val (.int px), .val (.int (((px.toUInt32 >>> ((16 : Int32) &&& 31).toUInt32).toInt32) % (3 : Int32))), .val (.int ((px &&& (255 : Int32)).toUInt32.toUInt16.toUInt32.toInt32)), .val (.int ((((px.toUInt32 >>> ((8 : Int32) &&& 31).toUInt32).toInt32) &&& (255 : Int32)).toUInt32.toUInt16.toUInt32.toInt32))]) rfl ?_
    show Steps p.tables e below (s₁.setTop (mkF m 24 #[.val (.int px), .val (.int (((px.toUInt32 >>> ((16 : Int32) &&& 31).toUInt32).toInt32) % (3 : Int32))), .val (.int ((px &&& (255 : Int32)).toUInt32.toUInt16.toUInt32.toInt32)), .val (.int ((((px.toUInt32 >>> ((8 : Int32) &&& 31).toUInt32).toInt32) &&& (255 : Int32)).toUInt32.toUInt16.toUInt32.toInt32))] [])) t
    refine XS.iloadN X0.here hx rfl (hb hby d1_24) rfl ?_
    exact k
  by_cases hz0 : (((px.toUInt32 >>> ((16 : Int32) &&& 31).toUInt32).toInt32) % (3 : Int32)) = (0 : Int32)
  · obtain ⟨T2, h2, X2, e2, E2, A2, D2, -, st2⟩ := newO X0 hx hZ0 hown0 (hw _ (List.mem_of_getElem? (i := 4) rfl)) (hw _ (List.mem_of_getElem? (i := 5) rfl)) (hw _ (List.mem_of_getElem? (i := 6) rfl)) e0 (g := (mkF m 28 #[.val (.int px), .val (.int (((px.toUInt32 >>> ((16 : Int32) &&& 31).toUInt32).toInt32) % (3 : Int32))), .val (.int ((px &&& (255 : Int32)).toUInt32.toUInt16.toUInt32.toInt32)), .val (.int ((((px.toUInt32 >>> ((8 : Int32) &&& 31).toUInt32).toInt32) &&& (255 : Int32)).toUInt32.toUInt16.toUInt32.toInt32))] [])) rfl (hb hby d1_28) (by decide) (by decide)
    obtain ⟨b2, gg2⟩ : ∃ z, z = h0.size := ⟨_, rfl⟩
    rw [← gg2] at A2 D2 st2
    have g_b2 : n0 ≤ b2 := Nat.le_trans Z0 (Nat.le_of_eq gg2.symm)
    have sz_b2 : h0.size ≤ b2 := Nat.le_trans K0.1 (Nat.le_of_eq gg2.symm)
    have nl_b2 : NN ≤ b2 := Nat.le_trans hL0.1 (Nat.le_of_eq gg2.symm)
    have hL2 := hL0.ext E2
    have Z2 : n0 ≤ h2.size := Nat.le_trans Z0 E2.1
    have K2 : Keep h0 h2 [] := K0.ext E2
    have O2 : Old Z n0 h2 := O0.ext E2
    have hk2 := Nat.le_trans hk0 E2.1
    have F2_value : Fld Z h2 b2 "java/lang/String" "value" "[B" .null := D2 (Or.inr (hw _ (List.mem_of_getElem? (i := 20) rfl))) (ty := (.array .byte)) (by decide)
    have F2_coder : Fld Z h2 b2 "java/lang/String" "coder" "B" (.int (0 : Int32)) := D2 (Or.inr (hw _ (List.mem_of_getElem? (i := 21) rfl))) (ty := .byte) (by decide)
    obtain ⟨T3, h3, k3, X3, e3, E3, A3, st3⟩ := newP X2 hx hZ0 (hw _ (List.mem_of_getElem? (i := 7) rfl)) e2 (g := (mkF m 33 #[.val (.int px), .val (.int (((px.toUInt32 >>> ((16 : Int32) &&& 31).toUInt32).toInt32) % (3 : Int32))), .val (.int ((px &&& (255 : Int32)).toUInt32.toUInt16.toUInt32.toInt32)), .val (.int ((((px.toUInt32 >>> ((8 : Int32) &&& 31).toUInt32).toInt32) &&& (255 : Int32)).toUInt32.toUInt16.toUInt32.toInt32))] [(.int (0 : Int32)), (.ref b2), (.ref b2)])) rfl (hb hby d1_33) rfl (by decide) (cap := 0) (by decide) (by decide) (by decide) (by decide)
    obtain ⟨b3, gg3⟩ : ∃ z, z = h2.size := ⟨_, rfl⟩
    rw [← gg3] at A3 st3
    have ne_b2_b3 : b2 ≠ b3 := Nat.ne_of_lt (Nat.lt_of_lt_of_le A2.lt (Nat.le_of_eq gg3.symm))
    have g_b3 : n0 ≤ b3 := Nat.le_trans Z2 (Nat.le_of_eq gg3.symm)
    have sz_b3 : h0.size ≤ b3 := Nat.le_trans K2.1 (Nat.le_of_eq gg3.symm)
    have nl_b3 : NN ≤ b3 := Nat.le_trans hL2.1 (Nat.le_of_eq gg3.symm)
    have hL3 := hL2.ext E3
    have Z3 : n0 ≤ h3.size := Nat.le_trans Z2 E3.1
    have K3 : Keep h0 h3 [] := K2.ext E3
    have O3 : Old Z n0 h3 := O2.ext E3
    have hk3 := Nat.le_trans hk2 E3.1
    have V3 : Arv Z h3 b3 k3 .char (0 : Int32) [] (.int (0 : Int32)) := (Arv.new A3 (by decide)).pad (pad_rep [] (.int (0 : Int32)) 0)
    have f5 : Exa Z h3 b2 "java/lang/String" := (A2.ext E3)
    have f6 : Fld Z h3 b2 "java/lang/String" "value" "[B" .null := (F2_value.ext E3)
    have f7 : Fld Z h3 b2 "java/lang/String" "coder" "B" (.int (0 : Int32)) := (F2_coder.ext E3)
    obtain ⟨_, _, ⟨T4, L4, k4, n4⟩, -, X4q, hS4q, hg4q, ⟨Lc4, hQ4, cl_4, cy_4, cz_4⟩, st4⟩ := X3.specialBackS hx (y := (⟨"java/lang/String", "<init>", "([C)V"⟩ : MethodName)) rfl hown0 (mvT hZ0 (hw _ (List.mem_of_getElem? (i := 8) rfl))) (mvT hZ0 (hw _ (List.mem_of_getElem? (i := 9) rfl))) (mvT hZ0 (hw _ (List.mem_of_getElem? (i := 10) rfl))) (by decide) (own_backV (W := 1) (Pv := fun vm_ => LS Z "java/lang/String" 7 [] vm_ h3 NN) (sinit1 l Z a0 hw [] zCS vFM b2 b3 k3 (.int (0 : Int32)) NN h3 n0 O3 S_CS hCS hcT0 hcT1 hcT2 hcT3 hcT4 hcH hcW S_FM rFM g_b2  f5 f6 f7 V3) hZ0 (fun vm_ hW_ => LS.warm (s := s) hL3 hW_) (hw _ (List.mem_of_getElem? (i := 10) rfl)) (hw _ (List.mem_of_getElem? (i := 6) rfl)) (by decide) (by decide)) (g := (mkF m 35 #[.val (.int px), .val (.int (((px.toUInt32 >>> ((16 : Int32) &&& 31).toUInt32).toInt32) % (3 : Int32))), .val (.int ((px &&& (255 : Int32)).toUInt32.toUInt16.toUInt32.toInt32)), .val (.int ((((px.toUInt32 >>> ((8 : Int32) &&& 31).toUInt32).toInt32) &&& (255 : Int32)).toUInt32.toUInt16.toUInt32.toInt32))] [(.ref b3), (.ref b2), (.ref b2)])) rfl (by rw [hml]; rfl) (Steps.refl _) (a := b2) (argsL := [(.ref b3)]) (rest := [(.ref b2)]) (lenOf pd_17 rfl) rfl (by show 2 * 0 + _ ≤ _; exact Nat.le_of_eq rfl) (hb hby d1_35) (fun _ _ => ⟨rfl, e3, (by decide : 2 + 2 ≤ _), (by decide : 4 + 4 ≤ _)⟩)
    dsimp only [Pt.U, Pt.locs, Pt.cells, Pt.slots] at X4q cl_4 cy_4 cz_4 st4 hQ4 hS4q hg4q
    rw [cl_4, cy_4, cz_4] at X4q
    obtain ⟨X4, hS4, hZ4, hown4⟩ := rebS hS0 (by rw [e3]; exact hk3) X4q hS4q hg4q hZ0 hown0
    have hk4 := Nat.le_refl T4.heap.size
    obtain ⟨b4, kb4, rfl, N4q, K4q, y4_0, y4_1, y4_2, y4_3, hL4⟩ := hQ4
    have N4 := Fr.app N0 N4q
    have Z4 : n0 ≤ T4.heap.size := Nat.le_trans Z3 K4q.1
    have K4 : Keep h0 T4.heap [] := K3.trans K4q (allS (Or.inr sz_b2) all0)
    have O4 : Old Z n0 T4.heap := O3.keep K4q (allS g_b2 all0)
    have ne_b2_b4 : b2 ≠ b4 := y4_0.neArv y4_3 (hw _ (List.mem_of_getElem? (i := 5) rfl))
    have R8 : ∀ t, Steps p.tables e below (T4.setTop (mkF m 38 #[.val (.int px), .val (.int (((px.toUInt32 >>> ((16 : Int32) &&& 31).toUInt32).toInt32) % (3 : Int32))), .val (.int ((px &&& (255 : Int32)).toUInt32.toUInt16.toUInt32.toInt32)), .val (.int ((((px.toUInt32 >>> ((8 : Int32) &&& 31).toUInt32).toInt32) &&& (255 : Int32)).toUInt32.toUInt16.toUInt32.toInt32))] [(.ref b2)])) t → Steps p.tables e below (s₁.setTop (entryFrame m #[(.int px)] 4)) t := by
      intro t k
      refine R1 t ?_
      show Steps p.tables e below (s₁.setTop (mkF m 25 #[.val (.int px), .val (.int (((px.toUInt32 >>> ((16 : Int32) &&& 31).toUInt32).toInt32) % (3 : Int32))), .val (.int ((px &&& (255 : Int32)).toUInt32.toUInt16.toUInt32.toInt32)), .val (.int ((((px.toUInt32 >>> ((8 : Int32) &&& 31).toUInt32).toInt32) &&& (255 : Int32)).toUInt32.toUInt16.toUInt32.toInt32))] [(.int (((px.toUInt32 >>> ((16 : Int32) &&& 31).toUInt32).toInt32) % (3 : Int32)))])) t
      refine XS.ifNo X0.here hx rfl (hb hby d1_25) rfl ((if0 _ _).trans (teq (hz0 : (((px.toUInt32 >>> ((16 : Int32) &&& 31).toUInt32).toInt32) % (3 : Int32)) = (0 : Int32))).2) ?_
      show Steps p.tables e below (s₁.setTop (mkF m 28 #[.val (.int px), .val (.int (((px.toUInt32 >>> ((16 : Int32) &&& 31).toUInt32).toInt32) % (3 : Int32))), .val (.int ((px &&& (255 : Int32)).toUInt32.toUInt16.toUInt32.toInt32)), .val (.int ((((px.toUInt32 >>> ((8 : Int32) &&& 31).toUInt32).toInt32) &&& (255 : Int32)).toUInt32.toUInt16.toUInt32.toInt32))] [])) t
      refine st2 _ ?_
      show Steps p.tables e below (T2.setTop (mkF m 31 #[.val (.int px), .val (.int (((px.toUInt32 >>> ((16 : Int32) &&& 31).toUInt32).toInt32) % (3 : Int32))), .val (.int ((px &&& (255 : Int32)).toUInt32.toUInt16.toUInt32.toInt32)), .val (.int ((((px.toUInt32 >>> ((8 : Int32) &&& 31).toUInt32).toInt32) &&& (255 : Int32)).toUInt32.toUInt16.toUInt32.toInt32))] [(.ref b2)])) t
      refine XS.dup X2.here hx rfl (hb hby d1_31) rfl rfl ?_
      show Steps p.tables e below (T2.setTop (mkF m 32 #[.val (.int px), .val (.int (((px.toUInt32 >>> ((16 : Int32) &&& 31).toUInt32).toInt32) % (3 : Int32))), .val (.int ((px &&& (255 : Int32)).toUInt32.toUInt16.toUInt32.toInt32)), .val (.int ((((px.toUInt32 >>> ((8 : Int32) &&& 31).toUInt32).toInt32) &&& (255 : Int32)).toUInt32.toUInt16.toUInt32.toInt32))] [(.ref b2), (.ref b2)])) t
      refine XS.iconst X2.here hx rfl (hb hby d1_32) ?_
      show Steps p.tables e below (T2.setTop (mkF m 33 #[.val (.int px), .val (.int (((px.toUInt32 >>> ((16 : Int32) &&& 31).toUInt32).toInt32) % (3 : Int32))), .val (.int ((px &&& (255 : Int32)).toUInt32.toUInt16.toUInt32.toInt32)), .val (.int ((((px.toUInt32 >>> ((8 : Int32) &&& 31).toUInt32).toInt32) &&& (255 : Int32)).toUInt32.toUInt16.toUInt32.toInt32))] [(.int (0 : Int32)), (.ref b2), (.ref b2)])) t
      refine st3 _ ?_
      show Steps p.tables e below (T3.setTop (mkF m 35 #[.val (.int px), .val (.int (((px.toUInt32 >>> ((16 : Int32) &&& 31).toUInt32).toInt32) % (3 : Int32))), .val (.int ((px &&& (255 : Int32)).toUInt32.toUInt16.toUInt32.toInt32)), .val (.int ((((px.toUInt32 >>> ((8 : Int32) &&& 31).toUInt32).toInt32) &&& (255 : Int32)).toUInt32.toUInt16.toUInt32.toInt32))] [(.ref b3), (.ref b2), (.ref b2)])) t
      refine st4.trans ?_
      exact k
    obtain ⟨fs, hr, hrun, hended, hRW⟩ := X4.leaveW hS4 hk4 (v := some (.ref b2)) (fun h => by rw [Bd.returns] at h; cases h)
    refine ⟨_, _, R8 _ ?_, hrun, hended, _, _, rfl, ?_, hRW.1, hRW.2.1, hRW.2.2.1, hRW.2.2.2.mono (by decide) (by decide)⟩
    · show Steps p.tables e below (T4.setTop (mkF m 38 #[.val (.int px), .val (.int (((px.toUInt32 >>> ((16 : Int32) &&& 31).toUInt32).toInt32) % (3 : Int32))), .val (.int ((px &&& (255 : Int32)).toUInt32.toUInt16.toUInt32.toInt32)), .val (.int ((((px.toUInt32 >>> ((8 : Int32) &&& 31).toUInt32).toInt32) &&& (255 : Int32)).toUInt32.toUInt16.toUInt32.toInt32))] [(.ref b2)])) _
      exact retOut X4 hx Bd.returns rfl (Or.inr (Or.inr (Or.inr (Or.inr ⟨rfl, rfl, rfl⟩)))) (hb hby d1_38) hr
    · show Q_mk Z zCS vFM px h0 n0 _ T4.heap T4.vm _
      exact ⟨b2, b4, kb4, (0 : Int32), [], rfl, N4, K4, sz_b2, y4_0, y4_1, y4_2, y4_3, (own_Nm own_N0 (by decide)), ((LS.warm (s := s) hL4 X4.warmed).up hL4.1 (Nat.le_refl _))⟩
  · have R9 : ∀ t, Steps p.tables e below (s₁.setTop (mkF m 41 #[.val (.int px), .val (.int (((px.toUInt32 >>> ((16 : Int32) &&& 31).toUInt32).toInt32) % (3 : Int32))), .val (.int ((px &&& (255 : Int32)).toUInt32.toUInt16.toUInt32.toInt32)), .val (.int ((((px.toUInt32 >>> ((8 : Int32) &&& 31).toUInt32).toInt32) &&& (255 : Int32)).toUInt32.toUInt16.toUInt32.toInt32))] [(.int (1 : Int32)), (.int (((px.toUInt32 >>> ((16 : Int32) &&& 31).toUInt32).toInt32) % (3 : Int32)))])) t → Steps p.tables e below (s₁.setTop (entryFrame m #[(.int px)] 4)) t := by
      intro t k
      refine R1 t ?_
      show Steps p.tables e below (s₁.setTop (mkF m 25 #[.val (.int px), .val (.int (((px.toUInt32 >>> ((16 : Int32) &&& 31).toUInt32).toInt32) % (3 : Int32))), .val (.int ((px &&& (255 : Int32)).toUInt32.toUInt16.toUInt32.toInt32)), .val (.int ((((px.toUInt32 >>> ((8 : Int32) &&& 31).toUInt32).toInt32) &&& (255 : Int32)).toUInt32.toUInt16.toUInt32.toInt32))] [(.int (((px.toUInt32 >>> ((16 : Int32) &&& 31).toUInt32).toInt32) % (3 : Int32)))])) t
      refine XS.ifYes X0.here hx rfl (pc0 := 25) (pc' := 39) rfl (hb hby d1_25) rfl ((if0 _ _).trans (feq (hz0 : ¬ ((((px.toUInt32 >>> ((16 : Int32) &&& 31).toUInt32).toInt32) % (3 : Int32)) = (0 : Int32)))).2) (by decide) (by decide) ?_
      show Steps p.tables e below (s₁.setTop (mkF m 39 #[.val (.int px), .val (.int (((px.toUInt32 >>> ((16 : Int32) &&& 31).toUInt32).toInt32) % (3 : Int32))), .val (.int ((px &&& (255 : Int32)).toUInt32.toUInt16.toUInt32.toInt32)), .val (.int ((((px.toUInt32 >>> ((8 : Int32) &&& 31).toUInt32).toInt32) &&& (255 : Int32)).toUInt32.toUInt16.toUInt32.toInt32))] [])) t
      refine XS.iloadN X0.here hx rfl (hb hby d1_39) rfl ?_
      show Steps p.tables e below (s₁.setTop (mkF m 40 #[.val (.int px), .val (.int (((px.toUInt32 >>> ((16 : Int32) &&& 31).toUInt32).toInt32) % (3 : Int32))), .val (.int ((px &&& (255 : Int32)).toUInt32.toUInt16.toUInt32.toInt32)), .val (.int ((((px.toUInt32 >>> ((8 : Int32) &&& 31).toUInt32).toInt32) &&& (255 : Int32)).toUInt32.toUInt16.toUInt32.toInt32))] [(.int (((px.toUInt32 >>> ((16 : Int32) &&& 31).toUInt32).toInt32) % (3 : Int32)))])) t
      refine XS.iconst X0.here hx rfl (hb hby d1_40) ?_
      exact k
    by_cases hz1 : (((px.toUInt32 >>> ((16 : Int32) &&& 31).toUInt32).toInt32) % (3 : Int32)) = (1 : Int32)
    · obtain ⟨T10, h10, X10, e10, E10, A10, D10, -, st10⟩ := newO X0 hx hZ0 hown0 (hw _ (List.mem_of_getElem? (i := 4) rfl)) (hw _ (List.mem_of_getElem? (i := 5) rfl)) (hw _ (List.mem_of_getElem? (i := 6) rfl)) e0 (g := (mkF m 44 #[.val (.int px), .val (.int (((px.toUInt32 >>> ((16 : Int32) &&& 31).toUInt32).toInt32) % (3 : Int32))), .val (.int ((px &&& (255 : Int32)).toUInt32.toUInt16.toUInt32.toInt32)), .val (.int ((((px.toUInt32 >>> ((8 : Int32) &&& 31).toUInt32).toInt32) &&& (255 : Int32)).toUInt32.toUInt16.toUInt32.toInt32))] [])) rfl (hb hby d1_44) (by decide) (by decide)
      obtain ⟨b10, gg10⟩ : ∃ z, z = h0.size := ⟨_, rfl⟩
      rw [← gg10] at A10 D10 st10
      have g_b10 : n0 ≤ b10 := Nat.le_trans Z0 (Nat.le_of_eq gg10.symm)
      have sz_b10 : h0.size ≤ b10 := Nat.le_trans K0.1 (Nat.le_of_eq gg10.symm)
      have nl_b10 : NN ≤ b10 := Nat.le_trans hL0.1 (Nat.le_of_eq gg10.symm)
      have hL10 := hL0.ext E10
      have Z10 : n0 ≤ h10.size := Nat.le_trans Z0 E10.1
      have K10 : Keep h0 h10 [] := K0.ext E10
      have O10 : Old Z n0 h10 := O0.ext E10
      have hk10 := Nat.le_trans hk0 E10.1
      have F10_value : Fld Z h10 b10 "java/lang/String" "value" "[B" .null := D10 (Or.inr (hw _ (List.mem_of_getElem? (i := 20) rfl))) (ty := (.array .byte)) (by decide)
      have F10_coder : Fld Z h10 b10 "java/lang/String" "coder" "B" (.int (0 : Int32)) := D10 (Or.inr (hw _ (List.mem_of_getElem? (i := 21) rfl))) (ty := .byte) (by decide)
      obtain ⟨T11, h11, k11, X11, e11, E11, A11, st11⟩ := newP X10 hx hZ0 (hw _ (List.mem_of_getElem? (i := 7) rfl)) e10 (g := (mkF m 49 #[.val (.int px), .val (.int (((px.toUInt32 >>> ((16 : Int32) &&& 31).toUInt32).toInt32) % (3 : Int32))), .val (.int ((px &&& (255 : Int32)).toUInt32.toUInt16.toUInt32.toInt32)), .val (.int ((((px.toUInt32 >>> ((8 : Int32) &&& 31).toUInt32).toInt32) &&& (255 : Int32)).toUInt32.toUInt16.toUInt32.toInt32))] [(.int (1 : Int32)), (.ref b10), (.ref b10)])) rfl (hb hby d1_49) rfl (by decide) (cap := 1) (by decide) (by decide) (by decide) (by decide)
      obtain ⟨b11, gg11⟩ : ∃ z, z = h10.size := ⟨_, rfl⟩
      rw [← gg11] at A11 st11
      have ne_b10_b11 : b10 ≠ b11 := Nat.ne_of_lt (Nat.lt_of_lt_of_le A10.lt (Nat.le_of_eq gg11.symm))
      have g_b11 : n0 ≤ b11 := Nat.le_trans Z10 (Nat.le_of_eq gg11.symm)
      have sz_b11 : h0.size ≤ b11 := Nat.le_trans K10.1 (Nat.le_of_eq gg11.symm)
      have nl_b11 : NN ≤ b11 := Nat.le_trans hL10.1 (Nat.le_of_eq gg11.symm)
      have hL11 := hL10.ext E11
      have Z11 : n0 ≤ h11.size := Nat.le_trans Z10 E11.1
      have K11 : Keep h0 h11 [] := K10.ext E11
      have O11 : Old Z n0 h11 := O10.ext E11
      have hk11 := Nat.le_trans hk10 E11.1
      have V11 : Arv Z h11 b11 k11 .char (1 : Int32) [(.int (0 : Int32))] (.int (0 : Int32)) := (Arv.new A11 (by decide)).pad (pad_rep [] (.int (0 : Int32)) 1)
      obtain ⟨cl12, Ar12, q12, S12, M12, H12, G12⟩ := id V11
      have in12 : ¬ ((0 : Int32) < 0 ∨ cl12.slots.size ≤ ((0 : Int32)).toNatClampNeg) := inb_of S12 ⟨by decide, by decide⟩
      obtain ⟨T12, h12, X12, e12, W12, st12⟩ := stC X11 hx hZ0 e11 Ar12 (j := (0 : Int32)) in12 (g := (mkF m 54 #[.val (.int px), .val (.int (((px.toUInt32 >>> ((16 : Int32) &&& 31).toUInt32).toInt32) % (3 : Int32))), .val (.int ((px &&& (255 : Int32)).toUInt32.toUInt16.toUInt32.toInt32)), .val (.int ((((px.toUInt32 >>> ((8 : Int32) &&& 31).toUInt32).toInt32) &&& (255 : Int32)).toUInt32.toUInt16.toUInt32.toInt32))] [(.int ((px &&& (255 : Int32)).toUInt32.toUInt16.toUInt32.toInt32)), (.int (0 : Int32)), (.ref b11), (.ref b11), (.ref b10), (.ref b10)])) rfl rfl (hb hby d1_54)
      have Z12 : n0 ≤ h12.size := Nat.le_trans Z11 (Keep.of_wr W12).1
      have K12 : Keep h0 h12 [] := K11.wr W12 (Or.inr sz_b11)
      have O12 : Old Z n0 h12 := O11.wr W12 g_b11
      have N12 := Fr.snoc X12 N0 g_b11
      have hL12 := hL11.keep (Keep.of_wr W12) (allS nl_b11 all0)
      have hk12 := Nat.le_trans hk11 (Keep.of_wr W12).1
      have V12 : Arv Z h12 b11 k11 .char (1 : Int32) [(.int (nar .char ((px &&& (255 : Int32)).toUInt32.toUInt16.toUInt32.toInt32)))] (.int (0 : Int32)) := Arv.set Ar12 q12 S12 M12 H12 G12 (fits_nar_char _) W12 0 rfl (Nat.le_of_ble_eq_true rfl)
      have f14 : Exa Z h12 b10 "java/lang/String" := ((A10.ext E11).wr W12)
      have f15 : Fld Z h12 b10 "java/lang/String" "value" "[B" .null := ((F10_value.ext E11).other W12 (Or.inl ne_b10_b11))
      have f16 : Fld Z h12 b10 "java/lang/String" "coder" "B" (.int (0 : Int32)) := ((F10_coder.ext E11).other W12 (Or.inl ne_b10_b11))
      have hp13 : ∀ c ∈ ([nar .char ((px &&& (255 : Int32)).toUInt32.toUInt16.toUInt32.toInt32)] : List Int32), ¬ c < 0 ∧ ¬ (255 : Int32) < c := (own_p1 (own_c255 _))
      obtain ⟨_, _, ⟨T13, L13, k13, n13⟩, -, X13, ⟨Lc13, hQ13, cl_13, cy_13, cz_13⟩, st13⟩ := X12.specialBack hx (y := (⟨"java/lang/String", "<init>", "([C)V"⟩ : MethodName)) rfl hown0 (mvT hZ0 (hw _ (List.mem_of_getElem? (i := 8) rfl))) (mvT hZ0 (hw _ (List.mem_of_getElem? (i := 9) rfl))) (mvT hZ0 (hw _ (List.mem_of_getElem? (i := 10) rfl))) (by decide) (StrChars.Road.backV (W := 1) hZ0 (own_words hw) (kI := 4) (hw _ (List.mem_of_getElem? (i := 5) rfl)) (cs := ([nar .char ((px &&& (255 : Int32)).toUInt32.toUInt16.toUInt32.toInt32)] : List Int32)) (bs := ([nar .char ((px &&& (255 : Int32)).toUInt32.toUInt16.toUInt32.toInt32)] : List Int32).map (fun c => c.toInt8.toInt32)) (n := 1) g_b10 Z12 f14 f15 f16 V12 (S_CS.ext O12.2) hCS rfl rfl (by decide) (by decide) hp13 rfl (by decide) (by decide)) (g := (mkF m 55 #[.val (.int px), .val (.int (((px.toUInt32 >>> ((16 : Int32) &&& 31).toUInt32).toInt32) % (3 : Int32))), .val (.int ((px &&& (255 : Int32)).toUInt32.toUInt16.toUInt32.toInt32)), .val (.int ((((px.toUInt32 >>> ((8 : Int32) &&& 31).toUInt32).toInt32) &&& (255 : Int32)).toUInt32.toUInt16.toUInt32.toInt32))] [(.ref b11), (.ref b10), (.ref b10)])) rfl (by rw [hml]; rfl) (Steps.refl _) (a := b10) (argsL := [(.ref b11)]) (rest := [(.ref b10)]) (lenOf pd_17 rfl) rfl (by show 2 * 0 + _ ≤ _; exact Nat.le_of_eq rfl) (hb hby d1_55) (fun _ _ => ⟨rfl, e12, (by decide : 2 + 1 ≤ _), (by decide : 5 + 1 ≤ _)⟩)
      dsimp only [Pt.U, Pt.locs, Pt.cells, Pt.slots] at X13 cl_13 cy_13 cz_13 st13 hQ13
      rw [cl_13, cy_13, cz_13] at X13
      obtain ⟨rfl, N13q, K13q, Es13, Cs13, t13, kb13, gt13, szt13, net13, Vs13, As13⟩ := hQ13
      have N13 := Fr.app N12 N13q
      have ne_b10_t13 : b10 ≠ t13 := Nat.ne_of_lt (Nat.lt_of_lt_of_le f14.lt szt13)
      have ne_b11_t13 : b11 ≠ t13 := Nat.ne_of_lt (Nat.lt_of_lt_of_le V12.lt szt13)
      have g_t13 : n0 ≤ t13 := Nat.le_trans Z12 szt13
      have sz_t13 : h0.size ≤ t13 := Nat.le_trans K12.1 szt13
      have nl_t13 : NN ≤ t13 := Nat.le_trans hL12.1 szt13
      have Z13 : n0 ≤ T13.heap.size := Nat.le_trans Z12 K13q.1
      have K13 : Keep h0 T13.heap [] := K12.trans K13q (allS (Or.inr sz_b10) all0)
      have O13 : Old Z n0 T13.heap := O12.keep K13q (allS g_b10 all0)
      have hL13 := hL12.keep K13q (allS nl_b10 all0)
      have hk13 := Nat.le_trans hk12 K13q.1
      have Vl : Arv Z T13.heap t13 kb13 .byte (1 : Int32) [(.int ((nar .char ((px &&& (255 : Int32)).toUInt32.toUInt16.toUInt32.toInt32)).toInt8.toInt32))] (.int 0) := As13
      have R17 : ∀ t, Steps p.tables e below (T13.setTop (mkF m 58 #[.val (.int px), .val (.int (((px.toUInt32 >>> ((16 : Int32) &&& 31).toUInt32).toInt32) % (3 : Int32))), .val (.int ((px &&& (255 : Int32)).toUInt32.toUInt16.toUInt32.toInt32)), .val (.int ((((px.toUInt32 >>> ((8 : Int32) &&& 31).toUInt32).toInt32) &&& (255 : Int32)).toUInt32.toUInt16.toUInt32.toInt32))] [(.ref b10)])) t → Steps p.tables e below (s₁.setTop (entryFrame m #[(.int px)] 4)) t := by
        intro t k
        refine R9 t ?_
        show Steps p.tables e below (s₁.setTop (mkF m 41 #[.val (.int px), .val (.int (((px.toUInt32 >>> ((16 : Int32) &&& 31).toUInt32).toInt32) % (3 : Int32))), .val (.int ((px &&& (255 : Int32)).toUInt32.toUInt16.toUInt32.toInt32)), .val (.int ((((px.toUInt32 >>> ((8 : Int32) &&& 31).toUInt32).toInt32) &&& (255 : Int32)).toUInt32.toUInt16.toUInt32.toInt32))] [(.int (1 : Int32)), (.int (((px.toUInt32 >>> ((16 : Int32) &&& 31).toUInt32).toInt32) % (3 : Int32)))])) t
        refine XS.icmpNo X0.here hx rfl (hb hby d1_41) rfl (teq (hz1 : (((px.toUInt32 >>> ((16 : Int32) &&& 31).toUInt32).toInt32) % (3 : Int32)) = (1 : Int32))).2 ?_
        show Steps p.tables e below (s₁.setTop (mkF m 44 #[.val (.int px), .val (.int (((px.toUInt32 >>> ((16 : Int32) &&& 31).toUInt32).toInt32) % (3 : Int32))), .val (.int ((px &&& (255 : Int32)).toUInt32.toUInt16.toUInt32.toInt32)), .val (.int ((((px.toUInt32 >>> ((8 : Int32) &&& 31).toUInt32).toInt32) &&& (255 : Int32)).toUInt32.toUInt16.toUInt32.toInt32))] [])) t
        refine st10 _ ?_
        show Steps p.tables e below (T10.setTop (mkF m 47 #[.val (.int px), .val (.int (((px.toUInt32 >>> ((16 : Int32) &&& 31).toUInt32).toInt32) % (3 : Int32))), .val (.int ((px &&& (255 : Int32)).toUInt32.toUInt16.toUInt32.toInt32)), .val (.int ((((px.toUInt32 >>> ((8 : Int32) &&& 31).toUInt32).toInt32) &&& (255 : Int32)).toUInt32.toUInt16.toUInt32.toInt32))] [(.ref b10)])) t
        refine XS.dup X10.here hx rfl (hb hby d1_47) rfl rfl ?_
        show Steps p.tables e below (T10.setTop (mkF m 48 #[.val (.int px), .val (.int (((px.toUInt32 >>> ((16 : Int32) &&& 31).toUInt32).toInt32) % (3 : Int32))), .val (.int ((px &&& (255 : Int32)).toUInt32.toUInt16.toUInt32.toInt32)), .val (.int ((((px.toUInt32 >>> ((8 : Int32) &&& 31).toUInt32).toInt32) &&& (255 : Int32)).toUInt32.toUInt16.toUInt32.toInt32))] [(.ref b10), (.ref b10)])) t
        refine XS.iconst X10.here hx rfl (hb hby d1_48) ?_
        show Steps p.tables e below (T10.setTop (mkF m 49 #[.val (.int px), .val (.int (((px.toUInt32 >>> ((16 : Int32) &&& 31).toUInt32).toInt32) % (3 : Int32))), .val (.int ((px &&& (255 : Int32)).toUInt32.toUInt16.toUInt32.toInt32)), .val (.int ((((px.toUInt32 >>> ((8 : Int32) &&& 31).toUInt32).toInt32) &&& (255 : Int32)).toUInt32.toUInt16.toUInt32.toInt32))] [(.int (1 : Int32)), (.ref b10), (.ref b10)])) t
        refine st11 _ ?_
        show Steps p.tables e below (T11.setTop (mkF m 51 #[.val (.int px), .val (.int (((px.toUInt32 >>> ((16 : Int32) &&& 31).toUInt32).toInt32) % (3 : Int32))), .val (.int ((px &&& (255 : Int32)).toUInt32.toUInt16.toUInt32.toInt32)), .val (.int ((((px.toUInt32 >>> ((8 : Int32) &&& 31).toUInt32).toInt32) &&& (255 : Int32)).toUInt32.toUInt16.toUInt32.toInt32))] [(.ref b11), (.ref b10), (.ref b10)])) t
        refine XS.dup X11.here hx rfl (hb hby d1_51) rfl rfl ?_
        show Steps p.tables e below (T11.setTop (mkF m 52 #[.val (.int px), .val (.int (((px.toUInt32 >>> ((16 : Int32) &&& 31).toUInt32).toInt32) % (3 : Int32))), .val (.int ((px &&& (255 : Int32)).toUInt32.toUInt16.toUInt32.toInt32)), .val (.int ((((px.toUInt32 >>> ((8 : Int32) &&& 31).toUInt32).toInt32) &&& (255 : Int32)).toUInt32.toUInt16.toUInt32.toInt32))] [(.ref b11), (.ref b11), (.ref b10), (.ref b10)])) t
        refine XS.iconst X11.here hx rfl (hb hby d1_52) ?_
        show Steps p.tables e below (T11.setTop (mkF m 53 #[.val (.int px), .val (.int (((px.toUInt32 >>> ((16 : Int32) &&& 31).toUInt32).toInt32) % (3 : Int32))), .val (.int ((px &&& (255 : Int32)).toUInt32.toUInt16.toUInt32.toInt32)), .val (.int ((((px.toUInt32 >>> ((8 : Int32) &&& 31).toUInt32).toInt32) &&& (255 : Int32)).toUInt32.toUInt16.toUInt32.toInt32))] [(.int (0 : Int32)), (.ref b11), (.ref b11), (.ref b10), (.ref b10)])) t
        refine XS.iloadN X11.here hx rfl (hb hby d1_53) rfl ?_
        show Steps p.tables e below (T11.setTop (mkF m 54 #[.val (.int px), .val (.int (((px.toUInt32 >>> ((16 : Int32) &&& 31).toUInt32).toInt32) % (3 : Int32))), .val (.int ((px &&& (255 : Int32)).toUInt32.toUInt16.toUInt32.toInt32)), .val (.int ((((px.toUInt32 >>> ((8 : Int32) &&& 31).toUInt32).toInt32) &&& (255 : Int32)).toUInt32.toUInt16.toUInt32.toInt32))] [(.int ((px &&& (255 : Int32)).toUInt32.toUInt16.toUInt32.toInt32)), (.int (0 : Int32)), (.ref b11), (.ref b11), (.ref b10), (.ref b10)])) t
        refine st12 _ ?_
        show Steps p.tables e below (T12.setTop (mkF m 55 #[.val (.int px), .val (.int (((px.toUInt32 >>> ((16 : Int32) &&& 31).toUInt32).toInt32) % (3 : Int32))), .val (.int ((px &&& (255 : Int32)).toUInt32.toUInt16.toUInt32.toInt32)), .val (.int ((((px.toUInt32 >>> ((8 : Int32) &&& 31).toUInt32).toInt32) &&& (255 : Int32)).toUInt32.toUInt16.toUInt32.toInt32))] [(.ref b11), (.ref b10), (.ref b10)])) t
        refine st13.trans ?_
        exact k
      obtain ⟨fs, hr, hrun, hended, hRW⟩ := X13.leaveW hS0 hk13 (v := some (.ref b10)) (fun h => by rw [Bd.returns] at h; cases h)
      refine ⟨_, _, R17 _ ?_, hrun, hended, _, _, rfl, ?_, hRW.1, hRW.2.1, hRW.2.2.1, hRW.2.2.2.mono (by decide) (by decide)⟩
      · show Steps p.tables e below (T13.setTop (mkF m 58 #[.val (.int px), .val (.int (((px.toUInt32 >>> ((16 : Int32) &&& 31).toUInt32).toInt32) % (3 : Int32))), .val (.int ((px &&& (255 : Int32)).toUInt32.toUInt16.toUInt32.toInt32)), .val (.int ((((px.toUInt32 >>> ((8 : Int32) &&& 31).toUInt32).toInt32) &&& (255 : Int32)).toUInt32.toUInt16.toUInt32.toInt32))] [(.ref b10)])) _
        exact retOut X13 hx Bd.returns rfl (Or.inr (Or.inr (Or.inr (Or.inr ⟨rfl, rfl, rfl⟩)))) (hb hby d1_58) hr
      · show Q_mk Z zCS vFM px h0 n0 _ T13.heap T13.vm _
        exact ⟨b10, t13, kb13, (1 : Int32), [(.int ((nar .char ((px &&& (255 : Int32)).toUInt32.toUInt16.toUInt32.toInt32)).toInt8.toInt32))], rfl, N13, K13, sz_b10, Es13, Cs13, Vs13, Vl, (own_Nm (own_N1 _) (by decide)), ((LS.warm (s := s) hL13 X13.warmed).up hL13.1 (Nat.le_refl _))⟩
    · obtain ⟨T18, h18, X18, e18, E18, A18, D18, -, st18⟩ := newO X0 hx hZ0 hown0 (hw _ (List.mem_of_getElem? (i := 4) rfl)) (hw _ (List.mem_of_getElem? (i := 5) rfl)) (hw _ (List.mem_of_getElem? (i := 6) rfl)) e0 (g := (mkF m 59 #[.val (.int px), .val (.int (((px.toUInt32 >>> ((16 : Int32) &&& 31).toUInt32).toInt32) % (3 : Int32))), .val (.int ((px &&& (255 : Int32)).toUInt32.toUInt16.toUInt32.toInt32)), .val (.int ((((px.toUInt32 >>> ((8 : Int32) &&& 31).toUInt32).toInt32) &&& (255 : Int32)).toUInt32.toUInt16.toUInt32.toInt32))] [])) rfl (hb hby d1_59) (by decide) (by decide)
      obtain ⟨b18, gg18⟩ : ∃ z, z = h0.size := ⟨_, rfl⟩
      rw [← gg18] at A18 D18 st18
      have g_b18 : n0 ≤ b18 := Nat.le_trans Z0 (Nat.le_of_eq gg18.symm)
      have sz_b18 : h0.size ≤ b18 := Nat.le_trans K0.1 (Nat.le_of_eq gg18.symm)
      have nl_b18 : NN ≤ b18 := Nat.le_trans hL0.1 (Nat.le_of_eq gg18.symm)
      have hL18 := hL0.ext E18
      have Z18 : n0 ≤ h18.size := Nat.le_trans Z0 E18.1
      have K18 : Keep h0 h18 [] := K0.ext E18
      have O18 : Old Z n0 h18 := O0.ext E18
      have hk18 := Nat.le_trans hk0 E18.1
      have F18_value : Fld Z h18 b18 "java/lang/String" "value" "[B" .null := D18 (Or.inr (hw _ (List.mem_of_getElem? (i := 20) rfl))) (ty := (.array .byte)) (by decide)
      have F18_coder : Fld Z h18 b18 "java/lang/String" "coder" "B" (.int (0 : Int32)) := D18 (Or.inr (hw _ (List.mem_of_getElem? (i := 21) rfl))) (ty := .byte) (by decide)
      obtain ⟨T19, h19, k19, X19, e19, E19, A19, st19⟩ := newP X18 hx hZ0 (hw _ (List.mem_of_getElem? (i := 7) rfl)) e18 (g := (mkF m 64 #[.val (.int px), .val (.int (((px.toUInt32 >>> ((16 : Int32) &&& 31).toUInt32).toInt32) % (3 : Int32))), .val (.int ((px &&& (255 : Int32)).toUInt32.toUInt16.toUInt32.toInt32)), .val (.int ((((px.toUInt32 >>> ((8 : Int32) &&& 31).toUInt32).toInt32) &&& (255 : Int32)).toUInt32.toUInt16.toUInt32.toInt32))] [(.int (2 : Int32)), (.ref b18), (.ref b18)])) rfl (hb hby d1_64) rfl (by decide) (cap := 2) (by decide) (by decide) (by decide) (by decide)
      obtain ⟨b19, gg19⟩ : ∃ z, z = h18.size := ⟨_, rfl⟩
      rw [← gg19] at A19 st19
      have ne_b18_b19 : b18 ≠ b19 := Nat.ne_of_lt (Nat.lt_of_lt_of_le A18.lt (Nat.le_of_eq gg19.symm))
      have g_b19 : n0 ≤ b19 := Nat.le_trans Z18 (Nat.le_of_eq gg19.symm)
      have sz_b19 : h0.size ≤ b19 := Nat.le_trans K18.1 (Nat.le_of_eq gg19.symm)
      have nl_b19 : NN ≤ b19 := Nat.le_trans hL18.1 (Nat.le_of_eq gg19.symm)
      have hL19 := hL18.ext E19
      have Z19 : n0 ≤ h19.size := Nat.le_trans Z18 E19.1
      have K19 : Keep h0 h19 [] := K18.ext E19
      have O19 : Old Z n0 h19 := O18.ext E19
      have hk19 := Nat.le_trans hk18 E19.1
      have V19 : Arv Z h19 b19 k19 .char (2 : Int32) [(.int (0 : Int32)), (.int (0 : Int32))] (.int (0 : Int32)) := (Arv.new A19 (by decide)).pad (pad_rep [] (.int (0 : Int32)) 2)
      obtain ⟨cl20, Ar20, q20, S20, M20, H20, G20⟩ := id V19
      have in20 : ¬ ((0 : Int32) < 0 ∨ cl20.slots.size ≤ ((0 : Int32)).toNatClampNeg) := inb_of S20 ⟨by decide, by decide⟩
      obtain ⟨T20, h20, X20, e20, W20, st20⟩ := stC X19 hx hZ0 e19 Ar20 (j := (0 : Int32)) in20 (g := (mkF m 69 #[.val (.int px), .val (.int (((px.toUInt32 >>> ((16 : Int32) &&& 31).toUInt32).toInt32) % (3 : Int32))), .val (.int ((px &&& (255 : Int32)).toUInt32.toUInt16.toUInt32.toInt32)), .val (.int ((((px.toUInt32 >>> ((8 : Int32) &&& 31).toUInt32).toInt32) &&& (255 : Int32)).toUInt32.toUInt16.toUInt32.toInt32))] [(.int ((px &&& (255 : Int32)).toUInt32.toUInt16.toUInt32.toInt32)), (.int (0 : Int32)), (.ref b19), (.ref b19), (.ref b18), (.ref b18)])) rfl rfl (hb hby d1_69)
      have Z20 : n0 ≤ h20.size := Nat.le_trans Z19 (Keep.of_wr W20).1
      have K20 : Keep h0 h20 [] := K19.wr W20 (Or.inr sz_b19)
      have O20 : Old Z n0 h20 := O19.wr W20 g_b19
      have N20 := Fr.snoc X20 N0 g_b19
      have hL20 := hL19.keep (Keep.of_wr W20) (allS nl_b19 all0)
      have hk20 := Nat.le_trans hk19 (Keep.of_wr W20).1
      have V20 : Arv Z h20 b19 k19 .char (2 : Int32) [(.int (nar .char ((px &&& (255 : Int32)).toUInt32.toUInt16.toUInt32.toInt32))), (.int (0 : Int32))] (.int (0 : Int32)) := Arv.set Ar20 q20 S20 M20 H20 G20 (fits_nar_char _) W20 0 rfl (Nat.le_of_ble_eq_true rfl)
      obtain ⟨cl21, Ar21, q21, S21, M21, H21, G21⟩ := id V20
      have in21 : ¬ ((1 : Int32) < 0 ∨ cl21.slots.size ≤ ((1 : Int32)).toNatClampNeg) := inb_of S21 ⟨by decide, by decide⟩
      obtain ⟨T21, h21, X21, e21, W21, st21⟩ := stC X20 hx hZ0 e20 Ar21 (j := (1 : Int32)) in21 (g := (mkF m 73 #[.val (.int px), .val (.int (((px.toUInt32 >>> ((16 : Int32) &&& 31).toUInt32).toInt32) % (3 : Int32))), .val (.int ((px &&& (255 : Int32)).toUInt32.toUInt16.toUInt32.toInt32)), .val (.int ((((px.toUInt32 >>> ((8 : Int32) &&& 31).toUInt32).toInt32) &&& (255 : Int32)).toUInt32.toUInt16.toUInt32.toInt32))] [(.int ((((px.toUInt32 >>> ((8 : Int32) &&& 31).toUInt32).toInt32) &&& (255 : Int32)).toUInt32.toUInt16.toUInt32.toInt32)), (.int (1 : Int32)), (.ref b19), (.ref b19), (.ref b18), (.ref b18)])) rfl rfl (hb hby d1_73)
      have Z21 : n0 ≤ h21.size := Nat.le_trans Z20 (Keep.of_wr W21).1
      have K21 : Keep h0 h21 [] := K20.wr W21 (Or.inr sz_b19)
      have O21 : Old Z n0 h21 := O20.wr W21 g_b19
      have N21 := Fr.snoc X21 N20 g_b19
      have hL21 := hL20.keep (Keep.of_wr W21) (allS nl_b19 all0)
      have hk21 := Nat.le_trans hk20 (Keep.of_wr W21).1
      have V21 : Arv Z h21 b19 k19 .char (2 : Int32) [(.int (nar .char ((px &&& (255 : Int32)).toUInt32.toUInt16.toUInt32.toInt32))), (.int (nar .char ((((px.toUInt32 >>> ((8 : Int32) &&& 31).toUInt32).toInt32) &&& (255 : Int32)).toUInt32.toUInt16.toUInt32.toInt32)))] (.int (0 : Int32)) := Arv.set Ar21 q21 S21 M21 H21 G21 (fits_nar_char _) W21 1 rfl (Nat.le_of_ble_eq_true rfl)
      have f23 : Exa Z h21 b18 "java/lang/String" := (((A18.ext E19).wr W20).wr W21)
      have f24 : Fld Z h21 b18 "java/lang/String" "value" "[B" .null := (((F18_value.ext E19).other W20 (Or.inl ne_b18_b19)).other W21 (Or.inl ne_b18_b19))
      have f25 : Fld Z h21 b18 "java/lang/String" "coder" "B" (.int (0 : Int32)) := (((F18_coder.ext E19).other W20 (Or.inl ne_b18_b19)).other W21 (Or.inl ne_b18_b19))
      have hp22 : ∀ c ∈ ([nar .char ((px &&& (255 : Int32)).toUInt32.toUInt16.toUInt32.toInt32), nar .char ((((px.toUInt32 >>> ((8 : Int32) &&& 31).toUInt32).toInt32) &&& (255 : Int32)).toUInt32.toUInt16.toUInt32.toInt32)] : List Int32), ¬ c < 0 ∧ ¬ (255 : Int32) < c := (own_p2 (own_c255 _) (own_p1 (own_c255 _)))
      obtain ⟨_, _, ⟨T22, L22, k22, n22⟩, -, X22, ⟨Lc22, hQ22, cl_22, cy_22, cz_22⟩, st22⟩ := X21.specialBack hx (y := (⟨"java/lang/String", "<init>", "([C)V"⟩ : MethodName)) rfl hown0 (mvT hZ0 (hw _ (List.mem_of_getElem? (i := 8) rfl))) (mvT hZ0 (hw _ (List.mem_of_getElem? (i := 9) rfl))) (mvT hZ0 (hw _ (List.mem_of_getElem? (i := 10) rfl))) (by decide) (StrChars.Road.backV (W := 1) hZ0 (own_words hw) (kI := 4) (hw _ (List.mem_of_getElem? (i := 5) rfl)) (cs := ([nar .char ((px &&& (255 : Int32)).toUInt32.toUInt16.toUInt32.toInt32), nar .char ((((px.toUInt32 >>> ((8 : Int32) &&& 31).toUInt32).toInt32) &&& (255 : Int32)).toUInt32.toUInt16.toUInt32.toInt32)] : List Int32)) (bs := ([nar .char ((px &&& (255 : Int32)).toUInt32.toUInt16.toUInt32.toInt32), nar .char ((((px.toUInt32 >>> ((8 : Int32) &&& 31).toUInt32).toInt32) &&& (255 : Int32)).toUInt32.toUInt16.toUInt32.toInt32)] : List Int32).map (fun c => c.toInt8.toInt32)) (n := 2) g_b18 Z21 f23 f24 f25 V21 (S_CS.ext O21.2) hCS rfl rfl (by decide) (by decide) hp22 rfl (by decide) (by decide)) (g := (mkF m 74 #[.val (.int px), .val (.int (((px.toUInt32 >>> ((16 : Int32) &&& 31).toUInt32).toInt32) % (3 : Int32))), .val (.int ((px &&& (255 : Int32)).toUInt32.toUInt16.toUInt32.toInt32)), .val (.int ((((px.toUInt32 >>> ((8 : Int32) &&& 31).toUInt32).toInt32) &&& (255 : Int32)).toUInt32.toUInt16.toUInt32.toInt32))] [(.ref b19), (.ref b18), (.ref b18)])) rfl (by rw [hml]; rfl) (Steps.refl _) (a := b18) (argsL := [(.ref b19)]) (rest := [(.ref b18)]) (lenOf pd_17 rfl) rfl (by show 2 * 0 + _ ≤ _; exact Nat.le_of_eq rfl) (hb hby d1_74) (fun _ _ => ⟨rfl, e21, (by decide : 2 + 1 ≤ _), (by decide : 6 + 2 ≤ _)⟩)
      dsimp only [Pt.U, Pt.locs, Pt.cells, Pt.slots] at X22 cl_22 cy_22 cz_22 st22 hQ22
      rw [cl_22, cy_22, cz_22] at X22
      obtain ⟨rfl, N22q, K22q, Es22, Cs22, t22, kb22, gt22, szt22, net22, Vs22, As22⟩ := hQ22
      have N22 := Fr.app N21 N22q
      have ne_b18_t22 : b18 ≠ t22 := Nat.ne_of_lt (Nat.lt_of_lt_of_le f23.lt szt22)
      have ne_b19_t22 : b19 ≠ t22 := Nat.ne_of_lt (Nat.lt_of_lt_of_le V21.lt szt22)
      have g_t22 : n0 ≤ t22 := Nat.le_trans Z21 szt22
      have sz_t22 : h0.size ≤ t22 := Nat.le_trans K21.1 szt22
      have nl_t22 : NN ≤ t22 := Nat.le_trans hL21.1 szt22
      have Z22 : n0 ≤ T22.heap.size := Nat.le_trans Z21 K22q.1
      have K22 : Keep h0 T22.heap [] := K21.trans K22q (allS (Or.inr sz_b18) all0)
      have O22 : Old Z n0 T22.heap := O21.keep K22q (allS g_b18 all0)
      have hL22 := hL21.keep K22q (allS nl_b18 all0)
      have hk22 := Nat.le_trans hk21 K22q.1
      have Vl : Arv Z T22.heap t22 kb22 .byte (2 : Int32) [(.int ((nar .char ((px &&& (255 : Int32)).toUInt32.toUInt16.toUInt32.toInt32)).toInt8.toInt32)), (.int ((nar .char ((((px.toUInt32 >>> ((8 : Int32) &&& 31).toUInt32).toInt32) &&& (255 : Int32)).toUInt32.toUInt16.toUInt32.toInt32)).toInt8.toInt32))] (.int 0) := As22
      have R26 : ∀ t, Steps p.tables e below (T22.setTop (mkF m 77 #[.val (.int px), .val (.int (((px.toUInt32 >>> ((16 : Int32) &&& 31).toUInt32).toInt32) % (3 : Int32))), .val (.int ((px &&& (255 : Int32)).toUInt32.toUInt16.toUInt32.toInt32)), .val (.int ((((px.toUInt32 >>> ((8 : Int32) &&& 31).toUInt32).toInt32) &&& (255 : Int32)).toUInt32.toUInt16.toUInt32.toInt32))] [(.ref b18)])) t → Steps p.tables e below (s₁.setTop (entryFrame m #[(.int px)] 4)) t := by
        intro t k
        refine R9 t ?_
        show Steps p.tables e below (s₁.setTop (mkF m 41 #[.val (.int px), .val (.int (((px.toUInt32 >>> ((16 : Int32) &&& 31).toUInt32).toInt32) % (3 : Int32))), .val (.int ((px &&& (255 : Int32)).toUInt32.toUInt16.toUInt32.toInt32)), .val (.int ((((px.toUInt32 >>> ((8 : Int32) &&& 31).toUInt32).toInt32) &&& (255 : Int32)).toUInt32.toUInt16.toUInt32.toInt32))] [(.int (1 : Int32)), (.int (((px.toUInt32 >>> ((16 : Int32) &&& 31).toUInt32).toInt32) % (3 : Int32)))])) t
        refine XS.icmpYes X0.here hx rfl (pc0 := 41) (pc' := 59) rfl (hb hby d1_41) rfl (feq (hz1 : ¬ ((((px.toUInt32 >>> ((16 : Int32) &&& 31).toUInt32).toInt32) % (3 : Int32)) = (1 : Int32)))).2 (by decide) (by decide) ?_
        show Steps p.tables e below (s₁.setTop (mkF m 59 #[.val (.int px), .val (.int (((px.toUInt32 >>> ((16 : Int32) &&& 31).toUInt32).toInt32) % (3 : Int32))), .val (.int ((px &&& (255 : Int32)).toUInt32.toUInt16.toUInt32.toInt32)), .val (.int ((((px.toUInt32 >>> ((8 : Int32) &&& 31).toUInt32).toInt32) &&& (255 : Int32)).toUInt32.toUInt16.toUInt32.toInt32))] [])) t
        refine st18 _ ?_
        show Steps p.tables e below (T18.setTop (mkF m 62 #[.val (.int px), .val (.int (((px.toUInt32 >>> ((16 : Int32) &&& 31).toUInt32).toInt32) % (3 : Int32))), .val (.int ((px &&& (255 : Int32)).toUInt32.toUInt16.toUInt32.toInt32)), .val (.int ((((px.toUInt32 >>> ((8 : Int32) &&& 31).toUInt32).toInt32) &&& (255 : Int32)).toUInt32.toUInt16.toUInt32.toInt32))] [(.ref b18)])) t
        refine XS.dup X18.here hx rfl (hb hby d1_62) rfl rfl ?_
        show Steps p.tables e below (T18.setTop (mkF m 63 #[.val (.int px), .val (.int (((px.toUInt32 >>> ((16 : Int32) &&& 31).toUInt32).toInt32) % (3 : Int32))), .val (.int ((px &&& (255 : Int32)).toUInt32.toUInt16.toUInt32.toInt32)), .val (.int ((((px.toUInt32 >>> ((8 : Int32) &&& 31).toUInt32).toInt32) &&& (255 : Int32)).toUInt32.toUInt16.toUInt32.toInt32))] [(.ref b18), (.ref b18)])) t
        refine XS.iconst X18.here hx rfl (hb hby d1_63) ?_
        show Steps p.tables e below (T18.setTop (mkF m 64 #[.val (.int px), .val (.int (((px.toUInt32 >>> ((16 : Int32) &&& 31).toUInt32).toInt32) % (3 : Int32))), .val (.int ((px &&& (255 : Int32)).toUInt32.toUInt16.toUInt32.toInt32)), .val (.int ((((px.toUInt32 >>> ((8 : Int32) &&& 31).toUInt32).toInt32) &&& (255 : Int32)).toUInt32.toUInt16.toUInt32.toInt32))] [(.int (2 : Int32)), (.ref b18), (.ref b18)])) t
        refine st19 _ ?_
        show Steps p.tables e below (T19.setTop (mkF m 66 #[.val (.int px), .val (.int (((px.toUInt32 >>> ((16 : Int32) &&& 31).toUInt32).toInt32) % (3 : Int32))), .val (.int ((px &&& (255 : Int32)).toUInt32.toUInt16.toUInt32.toInt32)), .val (.int ((((px.toUInt32 >>> ((8 : Int32) &&& 31).toUInt32).toInt32) &&& (255 : Int32)).toUInt32.toUInt16.toUInt32.toInt32))] [(.ref b19), (.ref b18), (.ref b18)])) t
        refine XS.dup X19.here hx rfl (hb hby d1_66) rfl rfl ?_
        show Steps p.tables e below (T19.setTop (mkF m 67 #[.val (.int px), .val (.int (((px.toUInt32 >>> ((16 : Int32) &&& 31).toUInt32).toInt32) % (3 : Int32))), .val (.int ((px &&& (255 : Int32)).toUInt32.toUInt16.toUInt32.toInt32)), .val (.int ((((px.toUInt32 >>> ((8 : Int32) &&& 31).toUInt32).toInt32) &&& (255 : Int32)).toUInt32.toUInt16.toUInt32.toInt32))] [(.ref b19), (.ref b19), (.ref b18), (.ref b18)])) t
        refine XS.iconst X19.here hx rfl (hb hby d1_67) ?_
        show Steps p.tables e below (T19.setTop (mkF m 68 #[.val (.int px), .val (.int (((px.toUInt32 >>> ((16 : Int32) &&& 31).toUInt32).toInt32) % (3 : Int32))), .val (.int ((px &&& (255 : Int32)).toUInt32.toUInt16.toUInt32.toInt32)), .val (.int ((((px.toUInt32 >>> ((8 : Int32) &&& 31).toUInt32).toInt32) &&& (255 : Int32)).toUInt32.toUInt16.toUInt32.toInt32))] [(.int (0 : Int32)), (.ref b19), (.ref b19), (.ref b18), (.ref b18)])) t
        refine XS.iloadN X19.here hx rfl (hb hby d1_68) rfl ?_
        show Steps p.tables e below (T19.setTop (mkF m 69 #[.val (.int px), .val (.int (((px.toUInt32 >>> ((16 : Int32) &&& 31).toUInt32).toInt32) % (3 : Int32))), .val (.int ((px &&& (255 : Int32)).toUInt32.toUInt16.toUInt32.toInt32)), .val (.int ((((px.toUInt32 >>> ((8 : Int32) &&& 31).toUInt32).toInt32) &&& (255 : Int32)).toUInt32.toUInt16.toUInt32.toInt32))] [(.int ((px &&& (255 : Int32)).toUInt32.toUInt16.toUInt32.toInt32)), (.int (0 : Int32)), (.ref b19), (.ref b19), (.ref b18), (.ref b18)])) t
        refine st20 _ ?_
        show Steps p.tables e below (T20.setTop (mkF m 70 #[.val (.int px), .val (.int (((px.toUInt32 >>> ((16 : Int32) &&& 31).toUInt32).toInt32) % (3 : Int32))), .val (.int ((px &&& (255 : Int32)).toUInt32.toUInt16.toUInt32.toInt32)), .val (.int ((((px.toUInt32 >>> ((8 : Int32) &&& 31).toUInt32).toInt32) &&& (255 : Int32)).toUInt32.toUInt16.toUInt32.toInt32))] [(.ref b19), (.ref b18), (.ref b18)])) t
        refine XS.dup X20.here hx rfl (hb hby d1_70) rfl rfl ?_
        show Steps p.tables e below (T20.setTop (mkF m 71 #[.val (.int px), .val (.int (((px.toUInt32 >>> ((16 : Int32) &&& 31).toUInt32).toInt32) % (3 : Int32))), .val (.int ((px &&& (255 : Int32)).toUInt32.toUInt16.toUInt32.toInt32)), .val (.int ((((px.toUInt32 >>> ((8 : Int32) &&& 31).toUInt32).toInt32) &&& (255 : Int32)).toUInt32.toUInt16.toUInt32.toInt32))] [(.ref b19), (.ref b19), (.ref b18), (.ref b18)])) t
        refine XS.iconst X20.here hx rfl (hb hby d1_71) ?_
        show Steps p.tables e below (T20.setTop (mkF m 72 #[.val (.int px), .val (.int (((px.toUInt32 >>> ((16 : Int32) &&& 31).toUInt32).toInt32) % (3 : Int32))), .val (.int ((px &&& (255 : Int32)).toUInt32.toUInt16.toUInt32.toInt32)), .val (.int ((((px.toUInt32 >>> ((8 : Int32) &&& 31).toUInt32).toInt32) &&& (255 : Int32)).toUInt32.toUInt16.toUInt32.toInt32))] [(.int (1 : Int32)), (.ref b19), (.ref b19), (.ref b18), (.ref b18)])) t
        refine XS.iloadN X20.here hx rfl (hb hby d1_72) rfl ?_
        show Steps p.tables e below (T20.setTop (mkF m 73 #[.val (.int px), .val (.int (((px.toUInt32 >>> ((16 : Int32) &&& 31).toUInt32).toInt32) % (3 : Int32))), .val (.int ((px &&& (255 : Int32)).toUInt32.toUInt16.toUInt32.toInt32)), .val (.int ((((px.toUInt32 >>> ((8 : Int32) &&& 31).toUInt32).toInt32) &&& (255 : Int32)).toUInt32.toUInt16.toUInt32.toInt32))] [(.int ((((px.toUInt32 >>> ((8 : Int32) &&& 31).toUInt32).toInt32) &&& (255 : Int32)).toUInt32.toUInt16.toUInt32.toInt32)), (.int (1 : Int32)), (.ref b19), (.ref b19), (.ref b18), (.ref b18)])) t
        refine st21 _ ?_
        show Steps p.tables e below (T21.setTop (mkF m 74 #[.val (.int px), .val (.int (((px.toUInt32 >>> ((16 : Int32) &&& 31).toUInt32).toInt32) % (3 : Int32))), .val (.int ((px &&& (255 : Int32)).toUInt32.toUInt16.toUInt32.toInt32)), .val (.int ((((px.toUInt32 >>> ((8 : Int32) &&& 31).toUInt32).toInt32) &&& (255 : Int32)).toUInt32.toUInt16.toUInt32.toInt32))] [(.ref b19), (.ref b18), (.ref b18)])) t
        refine st22.trans ?_
        exact k
      obtain ⟨fs, hr, hrun, hended, hRW⟩ := X22.leaveW hS0 hk22 (v := some (.ref b18)) (fun h => by rw [Bd.returns] at h; cases h)
      refine ⟨_, _, R26 _ ?_, hrun, hended, _, _, rfl, ?_, hRW.1, hRW.2.1, hRW.2.2.1, hRW.2.2.2.mono (by decide) (by decide)⟩
      · show Steps p.tables e below (T22.setTop (mkF m 77 #[.val (.int px), .val (.int (((px.toUInt32 >>> ((16 : Int32) &&& 31).toUInt32).toInt32) % (3 : Int32))), .val (.int ((px &&& (255 : Int32)).toUInt32.toUInt16.toUInt32.toInt32)), .val (.int ((((px.toUInt32 >>> ((8 : Int32) &&& 31).toUInt32).toInt32) &&& (255 : Int32)).toUInt32.toUInt16.toUInt32.toInt32))] [(.ref b18)])) _
        exact retOut X22 hx Bd.returns rfl (Or.inr (Or.inr (Or.inr (Or.inr ⟨rfl, rfl, rfl⟩)))) (hb hby d1_77) hr
      · show Q_mk Z zCS vFM px h0 n0 _ T22.heap T22.vm _
        exact ⟨b18, t22, kb22, (2 : Int32), [(.int ((nar .char ((px &&& (255 : Int32)).toUInt32.toUInt16.toUInt32.toInt32)).toInt8.toInt32)), (.int ((nar .char ((((px.toUInt32 >>> ((8 : Int32) &&& 31).toUInt32).toInt32) &&& (255 : Int32)).toUInt32.toUInt16.toUInt32.toInt32)).toInt8.toInt32))], rfl, N22, K22, sz_b18, Es22, Cs22, Vs22, Vl, (own_N2 _ _), ((LS.warm (s := s) hL22 X22.warmed).up hL22.1 (Nat.le_refl _))⟩
theorem d6_0 : decode jdk_31_method_11_code 0 = .ok (.aload_n 0, 1) := by decide +kernel
theorem d6_1 : decode jdk_31_method_11_code 1 = .ok (.ifnonnull 12, 3) := by decide +kernel
theorem d6_13 : decode jdk_31_method_11_code 13 = .ok (.aload_n 0, 1) := by decide +kernel
theorem d6_14 : decode jdk_31_method_11_code 14 = .ok (.areturn, 1) := by decide +kernel
theorem pn_java_util_Objects : plainName "java/util/Objects" = true := by first | (simp [plainName, overriddenIn]; done) | decide +kernel
theorem ef_rnn (m : MethodId) (a : Addr) (mm : Addr) : entryFrame m #[(.ref a), (.ref mm)] 2 = mkF m 0 #[.val (.ref a), .val (.ref mm)] [] := by first | (simp [entryFrame, mkF, argsToLocals, Value.category]; done) | rfl
def Q_rnn (Z : State) (zCS : Int32) (vFM : Value) (a : Addr) (mm : Addr) (h0 : Heap) (n0 : Nat) (vv_ : Option Value) (hh_ : Heap) (LL_ : List Loc) : Prop := vv_ = some (.ref a) ∧ (Fr n0 LL_) ∧ (hh_ = h0)
set_option maxRecDepth 65536 in
set_option maxHeartbeats 40000000 in
theorem rnn (l : Launch) (Z : State) (a0 : Array Value) (hw : ∀ d ∈ tables_1, d.before a0 Z = true) (ws : List Jvm.Cond) (zCS : Int32) (vFM : Value) (a : Addr) (mm : Addr) (h0 : Heap) (n0 : Nat) (O0 : Old Z n0 h0) (S_CS : Sta Z Z.heap "java/lang/String" "COMPACT_STRINGS" "Z" (.int zCS)) (hCS : ¬ (zCS = (0 : Int32))) (hcT0 : Jvm.Lit.constHeld Z "com/example/relayout/relayout/plan/Transfer" 7) (hcT1 : Jvm.Lit.constHeld Z "com/example/relayout/relayout/plan/Transfer" 22) (hcT2 : Jvm.Lit.constHeld Z "com/example/relayout/relayout/plan/Transfer" 26) (hcT3 : Jvm.Lit.constHeld Z "com/example/relayout/relayout/plan/Transfer" 45) (hcT4 : Jvm.Lit.constHeld Z "com/example/relayout/relayout/plan/Transfer" 47) (hcH : Jvm.Lit.constHeld Z "java/lang/String" 7) (hcW : Jvm.Lit.compactW.before a0 Z = true) (S_FM : Sta Z Z.heap "jdk/internal/util/Preconditions" "SIOOBE_FORMATTER" "Ljava/util/function/BiFunction;" vFM) (rFM : vFM.isRef = true) :
    MetFree l (⟨"java/util/Objects", "requireNonNull", "(Ljava/lang/Object;Ljava/lang/String;)Ljava/lang/Object;"⟩ : MethodName) (head1 (Jvm.Cond.code (⟨"java/util/Objects", "requireNonNull", "(Ljava/lang/Object;Ljava/lang/String;)Ljava/lang/Object;"⟩ : MethodName) jdk_31_method_11_code 2 (some (.object "java/lang/Object")) :: ws) ({ frames := 0, cells := 0, slots := 0, locals := 0 } : Room)) (fun aa_ U_ => aa_ = #[(.ref a), (.ref mm)] ∧ Z.Warmed39 U_.vm ∧ U_.heap = h0) (fun _ _ _ _ _ => True) (fun _ U_ oo_ V_ => ∃ vv_ LL_, oo_ = .returned vv_ ∧ Q_rnn Z zCS vFM a mm h0 n0 vv_ V_.heap LL_ ∧ FrameEnd U_ oo_ V_ LL_ ({ frames := 0, cells := 0, slots := 0, locals := 0 } : Room).cells ({ frames := 0, cells := 0, slots := 0, locals := 0 } : Room).slots) := by
  refine MetFree.of_bodySF (plainFor_of_name pn_java_util_Objects) hisR ?_
  intro p e s m args below meth c s₁ Bd hml0 hP hK
  obtain ⟨rfl, hZ, hh⟩ := hP
  have hx := Bd.exec
  have hby := Bd.bytes
  have hml : c.maxLocals = 2 := hml0
  have hown : s.vm.findClass "java/util/Objects" = some m.cls := findClass_of_methodNamed Bd.named
  have hnm := (name_of_methodNamed Bd.named Bd.method).1
  have X0 : Stand p l e ({ frames := 0, cells := 0, slots := 0, locals := 0 } : Room) s m #[(.ref a), (.ref mm)] below meth c s₁ [] 0 0 := Stand.of_body Bd
  have e0 : s₁.heap = h0 := by rw [← hh, Bd.state]; rfl
  have N0 := Fr.nil n0
  have Z0 : n0 ≤ h0.size := O0.1 ▸ O0.2.1
  have hk0 := Nat.zero_le h0.size
  have K0 : Keep h0 h0 [] := Keep.refl _ _
  have R0 : ∀ t, Steps p.tables e below (s₁.setTop (mkF m 0 #[.val (.ref a), .val (.ref mm)] [])) t → Steps p.tables e below (s₁.setTop (entryFrame m #[(.ref a), (.ref mm)] 2)) t := fun t k => castTop (ef_rnn m a mm) k
  have R1 : ∀ t, Steps p.tables e below (s₁.setTop (mkF m 14 #[.val (.ref a), .val (.ref mm)] [(.ref a)])) t → Steps p.tables e below (s₁.setTop (entryFrame m #[(.ref a), (.ref mm)] 2)) t := by
    intro t k
    refine R0 t ?_
    show Steps p.tables e below (s₁.setTop (mkF m 0 #[.val (.ref a), .val (.ref mm)] [])) t
    refine XS.aloadN X0.here hx rfl (hb hby d6_0) rfl rfl ?_
    show Steps p.tables e below (s₁.setTop (mkF m 1 #[.val (.ref a), .val (.ref mm)] [(.ref a)])) t
    refine XS.ifnonnullYes X0.here hx rfl (pc0 := 1) (pc' := 13) rfl (hb hby d6_1) rfl (by decide) (by decide) ?_
    show Steps p.tables e below (s₁.setTop (mkF m 13 #[.val (.ref a), .val (.ref mm)] [])) t
    refine XS.aloadN X0.here hx rfl (hb hby d6_13) rfl rfl ?_
    exact k
  obtain ⟨fs, hr, hrun, hended, hW, hsame⟩ := X0.leave (v := some (.ref a)) (fun h => by rw [Bd.returns] at h; cases h)
  refine ⟨_, _, R1 _ ?_, hrun, hended, _, _, rfl, ?_, ⟨_, rfl⟩, hW, hsame.mono (by decide) (by decide)⟩
  · show Steps p.tables e below (s₁.setTop (mkF m 14 #[.val (.ref a), .val (.ref mm)] [(.ref a)])) _
    exact retOut X0 hx Bd.returns rfl (Or.inr (Or.inr (Or.inr (Or.inr ⟨rfl, rfl, rfl⟩)))) (hb hby d6_14) hr
  · show Q_rnn Z zCS vFM a mm h0 n0 _ s₁.heap _
    rw [e0]
    exact ⟨rfl, N0, rfl⟩
theorem d5_0 : decode prog_11_method_1_code 0 = .ok (.aload_n 0, 1) := by decide +kernel
theorem d5_1 : decode prog_11_method_1_code 1 = .ok (.invokespecial 1, 3) := by decide +kernel
theorem d5_4 : decode prog_11_method_1_code 4 = .ok (.aload_n 0, 1) := by decide +kernel
theorem d5_5 : decode prog_11_method_1_code 5 = .ok (.aload_n 1, 1) := by decide +kernel
theorem d5_6 : decode prog_11_method_1_code 6 = .ok (.ldc 7, 2) := by decide +kernel
theorem pd_18 : parseMethodDescriptor "(Ljava/lang/Object;Ljava/lang/String;)Ljava/lang/Object;" = some ⟨[(.object "java/lang/Object"), (.object "java/lang/String")], some (.object "java/lang/Object")⟩ := by decide +kernel
theorem d5_8 : decode prog_11_method_1_code 8 = .ok (.invokestatic 9, 3) := by decide +kernel
theorem d5_11 : decode prog_11_method_1_code 11 = .ok (.checkcast 15, 3) := by decide +kernel
theorem d5_14 : decode prog_11_method_1_code 14 = .ok (.putfield 17, 3) := by decide +kernel
theorem d5_17 : decode prog_11_method_1_code 17 = .ok (.aload_n 0, 1) := by decide +kernel
theorem d5_18 : decode prog_11_method_1_code 18 = .ok (.aload_n 2, 1) := by decide +kernel
theorem d5_19 : decode prog_11_method_1_code 19 = .ok (.ldc 22, 2) := by decide +kernel
theorem d5_21 : decode prog_11_method_1_code 21 = .ok (.invokestatic 9, 3) := by decide +kernel
theorem d5_24 : decode prog_11_method_1_code 24 = .ok (.checkcast 15, 3) := by decide +kernel
theorem d5_27 : decode prog_11_method_1_code 27 = .ok (.putfield 24, 3) := by decide +kernel
theorem d5_30 : decode prog_11_method_1_code 30 = .ok (.aload_n 0, 1) := by decide +kernel
theorem d5_31 : decode prog_11_method_1_code 31 = .ok (.aload_n 3, 1) := by decide +kernel
theorem d5_32 : decode prog_11_method_1_code 32 = .ok (.ldc 26, 2) := by decide +kernel
theorem d5_34 : decode prog_11_method_1_code 34 = .ok (.invokestatic 9, 3) := by decide +kernel
theorem d5_37 : decode prog_11_method_1_code 37 = .ok (.checkcast 15, 3) := by decide +kernel
theorem d5_40 : decode prog_11_method_1_code 40 = .ok (.putfield 28, 3) := by decide +kernel
theorem d5_43 : decode prog_11_method_1_code 43 = .ok (.return_, 1) := by decide +kernel
theorem pn_com_example_relayout_relayout_plan_Transfer : plainName "com/example/relayout/relayout/plan/Transfer" = true := by first | (simp [plainName, overriddenIn]; done) | decide +kernel
theorem ef_tinit (m : MethodId) (a : Addr) (sA : Addr) (sB : Addr) (sC : Addr) (u1 : Value) (u2 : Value) (u3 : Value) : entryFrame m #[(.ref a), (.ref sA), (.ref sB), (.ref sC)] 4 = mkF m 0 #[.val (.ref a), .val (.ref sA), .val (.ref sB), .val (.ref sC)] [] := by first | (simp [entryFrame, mkF, argsToLocals, Value.category]; done) | rfl
def Q_tinit (Z : State) (zCS : Int32) (vFM : Value) (a : Addr) (sA : Addr) (sB : Addr) (sC : Addr) (u1 : Value) (u2 : Value) (u3 : Value) (h0 : Heap) (n0 : Nat) (vv_ : Option Value) (hh_ : Heap) (vm_ : Vm) (LL_ : List Loc) : Prop := vv_ = none ∧ (Fr n0 LL_) ∧ (Keep h0 hh_ [a]) ∧ (Exa Z hh_ a "com/example/relayout/relayout/plan/Transfer") ∧ (Fld Z hh_ a "com/example/relayout/relayout/plan/Transfer" "item" "Ljava/lang/String;" (.ref sA)) ∧ (Fld Z hh_ a "com/example/relayout/relayout/plan/Transfer" "from" "Ljava/lang/String;" (.ref sB)) ∧ (Fld Z hh_ a "com/example/relayout/relayout/plan/Transfer" "to" "Ljava/lang/String;" (.ref sC)) ∧ (LS Z "java/lang/String" 7 ("to" :: ("from" :: ("item" :: []))) vm_ hh_ hh_.size)
set_option maxRecDepth 65536 in
set_option maxHeartbeats 40000000 in
theorem tinit (l : Launch) (Z : State) (a0 : Array Value) (hw : ∀ d ∈ tables_1, d.before a0 Z = true) (ws : List Jvm.Cond) (zCS : Int32) (vFM : Value) (a : Addr) (sA : Addr) (sB : Addr) (sC : Addr) (u1 : Value) (u2 : Value) (u3 : Value) (NN : Nat) (h0 : Heap) (n0 : Nat) (O0 : Old Z n0 h0) (S_CS : Sta Z Z.heap "java/lang/String" "COMPACT_STRINGS" "Z" (.int zCS)) (hCS : ¬ (zCS = (0 : Int32))) (hcT0 : Jvm.Lit.constHeld Z "com/example/relayout/relayout/plan/Transfer" 7) (hcT1 : Jvm.Lit.constHeld Z "com/example/relayout/relayout/plan/Transfer" 22) (hcT2 : Jvm.Lit.constHeld Z "com/example/relayout/relayout/plan/Transfer" 26) (hcT3 : Jvm.Lit.constHeld Z "com/example/relayout/relayout/plan/Transfer" 45) (hcT4 : Jvm.Lit.constHeld Z "com/example/relayout/relayout/plan/Transfer" 47) (hcH : Jvm.Lit.constHeld Z "java/lang/String" 7) (hcW : Jvm.Lit.compactW.before a0 Z = true) (S_FM : Sta Z Z.heap "jdk/internal/util/Preconditions" "SIOOBE_FORMATTER" "Ljava/util/function/BiFunction;" vFM) (rFM : vFM.isRef = true) (g_a : n0 ≤ a) (Ea : Exa Z h0 a "com/example/relayout/relayout/plan/Transfer") (Fu0 : Fld Z h0 a "com/example/relayout/relayout/plan/Transfer" "item" "Ljava/lang/String;" u1) (Fu1 : Fld Z h0 a "com/example/relayout/relayout/plan/Transfer" "from" "Ljava/lang/String;" u2) (Fu2 : Fld Z h0 a "com/example/relayout/relayout/plan/Transfer" "to" "Ljava/lang/String;" u3) (EsA : Exa Z h0 sA "java/lang/String") (EsB : Exa Z h0 sB "java/lang/String") (EsC : Exa Z h0 sC "java/lang/String") :
    MetFree l (⟨"com/example/relayout/relayout/plan/Transfer", "<init>", "(Ljava/lang/String;Ljava/lang/String;Ljava/lang/String;)V"⟩ : MethodName) (head1 (Jvm.Cond.code (⟨"com/example/relayout/relayout/plan/Transfer", "<init>", "(Ljava/lang/String;Ljava/lang/String;Ljava/lang/String;)V"⟩ : MethodName) prog_11_method_1_code 4 none :: ws) ({ frames := 1, cells := 6, slots := 52, locals := 14 } : Room)) (fun aa_ U_ => aa_ = #[(.ref a), (.ref sA), (.ref sB), (.ref sC)] ∧ (Z.Warmed39 U_.vm ∧ LS Z "java/lang/String" 7 [] U_.vm h0 NN) ∧ U_.heap = h0) (fun _ _ _ _ _ => True) (fun _ U_ oo_ V_ => ∃ vv_ LL_, oo_ = .returned vv_ ∧ Q_tinit Z zCS vFM a sA sB sC u1 u2 u3 h0 n0 vv_ V_.heap V_.vm LL_ ∧ ReturnedEndW U_ oo_ V_ LL_ ({ frames := 1, cells := 6, slots := 52, locals := 14 } : Room).cells ({ frames := 1, cells := 6, slots := 52, locals := 14 } : Room).slots) := by
  refine MetFree.of_bodySF (plainFor_of_name pn_com_example_relayout_relayout_plan_Transfer) hisR ?_
  intro p e s m args below meth c s₁ Bd hml0 hP hK
  obtain ⟨rfl, ⟨hZ, hL0⟩, hh⟩ := hP
  have hx := Bd.exec
  have hby := Bd.bytes
  have hml : c.maxLocals = 4 := hml0
  have hown : s.vm.findClass "com/example/relayout/relayout/plan/Transfer" = some m.cls := findClass_of_methodNamed Bd.named
  have hnm := (name_of_methodNamed Bd.named Bd.method).1
  have hZ0 : Z.Warmed39 (s.setVm s.vm).vm := hZ
  have hown0 : (s.setVm s.vm).vm.findClass "com/example/relayout/relayout/plan/Transfer" = some m.cls := hown
  have hS0 : s.Since s.vm 0 := ⟨State.Warmed39.refl s, fun j p h1 h2 => absurd (Array.getElem?_eq_some_iff.mp h2).1 (Nat.not_lt.mpr h1)⟩
  have X0 : Stand p l e ({ frames := 1, cells := 6, slots := 52, locals := 14 } : Room) (s.setVm s.vm) m #[(.ref a), (.ref sA), (.ref sB), (.ref sC)] below meth c s₁ [] 0 0 := Stand.of_body Bd
  have e0 : s₁.heap = h0 := by rw [← hh, Bd.state]; rfl
  have N0 := Fr.nil n0
  have Z0 : n0 ≤ h0.size := O0.1 ▸ O0.2.1
  have hk0 := Nat.zero_le h0.size
  have K0 : Keep h0 h0 [a] := Keep.refl _ _
  have R0 : ∀ t, Steps p.tables e below (s₁.setTop (mkF m 0 #[.val (.ref a), .val (.ref sA), .val (.ref sB), .val (.ref sC)] [])) t → Steps p.tables e below (s₁.setTop (entryFrame m #[(.ref a), (.ref sA), (.ref sB), (.ref sC)] 4)) t := fun t k => castTop (ef_tinit m a sA sB sC u1 u2 u3) k
  obtain ⟨T1, X1, e1, st1⟩ := initO X0 hx hZ0 hown0 (hw _ (List.mem_of_getElem? (i := 32) rfl)) (hw _ (List.mem_of_getElem? (i := 16) rfl)) (hw _ (List.mem_of_getElem? (i := 17) rfl)) e0 (g := (mkF m 1 #[.val (.ref a), .val (.ref sA), .val (.ref sB), .val (.ref sC)] [(.ref a)])) rfl (by rw [hml]; rfl) rfl (hb hby d5_1) (by decide) (W := 0) (by show 2 * 0 + _ ≤ _; exact Nat.le_of_eq rfl) (by decide)
  obtain ⟨a2, T2, h2, k2, b2, kb2, X2, e2, E2, hS2, hk2, hZ2, hown2, Ea2, Ca2, Va2, Aa2, hL2, st2⟩ := own_ldcT X1 hx hZ0 hown0 (hw _ (List.mem_of_getElem? (i := 33) rfl)) (own_sat hw) e1 hS0 hk0 (fun b cl q => O0.2.2 b cl q) hL0 (by decide) (by decide) hcT0 hcW (vs := [(.int (105 : Int32)), (.int (116 : Int32)), (.int (101 : Int32)), (.int (109 : Int32))]) (z := (4 : Int32)) ⟨by decide, by decide⟩ (by decide) (by decide) (g := (mkF m 6 #[.val (.ref a), .val (.ref sA), .val (.ref sB), .val (.ref sC)] [(.ref sA), (.ref a)])) rfl (hb hby d5_6) (n := 16) (by decide) (by decide) (by decide) (by decide)
  have Z2 : n0 ≤ h2.size := Nat.le_trans Z0 E2.1
  have K2 : Keep h0 h2 [a] := K0.ext E2
  have O2 : Old Z n0 h2 := O0.ext E2
  obtain ⟨_, _, ⟨T3, L3, k3, n3⟩, -, X3, ⟨Lc3, hQ3, cl_3, cy_3, cz_3⟩, st3⟩ := Jvm.LawKit.callS X2 hx (y := (⟨"java/util/Objects", "requireNonNull", "(Ljava/lang/Object;Ljava/lang/String;)Ljava/lang/Object;"⟩ : MethodName)) hown2 (mvT hZ2 (hw _ (List.mem_of_getElem? (i := 34) rfl))) (mvT hZ2 (hw _ (List.mem_of_getElem? (i := 35) rfl))) (mvT hZ2 (hw _ (List.mem_of_getElem? (i := 36) rfl))) (mvT hZ2 (hw _ (List.mem_of_getElem? (i := 37) rfl))) (by decide) (backOf (W := 1) (rnn l Z a0 hw [] zCS vFM sA a2 h2 n0 O2 S_CS hCS hcT0 hcT1 hcT2 hcT3 hcT4 hcH hcW S_FM rFM   ) hZ2 (hw _ (List.mem_of_getElem? (i := 37) rfl)) (hw _ (List.mem_of_getElem? (i := 36) rfl)) (by decide) (by decide)) (g := (mkF m 8 #[.val (.ref a), .val (.ref sA), .val (.ref sB), .val (.ref sC)] [(.ref a2), (.ref sA), (.ref a)])) rfl (by rw [hml]; rfl) (argsL := [(.ref sA), (.ref a2)]) (rest := [(.ref a)]) (lenOf pd_18 rfl) rfl (by show 2 * 0 + _ ≤ _; exact Nat.le_of_eq rfl) (hb hby d5_8) (fun _ _ => ⟨rfl, e2, (by decide : 2 + 0 ≤ _), (by decide : 20 + 0 ≤ _)⟩)
  dsimp only [Pt.U, Pt.locs, Pt.cells, Pt.slots] at X3 cl_3 cy_3 cz_3 st3 hQ3
  rw [cl_3, cy_3, cz_3] at X3
  obtain ⟨rfl, N3q, e3⟩ := hQ3
  have N3 := Fr.app N0 N3q
  have f5 : Exa Z h2 sA "java/lang/String" := (EsA.ext E2)
  obtain ⟨T4, X4, e4, st4⟩ := castY X3 hx hZ2 hown2 (hw _ (List.mem_of_getElem? (i := 38) rfl)) e3 (Ins.self f5) (g := (mkF m 11 #[.val (.ref a), .val (.ref sA), .val (.ref sB), .val (.ref sC)] [(.ref sA), (.ref a)])) rfl rfl (hb hby d5_11)
  have f7 : Exa Z h2 a "com/example/relayout/relayout/plan/Transfer" := (Ea.ext E2)
  have f8 : Fld Z h2 a "com/example/relayout/relayout/plan/Transfer" "item" "Ljava/lang/String;" u1 := (Fu0.ext E2)
  obtain ⟨T6, h6, X6, e6, W6, st6⟩ := putF X4 hx hZ2 hown2 (host := "") (Or.inl (hw _ (List.mem_of_getElem? (i := 39) rfl))) Via.refl e4 f8 f7 (Or.inr ⟨(hw _ (List.mem_of_getElem? (i := 40) rfl)), rfl, hnm⟩) (hw _ (List.mem_of_getElem? (i := 27) rfl)) (ty := (.object "java/lang/String")) (by decide) rfl rfl (g := (mkF m 14 #[.val (.ref a), .val (.ref sA), .val (.ref sB), .val (.ref sC)] [(.ref sA), (.ref a)])) rfl rfl (hb hby d5_14)
  have ne_sA_a : sA ≠ a := ne_exa f5 f7 (by decide)
  have f9 : Exa Z h2 sB "java/lang/String" := (EsB.ext E2)
  have ne_sB_a : sB ≠ a := ne_exa f9 f7 (by decide)
  have f10 : Exa Z h2 sC "java/lang/String" := (EsC.ext E2)
  have ne_sC_a : sC ≠ a := ne_exa f10 f7 (by decide)
  have ne_a2_a : a2 ≠ a := ne_exa Ea2 f7 (by decide)
  have ne_a_b2 : a ≠ b2 := f7.neArv Aa2 (hw _ (List.mem_of_getElem? (i := 27) rfl))
  have Z6 : n0 ≤ h6.size := Nat.le_trans Z2 (Keep.of_wr W6).1
  have K6 : Keep h0 h6 [a] := K2.wr W6 (Or.inl (List.mem_of_getElem? (i := 0) rfl))
  have O6 : Old Z n0 h6 := O2.wr W6 g_a
  have N6 := Fr.snoc X6 N3 g_a
  have hL6 := hL2.keepC (Keep.of_wr W6) f7 (by decide) (hw _ (List.mem_of_getElem? (i := 27) rfl))
  have hk6 := Nat.le_trans hk2 (Keep.of_wr W6).1
  have fw6 : Fld Z h6 a "com/example/relayout/relayout/plan/Transfer" "item" "Ljava/lang/String;" (.ref sA) := f8.same W6
  obtain ⟨a11, T11, h11, k11, b11, kb11, X11, e11, E11, hS11, hk11, hZ11, hown11, Ea11, Ca11, Va11, Aa11, hL11, st11⟩ := own_ldcT X6 hx hZ2 hown2 (hw _ (List.mem_of_getElem? (i := 41) rfl)) (own_sat hw) e6 hS2 hk6 (fun b cl q => O6.2.2 b cl q) hL6 (by decide) (by decide) hcT1 hcW (vs := [(.int (102 : Int32)), (.int (114 : Int32)), (.int (111 : Int32)), (.int (109 : Int32))]) (z := (4 : Int32)) ⟨by decide, by decide⟩ (by decide) (by decide) (g := (mkF m 19 #[.val (.ref a), .val (.ref sA), .val (.ref sB), .val (.ref sC)] [(.ref sB), (.ref a)])) rfl (hb hby d5_19) (n := 16) (by decide) (by decide) (by decide) (by decide)
  have Z11 : n0 ≤ h11.size := Nat.le_trans Z6 E11.1
  have K11 : Keep h0 h11 [a] := K6.ext E11
  have O11 : Old Z n0 h11 := O6.ext E11
  obtain ⟨_, _, ⟨T12, L12, k12, n12⟩, -, X12, ⟨Lc12, hQ12, cl_12, cy_12, cz_12⟩, st12⟩ := Jvm.LawKit.callS X11 hx (y := (⟨"java/util/Objects", "requireNonNull", "(Ljava/lang/Object;Ljava/lang/String;)Ljava/lang/Object;"⟩ : MethodName)) hown11 (mvT hZ11 (hw _ (List.mem_of_getElem? (i := 34) rfl))) (mvT hZ11 (hw _ (List.mem_of_getElem? (i := 35) rfl))) (mvT hZ11 (hw _ (List.mem_of_getElem? (i := 36) rfl))) (mvT hZ11 (hw _ (List.mem_of_getElem? (i := 37) rfl))) (by decide) (backOf (W := 1) (rnn l Z a0 hw [] zCS vFM sB a11 h11 n0 O11 S_CS hCS hcT0 hcT1 hcT2 hcT3 hcT4 hcH hcW S_FM rFM   ) hZ11 (hw _ (List.mem_of_getElem? (i := 37) rfl)) (hw _ (List.mem_of_getElem? (i := 36) rfl)) (by decide) (by decide)) (g := (mkF m 21 #[.val (.ref a), .val (.ref sA), .val (.ref sB), .val (.ref sC)] [(.ref a11), (.ref sB), (.ref a)])) rfl (by rw [hml]; rfl) (argsL := [(.ref sB), (.ref a11)]) (rest := [(.ref a)]) (lenOf pd_18 rfl) rfl (by show 2 * 0 + _ ≤ _; exact Nat.le_of_eq rfl) (hb hby d5_21) (fun _ _ => ⟨rfl, e11, (by decide : 4 + 0 ≤ _), (by decide : 40 + 0 ≤ _)⟩)
  dsimp only [Pt.U, Pt.locs, Pt.cells, Pt.slots] at X12 cl_12 cy_12 cz_12 st12 hQ12
  rw [cl_12, cy_12, cz_12] at X12
  obtain ⟨rfl, N12q, e12⟩ := hQ12
  have N12 := Fr.app N6 N12q
  have f14 : Exa Z h11 sB "java/lang/String" := ((f9.wr W6).ext E11)
  obtain ⟨T13, X13, e13, st13⟩ := castY X12 hx hZ11 hown11 (hw _ (List.mem_of_getElem? (i := 38) rfl)) e12 (Ins.self f14) (g := (mkF m 24 #[.val (.ref a), .val (.ref sA), .val (.ref sB), .val (.ref sC)] [(.ref sB), (.ref a)])) rfl rfl (hb hby d5_24)
  have f16 : Exa Z h11 a "com/example/relayout/relayout/plan/Transfer" := ((f7.wr W6).ext E11)
  have f17 : Fld Z h11 a "com/example/relayout/relayout/plan/Transfer" "from" "Ljava/lang/String;" u2 := (((Fu1.ext E2).other W6 (Or.inr (slot_ne (Or.inr (hw _ (List.mem_of_getElem? (i := 43) rfl))) (Or.inr (hw _ (List.mem_of_getElem? (i := 40) rfl))) (by decide) (t := (.object "java/lang/String")) (t' := (.object "java/lang/String")) (by decide) (by decide)))).ext E11)
  obtain ⟨T15, h15, X15, e15, W15, st15⟩ := putF X13 hx hZ11 hown11 (host := "") (Or.inl (hw _ (List.mem_of_getElem? (i := 42) rfl))) Via.refl e13 f17 f16 (Or.inr ⟨(hw _ (List.mem_of_getElem? (i := 43) rfl)), rfl, hnm⟩) (hw _ (List.mem_of_getElem? (i := 27) rfl)) (ty := (.object "java/lang/String")) (by decide) rfl rfl (g := (mkF m 27 #[.val (.ref a), .val (.ref sA), .val (.ref sB), .val (.ref sC)] [(.ref sB), (.ref a)])) rfl rfl (hb hby d5_27)
  have ne_a11_a : a11 ≠ a := ne_exa Ea11 f16 (by decide)
  have ne_a_b11 : a ≠ b11 := f16.neArv Aa11 (hw _ (List.mem_of_getElem? (i := 27) rfl))
  have Z15 : n0 ≤ h15.size := Nat.le_trans Z11 (Keep.of_wr W15).1
  have K15 : Keep h0 h15 [a] := K11.wr W15 (Or.inl (List.mem_of_getElem? (i := 0) rfl))
  have O15 : Old Z n0 h15 := O11.wr W15 g_a
  have N15 := Fr.snoc X15 N12 g_a
  have hL15 := hL11.keepC (Keep.of_wr W15) f16 (by decide) (hw _ (List.mem_of_getElem? (i := 27) rfl))
  have hk15 := Nat.le_trans hk11 (Keep.of_wr W15).1
  have fw15 : Fld Z h15 a "com/example/relayout/relayout/plan/Transfer" "from" "Ljava/lang/String;" (.ref sB) := f17.same W15
  obtain ⟨a18, T18, h18, k18, b18, kb18, X18, e18, E18, hS18, hk18, hZ18, hown18, Ea18, Ca18, Va18, Aa18, hL18, st18⟩ := own_ldcT X15 hx hZ11 hown11 (hw _ (List.mem_of_getElem? (i := 44) rfl)) (own_sat hw) e15 hS11 hk15 (fun b cl q => O15.2.2 b cl q) hL15 (by decide) (by decide) hcT2 hcW (vs := [(.int (116 : Int32)), (.int (111 : Int32))]) (z := (2 : Int32)) ⟨by decide, by decide⟩ (by decide) (by decide) (g := (mkF m 32 #[.val (.ref a), .val (.ref sA), .val (.ref sB), .val (.ref sC)] [(.ref sC), (.ref a)])) rfl (hb hby d5_32) (n := 8) (by decide) (by decide) (by decide) (by decide)
  have Z18 : n0 ≤ h18.size := Nat.le_trans Z15 E18.1
  have K18 : Keep h0 h18 [a] := K15.ext E18
  have O18 : Old Z n0 h18 := O15.ext E18
  obtain ⟨_, _, ⟨T19, L19, k19, n19⟩, -, X19, ⟨Lc19, hQ19, cl_19, cy_19, cz_19⟩, st19⟩ := Jvm.LawKit.callS X18 hx (y := (⟨"java/util/Objects", "requireNonNull", "(Ljava/lang/Object;Ljava/lang/String;)Ljava/lang/Object;"⟩ : MethodName)) hown18 (mvT hZ18 (hw _ (List.mem_of_getElem? (i := 34) rfl))) (mvT hZ18 (hw _ (List.mem_of_getElem? (i := 35) rfl))) (mvT hZ18 (hw _ (List.mem_of_getElem? (i := 36) rfl))) (mvT hZ18 (hw _ (List.mem_of_getElem? (i := 37) rfl))) (by decide) (backOf (W := 1) (rnn l Z a0 hw [] zCS vFM sC a18 h18 n0 O18 S_CS hCS hcT0 hcT1 hcT2 hcT3 hcT4 hcH hcW S_FM rFM   ) hZ18 (hw _ (List.mem_of_getElem? (i := 37) rfl)) (hw _ (List.mem_of_getElem? (i := 36) rfl)) (by decide) (by decide)) (g := (mkF m 34 #[.val (.ref a), .val (.ref sA), .val (.ref sB), .val (.ref sC)] [(.ref a18), (.ref sC), (.ref a)])) rfl (by rw [hml]; rfl) (argsL := [(.ref sC), (.ref a18)]) (rest := [(.ref a)]) (lenOf pd_18 rfl) rfl (by show 2 * 0 + _ ≤ _; exact Nat.le_of_eq rfl) (hb hby d5_34) (fun _ _ => ⟨rfl, e18, (by decide : 6 + 0 ≤ _), (by decide : 52 + 0 ≤ _)⟩)
  dsimp only [Pt.U, Pt.locs, Pt.cells, Pt.slots] at X19 cl_19 cy_19 cz_19 st19 hQ19
  rw [cl_19, cy_19, cz_19] at X19
  obtain ⟨rfl, N19q, e19⟩ := hQ19
  have N19 := Fr.app N15 N19q
  have f21 : Exa Z h18 sC "java/lang/String" := ((((f10.wr W6).ext E11).wr W15).ext E18)
  obtain ⟨T20, X20, e20, st20⟩ := castY X19 hx hZ18 hown18 (hw _ (List.mem_of_getElem? (i := 38) rfl)) e19 (Ins.self f21) (g := (mkF m 37 #[.val (.ref a), .val (.ref sA), .val (.ref sB), .val (.ref sC)] [(.ref sC), (.ref a)])) rfl rfl (hb hby d5_37)
  have f23 : Exa Z h18 a "com/example/relayout/relayout/plan/Transfer" := ((f16.wr W15).ext E18)
  have f24 : Fld Z h18 a "com/example/relayout/relayout/plan/Transfer" "to" "Ljava/lang/String;" u3 := (((((Fu2.ext E2).other W6 (Or.inr (slot_ne (Or.inr (hw _ (List.mem_of_getElem? (i := 46) rfl))) (Or.inr (hw _ (List.mem_of_getElem? (i := 40) rfl))) (by decide) (t := (.object "java/lang/String")) (t' := (.object "java/lang/String")) (by decide) (by decide)))).ext E11).other W15 (Or.inr (slot_ne (Or.inr (hw _ (List.mem_of_getElem? (i := 46) rfl))) (Or.inr (hw _ (List.mem_of_getElem? (i := 43) rfl))) (by decide) (t := (.object "java/lang/String")) (t' := (.object "java/lang/String")) (by decide) (by decide)))).ext E18)
  obtain ⟨T22, h22, X22, e22, W22, st22⟩ := putF X20 hx hZ18 hown18 (host := "") (Or.inl (hw _ (List.mem_of_getElem? (i := 45) rfl))) Via.refl e20 f24 f23 (Or.inr ⟨(hw _ (List.mem_of_getElem? (i := 46) rfl)), rfl, hnm⟩) (hw _ (List.mem_of_getElem? (i := 27) rfl)) (ty := (.object "java/lang/String")) (by decide) rfl rfl (g := (mkF m 40 #[.val (.ref a), .val (.ref sA), .val (.ref sB), .val (.ref sC)] [(.ref sC), (.ref a)])) rfl rfl (hb hby d5_40)
  have ne_a18_a : a18 ≠ a := ne_exa Ea18 f23 (by decide)
  have ne_a_b18 : a ≠ b18 := f23.neArv Aa18 (hw _ (List.mem_of_getElem? (i := 27) rfl))
  have Z22 : n0 ≤ h22.size := Nat.le_trans Z18 (Keep.of_wr W22).1
  have K22 : Keep h0 h22 [a] := K18.wr W22 (Or.inl (List.mem_of_getElem? (i := 0) rfl))
  have O22 : Old Z n0 h22 := O18.wr W22 g_a
  have N22 := Fr.snoc X22 N19 g_a
  have hL22 := hL18.keepC (Keep.of_wr W22) f23 (by decide) (hw _ (List.mem_of_getElem? (i := 27) rfl))
  have hk22 := Nat.le_trans hk18 (Keep.of_wr W22).1
  have fw22 : Fld Z h22 a "com/example/relayout/relayout/plan/Transfer" "to" "Ljava/lang/String;" (.ref sC) := f24.same W22
  have R25 : ∀ t, Steps p.tables e below (T22.setTop (mkF m 43 #[.val (.ref a), .val (.ref sA), .val (.ref sB), .val (.ref sC)] [])) t → Steps p.tables e below (s₁.setTop (entryFrame m #[(.ref a), (.ref sA), (.ref sB), (.ref sC)] 4)) t := by
    intro t k
    refine R0 t ?_
    show Steps p.tables e below (s₁.setTop (mkF m 0 #[.val (.ref a), .val (.ref sA), .val (.ref sB), .val (.ref sC)] [])) t
    refine XS.aloadN X0.here hx rfl (hb hby d5_0) rfl rfl ?_
    show Steps p.tables e below (s₁.setTop (mkF m 1 #[.val (.ref a), .val (.ref sA), .val (.ref sB), .val (.ref sC)] [(.ref a)])) t
    refine st1 _ ?_
    show Steps p.tables e below (T1.setTop (mkF m 4 #[.val (.ref a), .val (.ref sA), .val (.ref sB), .val (.ref sC)] [])) t
    refine XS.aloadN X1.here hx rfl (hb hby d5_4) rfl rfl ?_
    show Steps p.tables e below (T1.setTop (mkF m 5 #[.val (.ref a), .val (.ref sA), .val (.ref sB), .val (.ref sC)] [(.ref a)])) t
    refine XS.aloadN X1.here hx rfl (hb hby d5_5) rfl rfl ?_
    show Steps p.tables e below (T1.setTop (mkF m 6 #[.val (.ref a), .val (.ref sA), .val (.ref sB), .val (.ref sC)] [(.ref sA), (.ref a)])) t
    refine st2 _ ?_
    show Steps p.tables e below (T2.setTop (mkF m 8 #[.val (.ref a), .val (.ref sA), .val (.ref sB), .val (.ref sC)] [(.ref a2), (.ref sA), (.ref a)])) t
    refine st3 _ ?_
    show Steps p.tables e below (T3.setTop (mkF m 11 #[.val (.ref a), .val (.ref sA), .val (.ref sB), .val (.ref sC)] [(.ref sA), (.ref a)])) t
    refine st4 _ ?_
    show Steps p.tables e below (T4.setTop (mkF m 14 #[.val (.ref a), .val (.ref sA), .val (.ref sB), .val (.ref sC)] [(.ref sA), (.ref a)])) t
    refine st6 _ ?_
    show Steps p.tables e below (T6.setTop (mkF m 17 #[.val (.ref a), .val (.ref sA), .val (.ref sB), .val (.ref sC)] [])) t
    refine XS.aloadN X6.here hx rfl (hb hby d5_17) rfl rfl ?_
    show Steps p.tables e below (T6.setTop (mkF m 18 #[.val (.ref a), .val (.ref sA), .val (.ref sB), .val (.ref sC)] [(.ref a)])) t
    refine XS.aloadN X6.here hx rfl (hb hby d5_18) rfl rfl ?_
    show Steps p.tables e below (T6.setTop (mkF m 19 #[.val (.ref a), .val (.ref sA), .val (.ref sB), .val (.ref sC)] [(.ref sB), (.ref a)])) t
    refine st11 _ ?_
    show Steps p.tables e below (T11.setTop (mkF m 21 #[.val (.ref a), .val (.ref sA), .val (.ref sB), .val (.ref sC)] [(.ref a11), (.ref sB), (.ref a)])) t
    refine st12 _ ?_
    show Steps p.tables e below (T12.setTop (mkF m 24 #[.val (.ref a), .val (.ref sA), .val (.ref sB), .val (.ref sC)] [(.ref sB), (.ref a)])) t
    refine st13 _ ?_
    show Steps p.tables e below (T13.setTop (mkF m 27 #[.val (.ref a), .val (.ref sA), .val (.ref sB), .val (.ref sC)] [(.ref sB), (.ref a)])) t
    refine st15 _ ?_
    show Steps p.tables e below (T15.setTop (mkF m 30 #[.val (.ref a), .val (.ref sA), .val (.ref sB), .val (.ref sC)] [])) t
    refine XS.aloadN X15.here hx rfl (hb hby d5_30) rfl rfl ?_
    show Steps p.tables e below (T15.setTop (mkF m 31 #[.val (.ref a), .val (.ref sA), .val (.ref sB), .val (.ref sC)] [(.ref a)])) t
    refine XS.aloadN X15.here hx rfl (hb hby d5_31) rfl rfl ?_
    show Steps p.tables e below (T15.setTop (mkF m 32 #[.val (.ref a), .val (.ref sA), .val (.ref sB), .val (.ref sC)] [(.ref sC), (.ref a)])) t
    refine st18 _ ?_
    show Steps p.tables e below (T18.setTop (mkF m 34 #[.val (.ref a), .val (.ref sA), .val (.ref sB), .val (.ref sC)] [(.ref a18), (.ref sC), (.ref a)])) t
    refine st19 _ ?_
    show Steps p.tables e below (T19.setTop (mkF m 37 #[.val (.ref a), .val (.ref sA), .val (.ref sB), .val (.ref sC)] [(.ref sC), (.ref a)])) t
    refine st20 _ ?_
    show Steps p.tables e below (T20.setTop (mkF m 40 #[.val (.ref a), .val (.ref sA), .val (.ref sB), .val (.ref sC)] [(.ref sC), (.ref a)])) t
    refine st22 _ ?_
    exact k
  have f26 : Exa Z h22 a "com/example/relayout/relayout/plan/Transfer" := (f23.wr W22)
  have f27 : Fld Z h22 a "com/example/relayout/relayout/plan/Transfer" "item" "Ljava/lang/String;" (.ref sA) := ((((fw6.ext E11).other W15 (Or.inr (slot_ne (Or.inr (hw _ (List.mem_of_getElem? (i := 40) rfl))) (Or.inr (hw _ (List.mem_of_getElem? (i := 43) rfl))) (by decide) (t := (.object "java/lang/String")) (t' := (.object "java/lang/String")) (by decide) (by decide)))).ext E18).other W22 (Or.inr (slot_ne (Or.inr (hw _ (List.mem_of_getElem? (i := 40) rfl))) (Or.inr (hw _ (List.mem_of_getElem? (i := 46) rfl))) (by decide) (t := (.object "java/lang/String")) (t' := (.object "java/lang/String")) (by decide) (by decide))))
  have f28 : Fld Z h22 a "com/example/relayout/relayout/plan/Transfer" "from" "Ljava/lang/String;" (.ref sB) := ((fw15.ext E18).other W22 (Or.inr (slot_ne (Or.inr (hw _ (List.mem_of_getElem? (i := 43) rfl))) (Or.inr (hw _ (List.mem_of_getElem? (i := 46) rfl))) (by decide) (t := (.object "java/lang/String")) (t' := (.object "java/lang/String")) (by decide) (by decide))))
  obtain ⟨fs, hr, hrun, hended, hRW⟩ := X22.leaveW hS18 (by rw [e22]; exact hk22) (v := none) (fun _ => rfl)
  refine ⟨_, _, R25 _ ?_, hrun, hended, _, _, rfl, ?_, hRW.1, hRW.2.1, hRW.2.2.1, hRW.2.2.2.mono (by decide) (by decide)⟩
  · show Steps p.tables e below (T22.setTop (mkF m 43 #[.val (.ref a), .val (.ref sA), .val (.ref sB), .val (.ref sC)] [])) _
    exact X22.returnOut hx Bd.returns (hb hby d5_43) hr
  · show Q_tinit Z zCS vFM a sA sB sC u1 u2 u3 h0 n0 _ T22.heap T22.vm _
    rw [e22]
    exact ⟨rfl, N22, K22, f26, f27, f28, fw22, ((LS.warm (s := s) hL22 X22.warmed).up hL22.1 (Nat.le_refl _))⟩
theorem d7_0 : decode prog_11_method_7_code 0 = .ok (.new 38, 3) := by decide +kernel
theorem d7_3 : decode prog_11_method_7_code 3 = .ok (.dup, 1) := by decide +kernel
theorem pd_19 : parseMethodDescriptor "()V" = some ⟨[], none⟩ := by decide +kernel
theorem d7_4 : decode prog_11_method_7_code 4 = .ok (.invokespecial 40, 3) := by decide +kernel
theorem d7_7 : decode prog_11_method_7_code 7 = .ok (.aload_n 0, 1) := by decide +kernel
theorem d7_8 : decode prog_11_method_7_code 8 = .ok (.getfield 17, 3) := by decide +kernel
theorem pd_20 : parseMethodDescriptor "(Ljava/lang/String;)Ljava/lang/StringBuilder;" = some ⟨[(.object "java/lang/String")], some (.object "java/lang/StringBuilder")⟩ := by decide +kernel
theorem d7_11 : decode prog_11_method_7_code 11 = .ok (.invokevirtual 41, 3) := by decide +kernel
theorem d7_14 : decode prog_11_method_7_code 14 = .ok (.ldc 45, 2) := by decide +kernel
theorem d7_16 : decode prog_11_method_7_code 16 = .ok (.invokevirtual 41, 3) := by decide +kernel
theorem d7_19 : decode prog_11_method_7_code 19 = .ok (.aload_n 0, 1) := by decide +kernel
theorem d7_20 : decode prog_11_method_7_code 20 = .ok (.getfield 24, 3) := by decide +kernel
theorem d7_23 : decode prog_11_method_7_code 23 = .ok (.invokevirtual 41, 3) := by decide +kernel
theorem d7_26 : decode prog_11_method_7_code 26 = .ok (.ldc 47, 2) := by decide +kernel
theorem d7_28 : decode prog_11_method_7_code 28 = .ok (.invokevirtual 41, 3) := by decide +kernel
theorem d7_31 : decode prog_11_method_7_code 31 = .ok (.aload_n 0, 1) := by decide +kernel
theorem d7_32 : decode prog_11_method_7_code 32 = .ok (.getfield 28, 3) := by decide +kernel
theorem d7_35 : decode prog_11_method_7_code 35 = .ok (.invokevirtual 41, 3) := by decide +kernel
theorem pd_21 : parseMethodDescriptor "()Ljava/lang/String;" = some ⟨[], some (.object "java/lang/String")⟩ := by decide +kernel
theorem d7_38 : decode prog_11_method_7_code 38 = .ok (.invokevirtual 49, 3) := by decide +kernel
theorem d7_41 : decode prog_11_method_7_code 41 = .ok (.areturn, 1) := by decide +kernel
theorem ef_tost (m : MethodId) (wa : Addr) (sA : Addr) (tA : Addr) (kA : ClassId) (nA : Int32) (vA : List Value) (sB : Addr) (tB : Addr) (kB : ClassId) (nB : Int32) (vB : List Value) (sC : Addr) (tC : Addr) (kC : ClassId) (nC : Int32) (vC : List Value) : entryFrame m #[(.ref wa)] 1 = mkF m 0 #[.val (.ref wa)] [] := by first | (simp [entryFrame, mkF, argsToLocals, Value.category]; done) | rfl
def Q_tost (Z : State) (zCS : Int32) (vFM : Value) (wa : Addr) (sA : Addr) (tA : Addr) (kA : ClassId) (nA : Int32) (vA : List Value) (sB : Addr) (tB : Addr) (kB : ClassId) (nB : Int32) (vB : List Value) (sC : Addr) (tC : Addr) (kC : ClassId) (nC : Int32) (vC : List Value) (h0 : Heap) (n0 : Nat) (vv_ : Option Value) (hh_ : Heap) (vm_ : Vm) (LL_ : List Loc) : Prop := ∃ (b : Addr) (tt : Addr) (kb : ClassId), vv_ = some (.ref b) ∧ (Fr n0 LL_) ∧ (Keep h0 hh_ []) ∧ (h0.size ≤ b) ∧ (Exa Z hh_ b "java/lang/String") ∧ (Fld Z hh_ b "java/lang/String" "coder" "B" (.int (0 : Int32))) ∧ (Fld Z hh_ b "java/lang/String" "value" "[B" (.ref tt)) ∧ (Arv Z hh_ tt kb .byte ((((((0 : Int32) + nA) + (1 : Int32)) + nB) + (1 : Int32)) + nC) ((((([] ++ vA) ++ [(.int (32 : Int32))]) ++ vB) ++ [(.int (62 : Int32))]) ++ vC) (.int 0)) ∧ (LS Z "java/lang/String" 7 (">" :: (" " :: ("to" :: ("from" :: ("item" :: []))))) vm_ hh_ hh_.size)
set_option maxRecDepth 65536 in
set_option maxHeartbeats 40000000 in
theorem tost (l : Launch) (Z : State) (a0 : Array Value) (hw : ∀ d ∈ tables_1, d.before a0 Z = true) (ws : List Jvm.Cond) (zCS : Int32) (vFM : Value) (wa : Addr) (sA : Addr) (tA : Addr) (kA : ClassId) (nA : Int32) (vA : List Value) (sB : Addr) (tB : Addr) (kB : ClassId) (nB : Int32) (vB : List Value) (sC : Addr) (tC : Addr) (kC : ClassId) (nC : Int32) (vC : List Value) (NN : Nat) (h0 : Heap) (n0 : Nat) (O0 : Old Z n0 h0) (S_CS : Sta Z Z.heap "java/lang/String" "COMPACT_STRINGS" "Z" (.int zCS)) (hCS : ¬ (zCS = (0 : Int32))) (hcT0 : Jvm.Lit.constHeld Z "com/example/relayout/relayout/plan/Transfer" 7) (hcT1 : Jvm.Lit.constHeld Z "com/example/relayout/relayout/plan/Transfer" 22) (hcT2 : Jvm.Lit.constHeld Z "com/example/relayout/relayout/plan/Transfer" 26) (hcT3 : Jvm.Lit.constHeld Z "com/example/relayout/relayout/plan/Transfer" 45) (hcT4 : Jvm.Lit.constHeld Z "com/example/relayout/relayout/plan/Transfer" 47) (hcH : Jvm.Lit.constHeld Z "java/lang/String" 7) (hcW : Jvm.Lit.compactW.before a0 Z = true) (S_FM : Sta Z Z.heap "jdk/internal/util/Preconditions" "SIOOBE_FORMATTER" "Ljava/util/function/BiFunction;" vFM) (rFM : vFM.isRef = true) (Ew : Exa Z h0 wa "com/example/relayout/relayout/plan/Transfer") (Fi0 : Fld Z h0 wa "com/example/relayout/relayout/plan/Transfer" "item" "Ljava/lang/String;" (.ref sA)) (Fi1 : Fld Z h0 wa "com/example/relayout/relayout/plan/Transfer" "from" "Ljava/lang/String;" (.ref sB)) (Fi2 : Fld Z h0 wa "com/example/relayout/relayout/plan/Transfer" "to" "Ljava/lang/String;" (.ref sC)) (EsA : Exa Z h0 sA "java/lang/String") (CsA : Fld Z h0 sA "java/lang/String" "coder" "B" (.int (0 : Int32))) (VsA : Fld Z h0 sA "java/lang/String" "value" "[B" (.ref tA)) (AsA : Arv Z h0 tA kA .byte nA vA (.int 0)) (NsA : own_N 2 nA vA) (EsB : Exa Z h0 sB "java/lang/String") (CsB : Fld Z h0 sB "java/lang/String" "coder" "B" (.int (0 : Int32))) (VsB : Fld Z h0 sB "java/lang/String" "value" "[B" (.ref tB)) (AsB : Arv Z h0 tB kB .byte nB vB (.int 0)) (NsB : own_N 2 nB vB) (EsC : Exa Z h0 sC "java/lang/String") (CsC : Fld Z h0 sC "java/lang/String" "coder" "B" (.int (0 : Int32))) (VsC : Fld Z h0 sC "java/lang/String" "value" "[B" (.ref tC)) (AsC : Arv Z h0 tC kC .byte nC vC (.int 0)) (NsC : own_N 2 nC vC) :
    MetFree l (⟨"com/example/relayout/relayout/plan/Transfer", "toString", "()Ljava/lang/String;"⟩ : MethodName) (head1 (Jvm.Cond.code (⟨"com/example/relayout/relayout/plan/Transfer", "toString", "()Ljava/lang/String;"⟩ : MethodName) prog_11_method_7_code 1 (some (.object "java/lang/String")) :: ws) ({ frames := 6, cells := 8, slots := 56, locals := 91 } : Room)) (fun aa_ U_ => aa_ = #[(.ref wa)] ∧ (Z.Warmed39 U_.vm ∧ LS Z "java/lang/String" 7 ("to" :: ("from" :: ("item" :: []))) U_.vm h0 NN) ∧ U_.heap = h0) (fun _ _ _ _ _ => True) (fun _ U_ oo_ V_ => ∃ vv_ LL_, oo_ = .returned vv_ ∧ Q_tost Z zCS vFM wa sA tA kA nA vA sB tB kB nB vB sC tC kC nC vC h0 n0 vv_ V_.heap V_.vm LL_ ∧ ReturnedEndW U_ oo_ V_ LL_ ({ frames := 6, cells := 8, slots := 56, locals := 91 } : Room).cells ({ frames := 6, cells := 8, slots := 56, locals := 91 } : Room).slots) := by
  refine MetFree.of_bodySF (plainFor_of_name pn_com_example_relayout_relayout_plan_Transfer) hisR ?_
  intro p e s m args below meth c s₁ Bd hml0 hP hK
  obtain ⟨rfl, ⟨hZ, hL0⟩, hh⟩ := hP
  have hx := Bd.exec
  have hby := Bd.bytes
  have hml : c.maxLocals = 1 := hml0
  have hown : s.vm.findClass "com/example/relayout/relayout/plan/Transfer" = some m.cls := findClass_of_methodNamed Bd.named
  have hnm := (name_of_methodNamed Bd.named Bd.method).1
  have hZ0 : Z.Warmed39 (s.setVm s.vm).vm := hZ
  have hown0 : (s.setVm s.vm).vm.findClass "com/example/relayout/relayout/plan/Transfer" = some m.cls := hown
  have hS0 : s.Since s.vm 0 := ⟨State.Warmed39.refl s, fun j p h1 h2 => absurd (Array.getElem?_eq_some_iff.mp h2).1 (Nat.not_lt.mpr h1)⟩
  have X0 : Stand p l e ({ frames := 6, cells := 8, slots := 56, locals := 91 } : Room) (s.setVm s.vm) m #[(.ref wa)] below meth c s₁ [] 0 0 := Stand.of_body Bd
  have e0 : s₁.heap = h0 := by rw [← hh, Bd.state]; rfl
  have N0 := Fr.nil n0
  have Z0 : n0 ≤ h0.size := O0.1 ▸ O0.2.1
  have hk0 := Nat.zero_le h0.size
  have K0 : Keep h0 h0 [] := Keep.refl _ _
  have R0 : ∀ t, Steps p.tables e below (s₁.setTop (mkF m 0 #[.val (.ref wa)] [])) t → Steps p.tables e below (s₁.setTop (entryFrame m #[(.ref wa)] 1)) t := fun t k => castTop (ef_tost m wa sA tA kA nA vA sB tB kB nB vB sC tC kC nC vC) k
  obtain ⟨T1, h1, X1, e1, E1, A1, D1, -, st1⟩ := newO X0 hx hZ0 hown0 (hw _ (List.mem_of_getElem? (i := 52) rfl)) (hw _ (List.mem_of_getElem? (i := 53) rfl)) (hw _ (List.mem_of_getElem? (i := 54) rfl)) e0 (g := (mkF m 0 #[.val (.ref wa)] [])) rfl (hb hby d7_0) (by decide) (by decide)
  obtain ⟨b1, gg1⟩ : ∃ z, z = h0.size := ⟨_, rfl⟩
  rw [← gg1] at A1 D1 st1
  have ne_wa_b1 : wa ≠ b1 := Nat.ne_of_lt (Nat.lt_of_lt_of_le Ew.lt (Nat.le_of_eq gg1.symm))
  have ne_sA_b1 : sA ≠ b1 := Nat.ne_of_lt (Nat.lt_of_lt_of_le EsA.lt (Nat.le_of_eq gg1.symm))
  have ne_tA_b1 : tA ≠ b1 := Nat.ne_of_lt (Nat.lt_of_lt_of_le AsA.lt (Nat.le_of_eq gg1.symm))
  have ne_sB_b1 : sB ≠ b1 := Nat.ne_of_lt (Nat.lt_of_lt_of_le EsB.lt (Nat.le_of_eq gg1.symm))
  have ne_tB_b1 : tB ≠ b1 := Nat.ne_of_lt (Nat.lt_of_lt_of_le AsB.lt (Nat.le_of_eq gg1.symm))
  have ne_sC_b1 : sC ≠ b1 := Nat.ne_of_lt (Nat.lt_of_lt_of_le EsC.lt (Nat.le_of_eq gg1.symm))
  have ne_tC_b1 : tC ≠ b1 := Nat.ne_of_lt (Nat.lt_of_lt_of_le AsC.lt (Nat.le_of_eq gg1.symm))
  have g_b1 : n0 ≤ b1 := Nat.le_trans Z0 (Nat.le_of_eq gg1.symm)
  have sz_b1 : h0.size ≤ b1 := Nat.le_trans K0.1 (Nat.le_of_eq gg1.symm)
  have nl_b1 : NN ≤ b1 := Nat.le_trans hL0.1 (Nat.le_of_eq gg1.symm)
  have hL1 := hL0.ext E1
  have Z1 : n0 ≤ h1.size := Nat.le_trans Z0 E1.1
  have K1 : Keep h0 h1 [] := K0.ext E1
  have O1 : Old Z n0 h1 := O0.ext E1
  have hk1 := Nat.le_trans hk0 E1.1
  have F1_value : Fld Z h1 b1 "java/lang/AbstractStringBuilder" "value" "[B" .null := D1 (Or.inl (hw _ (List.mem_of_getElem? (i := 67) rfl))) (ty := (.array .byte)) (by decide)
  have F1_coder : Fld Z h1 b1 "java/lang/AbstractStringBuilder" "coder" "B" (.int (0 : Int32)) := D1 (Or.inl (hw _ (List.mem_of_getElem? (i := 69) rfl))) (ty := .byte) (by decide)
  have F1_count : Fld Z h1 b1 "java/lang/AbstractStringBuilder" "count" "I" (.int (0 : Int32)) := D1 (Or.inl (hw _ (List.mem_of_getElem? (i := 92) rfl))) (ty := .int) (by decide)
  obtain ⟨_, _, ⟨T2, L2, k2, n2⟩, -, X2, ⟨Lc2, hQ2, cl_2, cy_2, cz_2⟩, st2⟩ := X1.specialBack hx (y := (⟨"java/lang/StringBuilder", "<init>", "()V"⟩ : MethodName)) rfl hown0 (mvT hZ0 (hw _ (List.mem_of_getElem? (i := 55) rfl))) (mvT hZ0 (hw _ (List.mem_of_getElem? (i := 56) rfl))) (mvT hZ0 (hw _ (List.mem_of_getElem? (i := 57) rfl))) (by decide) (backOf (W := 1) (binit l Z a0 hw [] zCS vFM b1 (.int (0 : Int32)) .null h1 n0 O1 S_CS hCS hcT0 hcT1 hcT2 hcT3 hcT4 hcH hcW S_FM rFM g_b1  A1 F1_coder F1_value F1_count) hZ0 (hw _ (List.mem_of_getElem? (i := 57) rfl)) (hw _ (List.mem_of_getElem? (i := 54) rfl)) (by decide) (by decide)) (g := (mkF m 4 #[.val (.ref wa)] [(.ref b1), (.ref b1)])) rfl (by rw [hml]; rfl) (Steps.refl _) (a := b1) (argsL := []) (rest := [(.ref b1)]) (lenOf pd_19 rfl) rfl (by show 2 * 0 + _ ≤ _; exact Nat.le_of_eq rfl) (hb hby d7_4) (fun _ _ => ⟨rfl, e1, (by decide : 1 + 1 ≤ _), (by decide : 4 + 16 ≤ _)⟩)
  dsimp only [Pt.U, Pt.locs, Pt.cells, Pt.slots] at X2 cl_2 cy_2 cz_2 st2 hQ2
  rw [cl_2, cy_2, cz_2] at X2
  obtain ⟨td2, kd2, rfl, N2q, K2q, fr2_td, y2_0, y2_1, y2_2, y2_3, y2_4⟩ := hQ2
  have N2 := Fr.app N0 N2q
  have f3 : Exa Z h1 wa "com/example/relayout/relayout/plan/Transfer" := (Ew.ext E1)
  have ne_wa_td2 : wa ≠ td2 := Nat.ne_of_lt (Nat.lt_of_lt_of_le f3.lt fr2_td)
  have f4 : Exa Z h1 sA "java/lang/String" := (EsA.ext E1)
  have ne_sA_td2 : sA ≠ td2 := Nat.ne_of_lt (Nat.lt_of_lt_of_le f4.lt fr2_td)
  have f5 : Arv Z h1 tA kA .byte nA vA (.int 0) := (AsA.ext E1)
  have ne_tA_td2 : tA ≠ td2 := Nat.ne_of_lt (Nat.lt_of_lt_of_le f5.lt fr2_td)
  have f6 : Exa Z h1 sB "java/lang/String" := (EsB.ext E1)
  have ne_sB_td2 : sB ≠ td2 := Nat.ne_of_lt (Nat.lt_of_lt_of_le f6.lt fr2_td)
  have f7 : Arv Z h1 tB kB .byte nB vB (.int 0) := (AsB.ext E1)
  have ne_tB_td2 : tB ≠ td2 := Nat.ne_of_lt (Nat.lt_of_lt_of_le f7.lt fr2_td)
  have f8 : Exa Z h1 sC "java/lang/String" := (EsC.ext E1)
  have ne_sC_td2 : sC ≠ td2 := Nat.ne_of_lt (Nat.lt_of_lt_of_le f8.lt fr2_td)
  have f9 : Arv Z h1 tC kC .byte nC vC (.int 0) := (AsC.ext E1)
  have ne_tC_td2 : tC ≠ td2 := Nat.ne_of_lt (Nat.lt_of_lt_of_le f9.lt fr2_td)
  have ne_b1_td2 : b1 ≠ td2 := Nat.ne_of_lt (Nat.lt_of_lt_of_le A1.lt fr2_td)
  have g_td2 : n0 ≤ td2 := Nat.le_trans Z1 fr2_td
  have sz_td2 : h0.size ≤ td2 := Nat.le_trans K1.1 fr2_td
  have nl_td2 : NN ≤ td2 := Nat.le_trans hL1.1 fr2_td
  have Z2 : n0 ≤ T2.heap.size := Nat.le_trans Z1 K2q.1
  have K2 : Keep h0 T2.heap [] := K1.trans K2q (allS (Or.inr sz_b1) all0)
  have O2 : Old Z n0 T2.heap := O1.keep K2q (allS g_b1 all0)
  have hL2 := hL1.keep K2q (allS nl_b1 all0)
  have hk2 := Nat.le_trans hk1 K2q.1
  have Vb10 : Arv Z T2.heap td2 kd2 .byte (16 : Int32) (own_bl 16 []) (.int 0) := y2_3
  have f12 : Fld Z T2.heap wa "com/example/relayout/relayout/plan/Transfer" "item" "Ljava/lang/String;" (.ref sA) := ((Fi0.ext E1).keep K2q (ninS ne_wa_b1 nin0))
  obtain ⟨T11, X11, e11, st11⟩ := getF X2 hx hZ0 hown0 (host := "") (Or.inl (hw _ (List.mem_of_getElem? (i := 39) rfl))) Via.refl rfl f12 (g := (mkF m 8 #[.val (.ref wa)] [(.ref wa), (.ref b1)])) rfl rfl (hb hby d7_8)
  have Nc0 := own_Nadd own_N0 NsA (by decide)
  have R13 : ∀ t, Steps p.tables e below (T11.setTop (mkF m 11 #[.val (.ref wa)] [(.ref sA), (.ref b1)])) t → Steps p.tables e below (s₁.setTop (entryFrame m #[(.ref wa)] 1)) t := by
    intro t k
    refine R0 t ?_
    show Steps p.tables e below (s₁.setTop (mkF m 0 #[.val (.ref wa)] [])) t
    refine st1 _ ?_
    show Steps p.tables e below (T1.setTop (mkF m 3 #[.val (.ref wa)] [(.ref b1)])) t
    refine XS.dup X1.here hx rfl (hb hby d7_3) rfl rfl ?_
    show Steps p.tables e below (T1.setTop (mkF m 4 #[.val (.ref wa)] [(.ref b1), (.ref b1)])) t
    refine st2.trans ?_
    show Steps p.tables e below (T2.setTop (mkF m 7 #[.val (.ref wa)] [(.ref b1)])) t
    refine XS.aloadN X2.here hx rfl (hb hby d7_7) rfl rfl ?_
    show Steps p.tables e below (T2.setTop (mkF m 8 #[.val (.ref wa)] [(.ref wa), (.ref b1)])) t
    refine st11 _ ?_
    exact k
  have f15 : Exa Z T2.heap sA "java/lang/String" := (f4.keep K2q)
  have f16 : Fld Z T2.heap sA "java/lang/String" "coder" "B" (.int (0 : Int32)) := ((CsA.ext E1).keep K2q (ninS ne_sA_b1 nin0))
  have f17 : Fld Z T2.heap sA "java/lang/String" "value" "[B" (.ref tA) := ((VsA.ext E1).keep K2q (ninS ne_sA_b1 nin0))
  have f18 : Arv Z T2.heap tA kA .byte nA vA (.int 0) := (f5.keep K2q (ninS ne_tA_b1 nin0))
  obtain ⟨cq14, kq14, q14a, q14b, q14c⟩ := isOf hZ0 e11 y2_0
  obtain ⟨_, _, ⟨T14, L14, k14, n14⟩, -, X14, ⟨Lc14, hQ14, cl_14, cy_14, cz_14⟩, st14⟩ := X11.virtualBack hx (y := (⟨"java/lang/StringBuilder", "append", "(Ljava/lang/String;)Ljava/lang/StringBuilder;"⟩ : MethodName)) (z := (⟨"java/lang/StringBuilder", "append", "(Ljava/lang/String;)Ljava/lang/StringBuilder;"⟩ : MethodName)) hown0 (mvT hZ0 (hw _ (List.mem_of_getElem? (i := 70) rfl))) (mvT hZ0 (hw _ (List.mem_of_getElem? (i := 71) rfl))) (notFace_of_selects (args := #[]) (mvT hZ0 (hw _ (List.mem_of_getElem? (i := 73) rfl)))) (mvT hZ0 (hw _ (List.mem_of_getElem? (i := 73) rfl))) (mvT hZ0 (hw _ (List.mem_of_getElem? (i := 72) rfl))) (by decide) (backOf (W := 0) (sapp l Z a0 hw [] zCS vFM sA tA kA nA vA b1 td2 kd2 (16 : Int32) (own_bl 16 []) (0 : Int32) (own_bl 16 ([] ++ vA)) ((0 : Int32) + nA) T2.heap n0 O2 S_CS hCS hcT0 hcT1 hcT2 hcT3 hcT4 hcH hcW S_FM rFM g_b1 g_td2  f15 f16 f17 f18 y2_0 y2_1 y2_2 Vb10 y2_4 own_N0.1 NsA.1 (own_b5 (z := (16 : Int32)) own_N0 NsA (by decide)) (own_bw own_N0 NsA (by decide)) (own_ns own_N0 NsA (by decide)) rfl (own_cmp (z := (16 : Int32)) Nc0 (by decide)).1) hZ0 (hw _ (List.mem_of_getElem? (i := 74) rfl)) (hw _ (List.mem_of_getElem? (i := 54) rfl)) (by decide) (by decide)) q14a q14c (g := (mkF m 11 #[.val (.ref wa)] [(.ref sA), (.ref b1)])) rfl (by rw [hml]; rfl) (Steps.refl _) (argsL := [(.ref sA)]) (rest := []) (lenOf pd_20 rfl) rfl (by show 2 * 0 + _ ≤ _; exact Nat.le_of_eq rfl) (hb hby d7_11) (fun _ _ => ⟨rfl, e11, (by decide : 2 + 0 ≤ _), (by decide : 20 + 0 ≤ _)⟩)
  dsimp only [Pt.U, Pt.locs, Pt.cells, Pt.slots] at X14 cl_14 cy_14 cz_14 st14 hQ14
  rw [cl_14, cy_14, cz_14] at X14
  obtain ⟨rfl, N14q, K14q, y14_0, y14_1, y14_2, y14_3, y14_4⟩ := hQ14
  have N14 := Fr.app N2 N14q
  have Z14 : n0 ≤ T14.heap.size := Nat.le_trans Z2 K14q.1
  have K14 : Keep h0 T14.heap [] := K2.trans K14q (allS (Or.inr sz_b1) (allS (Or.inr sz_td2) all0))
  have O14 : Old Z n0 T14.heap := O2.keep K14q (allS g_b1 (allS g_td2 all0))
  have hL14 := hL2.keep K14q (allS nl_b1 (allS nl_td2 all0))
  have hk14 := Nat.le_trans hk2 K14q.1
  obtain ⟨a19, T19, h19, k19, b19, kb19, X19, e19, E19, hS19, hk19, hZ19, hown19, Ea19, Ca19, Va19, Aa19, hL19, st19⟩ := own_ldcT X14 hx hZ0 hown0 (hw _ (List.mem_of_getElem? (i := 118) rfl)) (own_sat hw) rfl hS0 hk14 (fun b cl q => O14.2.2 b cl q) hL14 (by decide) (by decide) hcT3 hcW (vs := [(.int (32 : Int32))]) (z := (1 : Int32)) ⟨by decide, by decide⟩ (by decide) (by decide) (g := (mkF m 14 #[.val (.ref wa)] [(.ref b1)])) rfl (hb hby d7_14) (n := 4) (by decide) (by decide) (by decide) (by decide)
  have Z19 : n0 ≤ h19.size := Nat.le_trans Z14 E19.1
  have K19 : Keep h0 h19 [] := K14.ext E19
  have O19 : Old Z n0 h19 := O14.ext E19
  have Nc1 := own_Nadd Nc0 (own_N1 (32 : Int32)) (by decide)
  have R20 : ∀ t, Steps p.tables e below (T19.setTop (mkF m 16 #[.val (.ref wa)] [(.ref a19), (.ref b1)])) t → Steps p.tables e below (s₁.setTop (entryFrame m #[(.ref wa)] 1)) t := by
    intro t k
    refine R13 t ?_
    show Steps p.tables e below (T11.setTop (mkF m 11 #[.val (.ref wa)] [(.ref sA), (.ref b1)])) t
    refine st14.trans ?_
    show Steps p.tables e below (T14.setTop (mkF m 14 #[.val (.ref wa)] [(.ref b1)])) t
    refine st19 _ ?_
    exact k
  have f22 : Exa Z h19 b1 "java/lang/StringBuilder" := (y14_0.ext E19)
  have f23 : Fld Z h19 b1 "java/lang/AbstractStringBuilder" "coder" "B" (.int (0 : Int32)) := (y14_1.ext E19)
  have f24 : Fld Z h19 b1 "java/lang/AbstractStringBuilder" "value" "[B" (.ref td2) := (y14_2.ext E19)
  have f25 : Arv Z h19 td2 kd2 .byte (16 : Int32) (own_bl 16 ([] ++ vA)) (.int 0) := (y14_3.ext E19)
  have f26 : Fld Z h19 b1 "java/lang/AbstractStringBuilder" "count" "I" (.int ((0 : Int32) + nA)) := (y14_4.ext E19)
  obtain ⟨cq21, kq21, q21a, q21b, q21c⟩ := isOf hZ19 e19 f22
  obtain ⟨_, _, ⟨T21, L21, k21, n21⟩, -, X21, ⟨Lc21, hQ21, cl_21, cy_21, cz_21⟩, st21⟩ := X19.virtualBack hx (y := (⟨"java/lang/StringBuilder", "append", "(Ljava/lang/String;)Ljava/lang/StringBuilder;"⟩ : MethodName)) (z := (⟨"java/lang/StringBuilder", "append", "(Ljava/lang/String;)Ljava/lang/StringBuilder;"⟩ : MethodName)) hown19 (mvT hZ19 (hw _ (List.mem_of_getElem? (i := 70) rfl))) (mvT hZ19 (hw _ (List.mem_of_getElem? (i := 71) rfl))) (notFace_of_selects (args := #[]) (mvT hZ19 (hw _ (List.mem_of_getElem? (i := 73) rfl)))) (mvT hZ19 (hw _ (List.mem_of_getElem? (i := 73) rfl))) (mvT hZ19 (hw _ (List.mem_of_getElem? (i := 72) rfl))) (by decide) (backOf (W := 0) (sapp l Z a0 hw [] zCS vFM a19 b19 kb19 (1 : Int32) [(.int (32 : Int32))] b1 td2 kd2 (16 : Int32) (own_bl 16 ([] ++ vA)) ((0 : Int32) + nA) (own_bl 16 (([] ++ vA) ++ [(.int (32 : Int32))])) (((0 : Int32) + nA) + (1 : Int32)) h19 n0 O19 S_CS hCS hcT0 hcT1 hcT2 hcT3 hcT4 hcH hcW S_FM rFM g_b1 g_td2  Ea19 Ca19 Va19 Aa19 f22 f23 f24 f25 f26 Nc0.1 (own_N1 (32 : Int32)).1 (own_b5 (z := (16 : Int32)) Nc0 (own_N1 (32 : Int32)) (by decide)) (own_bw Nc0 (own_N1 (32 : Int32)) (by decide)) (own_ns Nc0 (own_N1 (32 : Int32)) (by decide)) rfl (own_cmp (z := (16 : Int32)) Nc1 (by decide)).1) hZ19 (hw _ (List.mem_of_getElem? (i := 74) rfl)) (hw _ (List.mem_of_getElem? (i := 54) rfl)) (by decide) (by decide)) q21a q21c (g := (mkF m 16 #[.val (.ref wa)] [(.ref a19), (.ref b1)])) rfl (by rw [hml]; rfl) (Steps.refl _) (argsL := [(.ref a19)]) (rest := []) (lenOf pd_20 rfl) rfl (by show 2 * 0 + _ ≤ _; exact Nat.le_of_eq rfl) (hb hby d7_16) (fun _ _ => ⟨rfl, e19, (by decide : 4 + 0 ≤ _), (by decide : 28 + 0 ≤ _)⟩)
  dsimp only [Pt.U, Pt.locs, Pt.cells, Pt.slots] at X21 cl_21 cy_21 cz_21 st21 hQ21
  rw [cl_21, cy_21, cz_21] at X21
  obtain ⟨rfl, N21q, K21q, y21_0, y21_1, y21_2, y21_3, y21_4⟩ := hQ21
  have N21 := Fr.app N14 N21q
  have ne_a19_b1 : a19 ≠ b1 := ne_exa Ea19 f22 (by decide)
  have ne_b1_b19 : b1 ≠ b19 := f22.neArv Aa19 (hw _ (List.mem_of_getElem? (i := 53) rfl))
  have ne_a19_td2 : a19 ≠ td2 := Ea19.neArv f25 (hw _ (List.mem_of_getElem? (i := 5) rfl))
  have Z21 : n0 ≤ T21.heap.size := Nat.le_trans Z19 K21q.1
  have K21 : Keep h0 T21.heap [] := K19.trans K21q (allS (Or.inr sz_b1) (allS (Or.inr sz_td2) all0))
  have O21 : Old Z n0 T21.heap := O19.keep K21q (allS g_b1 (allS g_td2 all0))
  have hL21 := hL19.keep K21q (allS nl_b1 (allS nl_td2 all0))
  have hk21 := Nat.le_trans hk19 K21q.1
  have f28 : Fld Z T21.heap wa "com/example/relayout/relayout/plan/Transfer" "from" "Ljava/lang/String;" (.ref sB) := (((((Fi1.ext E1).keep K2q (ninS ne_wa_b1 nin0)).keep K14q (ninS ne_wa_b1 (ninS ne_wa_td2 nin0))).ext E19).keep K21q (ninS ne_wa_b1 (ninS ne_wa_td2 nin0)))
  obtain ⟨T27, X27, e27, st27⟩ := getF X21 hx hZ19 hown19 (host := "") (Or.inl (hw _ (List.mem_of_getElem? (i := 42) rfl))) Via.refl rfl f28 (g := (mkF m 20 #[.val (.ref wa)] [(.ref wa), (.ref b1)])) rfl rfl (hb hby d7_20)
  have Nc2 := own_Nadd Nc1 NsB (by decide)
  have R29 : ∀ t, Steps p.tables e below (T27.setTop (mkF m 23 #[.val (.ref wa)] [(.ref sB), (.ref b1)])) t → Steps p.tables e below (s₁.setTop (entryFrame m #[(.ref wa)] 1)) t := by
    intro t k
    refine R20 t ?_
    show Steps p.tables e below (T19.setTop (mkF m 16 #[.val (.ref wa)] [(.ref a19), (.ref b1)])) t
    refine st21.trans ?_
    show Steps p.tables e below (T21.setTop (mkF m 19 #[.val (.ref wa)] [(.ref b1)])) t
    refine XS.aloadN X21.here hx rfl (hb hby d7_19) rfl rfl ?_
    show Steps p.tables e below (T21.setTop (mkF m 20 #[.val (.ref wa)] [(.ref wa), (.ref b1)])) t
    refine st27 _ ?_
    exact k
  have f31 : Exa Z T21.heap sB "java/lang/String" := ((((f6.keep K2q).keep K14q).ext E19).keep K21q)
  have f32 : Fld Z T21.heap sB "java/lang/String" "coder" "B" (.int (0 : Int32)) := (((((CsB.ext E1).keep K2q (ninS ne_sB_b1 nin0)).keep K14q (ninS ne_sB_b1 (ninS ne_sB_td2 nin0))).ext E19).keep K21q (ninS ne_sB_b1 (ninS ne_sB_td2 nin0)))
  have f33 : Fld Z T21.heap sB "java/lang/String" "value" "[B" (.ref tB) := (((((VsB.ext E1).keep K2q (ninS ne_sB_b1 nin0)).keep K14q (ninS ne_sB_b1 (ninS ne_sB_td2 nin0))).ext E19).keep K21q (ninS ne_sB_b1 (ninS ne_sB_td2 nin0)))
  have f34 : Arv Z T21.heap tB kB .byte nB vB (.int 0) := ((((f7.keep K2q (ninS ne_tB_b1 nin0)).keep K14q (ninS ne_tB_b1 (ninS ne_tB_td2 nin0))).ext E19).keep K21q (ninS ne_tB_b1 (ninS ne_tB_td2 nin0)))
  obtain ⟨cq30, kq30, q30a, q30b, q30c⟩ := isOf hZ19 e27 y21_0
  obtain ⟨_, _, ⟨T30, L30, k30, n30⟩, -, X30, ⟨Lc30, hQ30, cl_30, cy_30, cz_30⟩, st30⟩ := X27.virtualBack hx (y := (⟨"java/lang/StringBuilder", "append", "(Ljava/lang/String;)Ljava/lang/StringBuilder;"⟩ : MethodName)) (z := (⟨"java/lang/StringBuilder", "append", "(Ljava/lang/String;)Ljava/lang/StringBuilder;"⟩ : MethodName)) hown19 (mvT hZ19 (hw _ (List.mem_of_getElem? (i := 70) rfl))) (mvT hZ19 (hw _ (List.mem_of_getElem? (i := 71) rfl))) (notFace_of_selects (args := #[]) (mvT hZ19 (hw _ (List.mem_of_getElem? (i := 73) rfl)))) (mvT hZ19 (hw _ (List.mem_of_getElem? (i := 73) rfl))) (mvT hZ19 (hw _ (List.mem_of_getElem? (i := 72) rfl))) (by decide) (backOf (W := 0) (sapp l Z a0 hw [] zCS vFM sB tB kB nB vB b1 td2 kd2 (16 : Int32) (own_bl 16 (([] ++ vA) ++ [(.int (32 : Int32))])) (((0 : Int32) + nA) + (1 : Int32)) (own_bl 16 ((([] ++ vA) ++ [(.int (32 : Int32))]) ++ vB)) ((((0 : Int32) + nA) + (1 : Int32)) + nB) T21.heap n0 O21 S_CS hCS hcT0 hcT1 hcT2 hcT3 hcT4 hcH hcW S_FM rFM g_b1 g_td2  f31 f32 f33 f34 y21_0 y21_1 y21_2 y21_3 y21_4 Nc1.1 NsB.1 (own_b5 (z := (16 : Int32)) Nc1 NsB (by decide)) (own_bw Nc1 NsB (by decide)) (own_ns Nc1 NsB (by decide)) rfl (own_cmp (z := (16 : Int32)) Nc2 (by decide)).1) hZ19 (hw _ (List.mem_of_getElem? (i := 74) rfl)) (hw _ (List.mem_of_getElem? (i := 54) rfl)) (by decide) (by decide)) q30a q30c (g := (mkF m 23 #[.val (.ref wa)] [(.ref sB), (.ref b1)])) rfl (by rw [hml]; rfl) (Steps.refl _) (argsL := [(.ref sB)]) (rest := []) (lenOf pd_20 rfl) rfl (by show 2 * 0 + _ ≤ _; exact Nat.le_of_eq rfl) (hb hby d7_23) (fun _ _ => ⟨rfl, e27, (by decide : 4 + 0 ≤ _), (by decide : 28 + 0 ≤ _)⟩)
  dsimp only [Pt.U, Pt.locs, Pt.cells, Pt.slots] at X30 cl_30 cy_30 cz_30 st30 hQ30
  rw [cl_30, cy_30, cz_30] at X30
  obtain ⟨rfl, N30q, K30q, y30_0, y30_1, y30_2, y30_3, y30_4⟩ := hQ30
  have N30 := Fr.app N21 N30q
  have Z30 : n0 ≤ T30.heap.size := Nat.le_trans Z21 K30q.1
  have K30 : Keep h0 T30.heap [] := K21.trans K30q (allS (Or.inr sz_b1) (allS (Or.inr sz_td2) all0))
  have O30 : Old Z n0 T30.heap := O21.keep K30q (allS g_b1 (allS g_td2 all0))
  have hL30 := hL21.keep K30q (allS nl_b1 (allS nl_td2 all0))
  have hk30 := Nat.le_trans hk21 K30q.1
  obtain ⟨a35, T35, h35, k35, b35, kb35, X35, e35, E35, hS35, hk35, hZ35, hown35, Ea35, Ca35, Va35, Aa35, hL35, st35⟩ := own_ldcT X30 hx hZ19 hown19 (hw _ (List.mem_of_getElem? (i := 119) rfl)) (own_sat hw) rfl hS19 hk30 (fun b cl q => O30.2.2 b cl q) hL30 (by decide) (by decide) hcT4 hcW (vs := [(.int (62 : Int32))]) (z := (1 : Int32)) ⟨by decide, by decide⟩ (by decide) (by decide) (g := (mkF m 26 #[.val (.ref wa)] [(.ref b1)])) rfl (hb hby d7_26) (n := 4) (by decide) (by decide) (by decide) (by decide)
  have Z35 : n0 ≤ h35.size := Nat.le_trans Z30 E35.1
  have K35 : Keep h0 h35 [] := K30.ext E35
  have O35 : Old Z n0 h35 := O30.ext E35
  have Nc3 := own_Nadd Nc2 (own_N1 (62 : Int32)) (by decide)
  have R36 : ∀ t, Steps p.tables e below (T35.setTop (mkF m 28 #[.val (.ref wa)] [(.ref a35), (.ref b1)])) t → Steps p.tables e below (s₁.setTop (entryFrame m #[(.ref wa)] 1)) t := by
    intro t k
    refine R29 t ?_
    show Steps p.tables e below (T27.setTop (mkF m 23 #[.val (.ref wa)] [(.ref sB), (.ref b1)])) t
    refine st30.trans ?_
    show Steps p.tables e below (T30.setTop (mkF m 26 #[.val (.ref wa)] [(.ref b1)])) t
    refine st35 _ ?_
    exact k
  have f38 : Exa Z h35 b1 "java/lang/StringBuilder" := (y30_0.ext E35)
  have f39 : Fld Z h35 b1 "java/lang/AbstractStringBuilder" "coder" "B" (.int (0 : Int32)) := (y30_1.ext E35)
  have f40 : Fld Z h35 b1 "java/lang/AbstractStringBuilder" "value" "[B" (.ref td2) := (y30_2.ext E35)
  have f41 : Arv Z h35 td2 kd2 .byte (16 : Int32) (own_bl 16 ((([] ++ vA) ++ [(.int (32 : Int32))]) ++ vB)) (.int 0) := (y30_3.ext E35)
  have f42 : Fld Z h35 b1 "java/lang/AbstractStringBuilder" "count" "I" (.int ((((0 : Int32) + nA) + (1 : Int32)) + nB)) := (y30_4.ext E35)
  obtain ⟨cq37, kq37, q37a, q37b, q37c⟩ := isOf hZ35 e35 f38
  obtain ⟨_, _, ⟨T37, L37, k37, n37⟩, -, X37, ⟨Lc37, hQ37, cl_37, cy_37, cz_37⟩, st37⟩ := X35.virtualBack hx (y := (⟨"java/lang/StringBuilder", "append", "(Ljava/lang/String;)Ljava/lang/StringBuilder;"⟩ : MethodName)) (z := (⟨"java/lang/StringBuilder", "append", "(Ljava/lang/String;)Ljava/lang/StringBuilder;"⟩ : MethodName)) hown35 (mvT hZ35 (hw _ (List.mem_of_getElem? (i := 70) rfl))) (mvT hZ35 (hw _ (List.mem_of_getElem? (i := 71) rfl))) (notFace_of_selects (args := #[]) (mvT hZ35 (hw _ (List.mem_of_getElem? (i := 73) rfl)))) (mvT hZ35 (hw _ (List.mem_of_getElem? (i := 73) rfl))) (mvT hZ35 (hw _ (List.mem_of_getElem? (i := 72) rfl))) (by decide) (backOf (W := 0) (sapp l Z a0 hw [] zCS vFM a35 b35 kb35 (1 : Int32) [(.int (62 : Int32))] b1 td2 kd2 (16 : Int32) (own_bl 16 ((([] ++ vA) ++ [(.int (32 : Int32))]) ++ vB)) ((((0 : Int32) + nA) + (1 : Int32)) + nB) (own_bl 16 (((([] ++ vA) ++ [(.int (32 : Int32))]) ++ vB) ++ [(.int (62 : Int32))])) (((((0 : Int32) + nA) + (1 : Int32)) + nB) + (1 : Int32)) h35 n0 O35 S_CS hCS hcT0 hcT1 hcT2 hcT3 hcT4 hcH hcW S_FM rFM g_b1 g_td2  Ea35 Ca35 Va35 Aa35 f38 f39 f40 f41 f42 Nc2.1 (own_N1 (62 : Int32)).1 (own_b5 (z := (16 : Int32)) Nc2 (own_N1 (62 : Int32)) (by decide)) (own_bw Nc2 (own_N1 (62 : Int32)) (by decide)) (own_ns Nc2 (own_N1 (62 : Int32)) (by decide)) rfl (own_cmp (z := (16 : Int32)) Nc3 (by decide)).1) hZ35 (hw _ (List.mem_of_getElem? (i := 74) rfl)) (hw _ (List.mem_of_getElem? (i := 54) rfl)) (by decide) (by decide)) q37a q37c (g := (mkF m 28 #[.val (.ref wa)] [(.ref a35), (.ref b1)])) rfl (by rw [hml]; rfl) (Steps.refl _) (argsL := [(.ref a35)]) (rest := []) (lenOf pd_20 rfl) rfl (by show 2 * 0 + _ ≤ _; exact Nat.le_of_eq rfl) (hb hby d7_28) (fun _ _ => ⟨rfl, e35, (by decide : 6 + 0 ≤ _), (by decide : 36 + 0 ≤ _)⟩)
  dsimp only [Pt.U, Pt.locs, Pt.cells, Pt.slots] at X37 cl_37 cy_37 cz_37 st37 hQ37
  rw [cl_37, cy_37, cz_37] at X37
  obtain ⟨rfl, N37q, K37q, y37_0, y37_1, y37_2, y37_3, y37_4⟩ := hQ37
  have N37 := Fr.app N30 N37q
  have ne_a35_b1 : a35 ≠ b1 := ne_exa Ea35 f38 (by decide)
  have ne_b1_b35 : b1 ≠ b35 := f38.neArv Aa35 (hw _ (List.mem_of_getElem? (i := 53) rfl))
  have ne_a35_td2 : a35 ≠ td2 := Ea35.neArv f41 (hw _ (List.mem_of_getElem? (i := 5) rfl))
  have Z37 : n0 ≤ T37.heap.size := Nat.le_trans Z35 K37q.1
  have K37 : Keep h0 T37.heap [] := K35.trans K37q (allS (Or.inr sz_b1) (allS (Or.inr sz_td2) all0))
  have O37 : Old Z n0 T37.heap := O35.keep K37q (allS g_b1 (allS g_td2 all0))
  have hL37 := hL35.keep K37q (allS nl_b1 (allS nl_td2 all0))
  have hk37 := Nat.le_trans hk35 K37q.1
  have f44 : Fld Z T37.heap wa "com/example/relayout/relayout/plan/Transfer" "to" "Ljava/lang/String;" (.ref sC) := ((((((((Fi2.ext E1).keep K2q (ninS ne_wa_b1 nin0)).keep K14q (ninS ne_wa_b1 (ninS ne_wa_td2 nin0))).ext E19).keep K21q (ninS ne_wa_b1 (ninS ne_wa_td2 nin0))).keep K30q (ninS ne_wa_b1 (ninS ne_wa_td2 nin0))).ext E35).keep K37q (ninS ne_wa_b1 (ninS ne_wa_td2 nin0)))
  obtain ⟨T43, X43, e43, st43⟩ := getF X37 hx hZ35 hown35 (host := "") (Or.inl (hw _ (List.mem_of_getElem? (i := 45) rfl))) Via.refl rfl f44 (g := (mkF m 32 #[.val (.ref wa)] [(.ref wa), (.ref b1)])) rfl rfl (hb hby d7_32)
  have Nc4 := own_Nadd Nc3 NsC (by decide)
  have R45 : ∀ t, Steps p.tables e below (T43.setTop (mkF m 35 #[.val (.ref wa)] [(.ref sC), (.ref b1)])) t → Steps p.tables e below (s₁.setTop (entryFrame m #[(.ref wa)] 1)) t := by
    intro t k
    refine R36 t ?_
    show Steps p.tables e below (T35.setTop (mkF m 28 #[.val (.ref wa)] [(.ref a35), (.ref b1)])) t
    refine st37.trans ?_
    show Steps p.tables e below (T37.setTop (mkF m 31 #[.val (.ref wa)] [(.ref b1)])) t
    refine XS.aloadN X37.here hx rfl (hb hby d7_31) rfl rfl ?_
    show Steps p.tables e below (T37.setTop (mkF m 32 #[.val (.ref wa)] [(.ref wa), (.ref b1)])) t
    refine st43 _ ?_
    exact k
  have f47 : Exa Z T37.heap sC "java/lang/String" := (((((((f8.keep K2q).keep K14q).ext E19).keep K21q).keep K30q).ext E35).keep K37q)
  have f48 : Fld Z T37.heap sC "java/lang/String" "coder" "B" (.int (0 : Int32)) := ((((((((CsC.ext E1).keep K2q (ninS ne_sC_b1 nin0)).keep K14q (ninS ne_sC_b1 (ninS ne_sC_td2 nin0))).ext E19).keep K21q (ninS ne_sC_b1 (ninS ne_sC_td2 nin0))).keep K30q (ninS ne_sC_b1 (ninS ne_sC_td2 nin0))).ext E35).keep K37q (ninS ne_sC_b1 (ninS ne_sC_td2 nin0)))
  have f49 : Fld Z T37.heap sC "java/lang/String" "value" "[B" (.ref tC) := ((((((((VsC.ext E1).keep K2q (ninS ne_sC_b1 nin0)).keep K14q (ninS ne_sC_b1 (ninS ne_sC_td2 nin0))).ext E19).keep K21q (ninS ne_sC_b1 (ninS ne_sC_td2 nin0))).keep K30q (ninS ne_sC_b1 (ninS ne_sC_td2 nin0))).ext E35).keep K37q (ninS ne_sC_b1 (ninS ne_sC_td2 nin0)))
  have f50 : Arv Z T37.heap tC kC .byte nC vC (.int 0) := (((((((f9.keep K2q (ninS ne_tC_b1 nin0)).keep K14q (ninS ne_tC_b1 (ninS ne_tC_td2 nin0))).ext E19).keep K21q (ninS ne_tC_b1 (ninS ne_tC_td2 nin0))).keep K30q (ninS ne_tC_b1 (ninS ne_tC_td2 nin0))).ext E35).keep K37q (ninS ne_tC_b1 (ninS ne_tC_td2 nin0)))
  obtain ⟨cq46, kq46, q46a, q46b, q46c⟩ := isOf hZ35 e43 y37_0
  obtain ⟨_, _, ⟨T46, L46, k46, n46⟩, -, X46, ⟨Lc46, hQ46, cl_46, cy_46, cz_46⟩, st46⟩ := X43.virtualBack hx (y := (⟨"java/lang/StringBuilder", "append", "(Ljava/lang/String;)Ljava/lang/StringBuilder;"⟩ : MethodName)) (z := (⟨"java/lang/StringBuilder", "append", "(Ljava/lang/String;)Ljava/lang/StringBuilder;"⟩ : MethodName)) hown35 (mvT hZ35 (hw _ (List.mem_of_getElem? (i := 70) rfl))) (mvT hZ35 (hw _ (List.mem_of_getElem? (i := 71) rfl))) (notFace_of_selects (args := #[]) (mvT hZ35 (hw _ (List.mem_of_getElem? (i := 73) rfl)))) (mvT hZ35 (hw _ (List.mem_of_getElem? (i := 73) rfl))) (mvT hZ35 (hw _ (List.mem_of_getElem? (i := 72) rfl))) (by decide) (backOf (W := 0) (sapp l Z a0 hw [] zCS vFM sC tC kC nC vC b1 td2 kd2 (16 : Int32) (own_bl 16 (((([] ++ vA) ++ [(.int (32 : Int32))]) ++ vB) ++ [(.int (62 : Int32))])) (((((0 : Int32) + nA) + (1 : Int32)) + nB) + (1 : Int32)) (own_bl 16 ((((([] ++ vA) ++ [(.int (32 : Int32))]) ++ vB) ++ [(.int (62 : Int32))]) ++ vC)) ((((((0 : Int32) + nA) + (1 : Int32)) + nB) + (1 : Int32)) + nC) T37.heap n0 O37 S_CS hCS hcT0 hcT1 hcT2 hcT3 hcT4 hcH hcW S_FM rFM g_b1 g_td2  f47 f48 f49 f50 y37_0 y37_1 y37_2 y37_3 y37_4 Nc3.1 NsC.1 (own_b5 (z := (16 : Int32)) Nc3 NsC (by decide)) (own_bw Nc3 NsC (by decide)) (own_ns Nc3 NsC (by decide)) rfl (own_cmp (z := (16 : Int32)) Nc4 (by decide)).1) hZ35 (hw _ (List.mem_of_getElem? (i := 74) rfl)) (hw _ (List.mem_of_getElem? (i := 54) rfl)) (by decide) (by decide)) q46a q46c (g := (mkF m 35 #[.val (.ref wa)] [(.ref sC), (.ref b1)])) rfl (by rw [hml]; rfl) (Steps.refl _) (argsL := [(.ref sC)]) (rest := []) (lenOf pd_20 rfl) rfl (by show 2 * 0 + _ ≤ _; exact Nat.le_of_eq rfl) (hb hby d7_35) (fun _ _ => ⟨rfl, e43, (by decide : 6 + 0 ≤ _), (by decide : 36 + 0 ≤ _)⟩)
  dsimp only [Pt.U, Pt.locs, Pt.cells, Pt.slots] at X46 cl_46 cy_46 cz_46 st46 hQ46
  rw [cl_46, cy_46, cz_46] at X46
  obtain ⟨rfl, N46q, K46q, y46_0, y46_1, y46_2, y46_3, y46_4⟩ := hQ46
  have N46 := Fr.app N37 N46q
  have Z46 : n0 ≤ T46.heap.size := Nat.le_trans Z37 K46q.1
  have K46 : Keep h0 T46.heap [] := K37.trans K46q (allS (Or.inr sz_b1) (allS (Or.inr sz_td2) all0))
  have O46 : Old Z n0 T46.heap := O37.keep K46q (allS g_b1 (allS g_td2 all0))
  have hL46 := hL37.keep K46q (allS nl_b1 (allS nl_td2 all0))
  have hk46 := Nat.le_trans hk37 K46q.1
  obtain ⟨cq51, kq51, q51a, q51b, q51c⟩ := isOf hZ35 rfl y46_0
  obtain ⟨_, _, ⟨T51, L51, k51, n51⟩, -, X51, ⟨Lc51, hQ51, cl_51, cy_51, cz_51⟩, st51⟩ := X46.virtualBack hx (y := (⟨"java/lang/StringBuilder", "toString", "()Ljava/lang/String;"⟩ : MethodName)) (z := (⟨"java/lang/StringBuilder", "toString", "()Ljava/lang/String;"⟩ : MethodName)) hown35 (mvT hZ35 (hw _ (List.mem_of_getElem? (i := 120) rfl))) (mvT hZ35 (hw _ (List.mem_of_getElem? (i := 121) rfl))) (notFace_of_selects (args := #[]) (mvT hZ35 (hw _ (List.mem_of_getElem? (i := 123) rfl)))) (mvT hZ35 (hw _ (List.mem_of_getElem? (i := 123) rfl))) (mvT hZ35 (hw _ (List.mem_of_getElem? (i := 122) rfl))) (by decide) (backOf (W := 0) (sbts l Z a0 hw [] zCS vFM b1 td2 kd2 (16 : Int32) (own_bl 16 ((((([] ++ vA) ++ [(.int (32 : Int32))]) ++ vB) ++ [(.int (62 : Int32))]) ++ vC)) ((((((0 : Int32) + nA) + (1 : Int32)) + nB) + (1 : Int32)) + nC) ((((([] ++ vA) ++ [(.int (32 : Int32))]) ++ vB) ++ [(.int (62 : Int32))]) ++ vC) T46.heap n0 O46 S_CS hCS hcT0 hcT1 hcT2 hcT3 hcT4 hcH hcW S_FM rFM   y46_0 y46_1 y46_2 y46_3 y46_4 Nc4.1 (own_cmp (z := (16 : Int32)) Nc4 (by decide)).2.1 (own_cap Nc4 (by decide)) (own_cap (m := (16 : Int32).toNatClampNeg) Nc4 (by decide)) (own_rs (z := 16) Nc4) (own_cmp (z := (16 : Int32)) Nc4 (by decide)).2.2) hZ35 (hw _ (List.mem_of_getElem? (i := 124) rfl)) (hw _ (List.mem_of_getElem? (i := 54) rfl)) (by decide) (by decide)) q51a q51c (g := (mkF m 38 #[.val (.ref wa)] [(.ref b1)])) rfl (by rw [hml]; rfl) (Steps.refl _) (argsL := []) (rest := []) (lenOf pd_21 rfl) rfl (by show 2 * 0 + _ ≤ _; exact Nat.le_of_eq rfl) (hb hby d7_38) (fun _ _ => ⟨rfl, rfl, (by decide : 6 + 2 ≤ _), (by decide : 36 + 20 ≤ _)⟩)
  dsimp only [Pt.U, Pt.locs, Pt.cells, Pt.slots] at X51 cl_51 cy_51 cz_51 st51 hQ51
  rw [cl_51, cy_51, cz_51] at X51
  obtain ⟨a51, b51, kb51, rfl, N51q, K51q, fr51_a, fr51_b, y51_0, y51_1, y51_2, y51_3⟩ := hQ51
  have N51 := Fr.app N46 N51q
  have f52 : Exa Z T46.heap wa "com/example/relayout/relayout/plan/Transfer" := ((((((((f3.keep K2q).keep K14q).ext E19).keep K21q).keep K30q).ext E35).keep K37q).keep K46q)
  have ne_wa_a51 : wa ≠ a51 := Nat.ne_of_lt (Nat.lt_of_lt_of_le f52.lt fr51_a)
  have f53 : Exa Z T46.heap sA "java/lang/String" := (((((((f15.keep K14q).ext E19).keep K21q).keep K30q).ext E35).keep K37q).keep K46q)
  have ne_sA_a51 : sA ≠ a51 := Nat.ne_of_lt (Nat.lt_of_lt_of_le f53.lt fr51_a)
  have f54 : Arv Z T46.heap tA kA .byte nA vA (.int 0) := (((((((f18.keep K14q (ninS ne_tA_b1 (ninS ne_tA_td2 nin0))).ext E19).keep K21q (ninS ne_tA_b1 (ninS ne_tA_td2 nin0))).keep K30q (ninS ne_tA_b1 (ninS ne_tA_td2 nin0))).ext E35).keep K37q (ninS ne_tA_b1 (ninS ne_tA_td2 nin0))).keep K46q (ninS ne_tA_b1 (ninS ne_tA_td2 nin0)))
  have ne_tA_a51 : tA ≠ a51 := Nat.ne_of_lt (Nat.lt_of_lt_of_le f54.lt fr51_a)
  have f55 : Exa Z T46.heap sB "java/lang/String" := ((((f31.keep K30q).ext E35).keep K37q).keep K46q)
  have ne_sB_a51 : sB ≠ a51 := Nat.ne_of_lt (Nat.lt_of_lt_of_le f55.lt fr51_a)
  have f56 : Arv Z T46.heap tB kB .byte nB vB (.int 0) := ((((f34.keep K30q (ninS ne_tB_b1 (ninS ne_tB_td2 nin0))).ext E35).keep K37q (ninS ne_tB_b1 (ninS ne_tB_td2 nin0))).keep K46q (ninS ne_tB_b1 (ninS ne_tB_td2 nin0)))
  have ne_tB_a51 : tB ≠ a51 := Nat.ne_of_lt (Nat.lt_of_lt_of_le f56.lt fr51_a)
  have f57 : Exa Z T46.heap sC "java/lang/String" := (f47.keep K46q)
  have ne_sC_a51 : sC ≠ a51 := Nat.ne_of_lt (Nat.lt_of_lt_of_le f57.lt fr51_a)
  have f58 : Arv Z T46.heap tC kC .byte nC vC (.int 0) := (f50.keep K46q (ninS ne_tC_b1 (ninS ne_tC_td2 nin0)))
  have ne_tC_a51 : tC ≠ a51 := Nat.ne_of_lt (Nat.lt_of_lt_of_le f58.lt fr51_a)
  have ne_b1_a51 : b1 ≠ a51 := Nat.ne_of_lt (Nat.lt_of_lt_of_le y46_0.lt fr51_a)
  have ne_td2_a51 : td2 ≠ a51 := Nat.ne_of_lt (Nat.lt_of_lt_of_le y46_3.lt fr51_a)
  have f59 : Exa Z T46.heap a19 "java/lang/String" := (((((Ea19.keep K21q).keep K30q).ext E35).keep K37q).keep K46q)
  have ne_a19_a51 : a19 ≠ a51 := Nat.ne_of_lt (Nat.lt_of_lt_of_le f59.lt fr51_a)
  have f60 : Exa Z T46.heap a35 "java/lang/String" := ((Ea35.keep K37q).keep K46q)
  have ne_a35_a51 : a35 ≠ a51 := Nat.ne_of_lt (Nat.lt_of_lt_of_le f60.lt fr51_a)
  have g_a51 : n0 ≤ a51 := Nat.le_trans Z46 fr51_a
  have sz_a51 : h0.size ≤ a51 := Nat.le_trans K46.1 fr51_a
  have nl_a51 : NN ≤ a51 := Nat.le_trans hL46.1 fr51_a
  have ne_wa_b51 : wa ≠ b51 := Nat.ne_of_lt (Nat.lt_of_lt_of_le f52.lt fr51_b)
  have ne_sA_b51 : sA ≠ b51 := Nat.ne_of_lt (Nat.lt_of_lt_of_le f53.lt fr51_b)
  have ne_tA_b51 : tA ≠ b51 := Nat.ne_of_lt (Nat.lt_of_lt_of_le f54.lt fr51_b)
  have ne_sB_b51 : sB ≠ b51 := Nat.ne_of_lt (Nat.lt_of_lt_of_le f55.lt fr51_b)
  have ne_tB_b51 : tB ≠ b51 := Nat.ne_of_lt (Nat.lt_of_lt_of_le f56.lt fr51_b)
  have ne_sC_b51 : sC ≠ b51 := Nat.ne_of_lt (Nat.lt_of_lt_of_le f57.lt fr51_b)
  have ne_tC_b51 : tC ≠ b51 := Nat.ne_of_lt (Nat.lt_of_lt_of_le f58.lt fr51_b)
  have ne_b1_b51 : b1 ≠ b51 := Nat.ne_of_lt (Nat.lt_of_lt_of_le y46_0.lt fr51_b)
  have ne_td2_b51 : td2 ≠ b51 := Nat.ne_of_lt (Nat.lt_of_lt_of_le y46_3.lt fr51_b)
  have ne_a19_b51 : a19 ≠ b51 := Nat.ne_of_lt (Nat.lt_of_lt_of_le f59.lt fr51_b)
  have ne_a35_b51 : a35 ≠ b51 := Nat.ne_of_lt (Nat.lt_of_lt_of_le f60.lt fr51_b)
  have g_b51 : n0 ≤ b51 := Nat.le_trans Z46 fr51_b
  have sz_b51 : h0.size ≤ b51 := Nat.le_trans K46.1 fr51_b
  have nl_b51 : NN ≤ b51 := Nat.le_trans hL46.1 fr51_b
  have Z51 : n0 ≤ T51.heap.size := Nat.le_trans Z46 K51q.1
  have K51 : Keep h0 T51.heap [] := K46.trans K51q all0
  have O51 : Old Z n0 T51.heap := O46.keep K51q all0
  have hL51 := hL46.keep K51q all0
  have hk51 := Nat.le_trans hk46 K51q.1
  have R61 : ∀ t, Steps p.tables e below (T51.setTop (mkF m 41 #[.val (.ref wa)] [(.ref a51)])) t → Steps p.tables e below (s₁.setTop (entryFrame m #[(.ref wa)] 1)) t := by
    intro t k
    refine R45 t ?_
    show Steps p.tables e below (T43.setTop (mkF m 35 #[.val (.ref wa)] [(.ref sC), (.ref b1)])) t
    refine st46.trans ?_
    show Steps p.tables e below (T46.setTop (mkF m 38 #[.val (.ref wa)] [(.ref b1)])) t
    refine st51.trans ?_
    exact k
  obtain ⟨fs, hr, hrun, hended, hRW⟩ := X51.leaveW hS35 hk51 (v := some (.ref a51)) (fun h => by rw [Bd.returns] at h; cases h)
  refine ⟨_, _, R61 _ ?_, hrun, hended, _, _, rfl, ?_, hRW.1, hRW.2.1, hRW.2.2.1, hRW.2.2.2.mono (by decide) (by decide)⟩
  · show Steps p.tables e below (T51.setTop (mkF m 41 #[.val (.ref wa)] [(.ref a51)])) _
    exact retOut X51 hx Bd.returns rfl (Or.inr (Or.inr (Or.inr (Or.inr ⟨rfl, rfl, rfl⟩)))) (hb hby d7_41) hr
  · show Q_tost Z zCS vFM wa sA tA kA nA vA sB tB kB nB vB sC tC kC nC vC h0 n0 _ T51.heap T51.vm _
    exact ⟨a51, b51, kb51, rfl, N51, K51, sz_a51, y51_0, y51_1, y51_2, y51_3, ((LS.warm (s := s) hL51 X51.warmed).up hL51.1 (Nat.le_refl _))⟩
theorem d29_0 : decode method_4_code 0 = .ok (.aload_n 2, 1) := by decide +kernel
theorem d29_1 : decode method_4_code 1 = .ok (.invokevirtual 22, 3) := by decide +kernel
theorem d29_4 : decode method_4_code 4 = .ok (.istore_n 3, 1) := by decide +kernel
theorem d29_5 : decode method_4_code 5 = .ok (.iload_n 3, 1) := by decide +kernel
theorem d29_6 : decode method_4_code 6 = .ok (.ifCond .le 18, 3) := by decide +kernel
theorem d29_9 : decode method_4_code 9 = .ok (.aload_n 0, 1) := by decide +kernel
theorem d29_10 : decode method_4_code 10 = .ok (.iload_n 1, 1) := by decide +kernel
theorem pd_22 : parseMethodDescriptor "(I)C" = some ⟨[.int], some .char⟩ := by decide +kernel
theorem d29_11 : decode method_4_code 11 = .ok (.invokevirtual 32, 3) := by decide +kernel
theorem d29_14 : decode method_4_code 14 = .ok (.aload_n 2, 1) := by decide +kernel
theorem d29_15 : decode method_4_code 15 = .ok (.iconst 0, 1) := by decide +kernel
theorem d29_16 : decode method_4_code 16 = .ok (.invokevirtual 32, 3) := by decide +kernel
theorem d29_19 : decode method_4_code 19 = .ok (.if_icmp .eq 5, 3) := by decide +kernel
theorem d29_24 : decode method_4_code 24 = .ok (.iload_n 3, 1) := by decide +kernel
theorem d29_25 : decode method_4_code 25 = .ok (.iconst 1, 1) := by decide +kernel
theorem d29_26 : decode method_4_code 26 = .ok (.if_icmp .le 20, 3) := by decide +kernel
theorem d29_29 : decode method_4_code 29 = .ok (.aload_n 0, 1) := by decide +kernel
theorem d29_30 : decode method_4_code 30 = .ok (.iload_n 1, 1) := by decide +kernel
theorem d29_31 : decode method_4_code 31 = .ok (.iconst 1, 1) := by decide +kernel
theorem d29_32 : decode method_4_code 32 = .ok (.iadd, 1) := by decide +kernel
theorem d29_33 : decode method_4_code 33 = .ok (.invokevirtual 32, 3) := by decide +kernel
theorem d29_36 : decode method_4_code 36 = .ok (.aload_n 2, 1) := by decide +kernel
theorem d29_37 : decode method_4_code 37 = .ok (.iconst 1, 1) := by decide +kernel
theorem d29_38 : decode method_4_code 38 = .ok (.invokevirtual 32, 3) := by decide +kernel
theorem d29_41 : decode method_4_code 41 = .ok (.if_icmp .eq 5, 3) := by decide +kernel
theorem d29_46 : decode method_4_code 46 = .ok (.iconst 1, 1) := by decide +kernel
theorem d29_47 : decode method_4_code 47 = .ok (.ireturn, 1) := by decide +kernel
theorem ef_same (m : MethodId) (sA : Addr) (tA : Addr) (kA : ClassId) (nA : Int32) (vA : List Value) (off : Int32) (sB : Addr) (tB : Addr) (kB : ClassId) (nB : Int32) (vB : List Value) : entryFrame m #[(.ref sA), (.int off), (.ref sB)] 4 = mkF m 0 #[.val (.ref sA), .val (.int off), .val (.ref sB), .unset] [] := by first | (simp [entryFrame, mkF, argsToLocals, Value.category]; done) | rfl
def Q_same (Z : State) (zCS : Int32) (vFM : Value) (sA : Addr) (tA : Addr) (kA : ClassId) (nA : Int32) (vA : List Value) (off : Int32) (sB : Addr) (tB : Addr) (kB : ClassId) (nB : Int32) (vB : List Value) (h0 : Heap) (n0 : Nat) (vv_ : Option Value) (hh_ : Heap) (LL_ : List Loc) : Prop := vv_ = some (.int (1 : Int32)) ∧ (Fr n0 LL_) ∧ (hh_ = h0)
set_option maxRecDepth 65536 in
set_option maxHeartbeats 40000000 in
theorem same (l : Launch) (Z : State) (a0 : Array Value) (hw : ∀ d ∈ tables_1, d.before a0 Z = true) (ws : List Jvm.Cond) (zCS : Int32) (vFM : Value) (sA : Addr) (tA : Addr) (kA : ClassId) (nA : Int32) (vA : List Value) (off : Int32) (sB : Addr) (tB : Addr) (kB : ClassId) (nB : Int32) (vB : List Value) (h0 : Heap) (n0 : Nat) (O0 : Old Z n0 h0) (S_CS : Sta Z Z.heap "java/lang/String" "COMPACT_STRINGS" "Z" (.int zCS)) (hCS : ¬ (zCS = (0 : Int32))) (hcT0 : Jvm.Lit.constHeld Z "com/example/relayout/relayout/plan/Transfer" 7) (hcT1 : Jvm.Lit.constHeld Z "com/example/relayout/relayout/plan/Transfer" 22) (hcT2 : Jvm.Lit.constHeld Z "com/example/relayout/relayout/plan/Transfer" 26) (hcT3 : Jvm.Lit.constHeld Z "com/example/relayout/relayout/plan/Transfer" 45) (hcT4 : Jvm.Lit.constHeld Z "com/example/relayout/relayout/plan/Transfer" 47) (hcH : Jvm.Lit.constHeld Z "java/lang/String" 7) (hcW : Jvm.Lit.compactW.before a0 Z = true) (S_FM : Sta Z Z.heap "jdk/internal/util/Preconditions" "SIOOBE_FORMATTER" "Ljava/util/function/BiFunction;" vFM) (rFM : vFM.isRef = true) (EsA : Exa Z h0 sA "java/lang/String") (CsA : Fld Z h0 sA "java/lang/String" "coder" "B" (.int (0 : Int32))) (VsA : Fld Z h0 sA "java/lang/String" "value" "[B" (.ref tA)) (AsA : Arv Z h0 tA kA .byte nA vA (.int 0)) (EsB : Exa Z h0 sB "java/lang/String") (CsB : Fld Z h0 sB "java/lang/String" "coder" "B" (.int (0 : Int32))) (VsB : Fld Z h0 sB "java/lang/String" "value" "[B" (.ref tB)) (AsB : Arv Z h0 tB kB .byte nB vB (.int 0)) (hP0 : (0 : Int32) < nB → ∃ v : Int32, ¬ (off < (0 : Int32)) ∧ off < nA ∧ List.getD vA off.toNatClampNeg (.int 0) = .int v ∧ List.getD vB (0 : Int32).toNatClampNeg (.int 0) = .int v) (hP1 : (1 : Int32) < nB → ∃ v : Int32, ¬ ((off + (1 : Int32)) < (0 : Int32)) ∧ (off + (1 : Int32)) < nA ∧ List.getD vA (off + (1 : Int32)).toNatClampNeg (.int 0) = .int v ∧ List.getD vB (1 : Int32).toNatClampNeg (.int 0) = .int v) :
    MetFree l (⟨"com/example/relayout/relayout/plan/TransferToStringPinLaw", "same", "(Ljava/lang/String;ILjava/lang/String;)Z"⟩ : MethodName) (head1 (Jvm.Cond.code (⟨"com/example/relayout/relayout/plan/TransferToStringPinLaw", "same", "(Ljava/lang/String;ILjava/lang/String;)Z"⟩ : MethodName) method_4_code 4 (some .boolean) :: ws) ({ frames := 4, cells := 0, slots := 0, locals := 54 } : Room)) (fun aa_ U_ => aa_ = #[(.ref sA), (.int off), (.ref sB)] ∧ Z.Warmed39 U_.vm ∧ U_.heap = h0) (fun _ _ _ _ _ => True) (fun _ U_ oo_ V_ => ∃ vv_ LL_, oo_ = .returned vv_ ∧ Q_same Z zCS vFM sA tA kA nA vA off sB tB kB nB vB h0 n0 vv_ V_.heap LL_ ∧ FrameEnd U_ oo_ V_ LL_ ({ frames := 4, cells := 0, slots := 0, locals := 54 } : Room).cells ({ frames := 4, cells := 0, slots := 0, locals := 54 } : Room).slots) := by
  refine MetFree.of_bodySF (plainFor_of_name pn_com_example_relayout_relayout_plan_TransferToStringPinLaw) hisR ?_
  intro p e s m args below meth c s₁ Bd hml0 hP hK
  obtain ⟨rfl, hZ, hh⟩ := hP
  have hx := Bd.exec
  have hby := Bd.bytes
  have hml : c.maxLocals = 4 := hml0
  have hown : s.vm.findClass "com/example/relayout/relayout/plan/TransferToStringPinLaw" = some m.cls := findClass_of_methodNamed Bd.named
  have hnm := (name_of_methodNamed Bd.named Bd.method).1
  have X0 : Stand p l e ({ frames := 4, cells := 0, slots := 0, locals := 54 } : Room) s m #[(.ref sA), (.int off), (.ref sB)] below meth c s₁ [] 0 0 := Stand.of_body Bd
  have e0 : s₁.heap = h0 := by rw [← hh, Bd.state]; rfl
  have N0 := Fr.nil n0
  have Z0 : n0 ≤ h0.size := O0.1 ▸ O0.2.1
  have hk0 := Nat.zero_le h0.size
  have K0 : Keep h0 h0 [] := Keep.refl _ _
  have R0 : ∀ t, Steps p.tables e below (s₁.setTop (mkF m 0 #[.val (.ref sA), .val (.int off), .val (.ref sB), .unset] [])) t → Steps p.tables e below (s₁.setTop (entryFrame m #[(.ref sA), (.int off), (.ref sB)] 4)) t := fun t k => castTop (ef_same m sA tA kA nA vA off sB tB kB nB vB) k
  obtain ⟨cq1, kq1, q1a, q1b, q1c⟩ := isOf hZ e0 EsB
  obtain ⟨_, _, ⟨T1, L1, k1, n1⟩, -, X1, ⟨Lc1, hQ1, cl_1, cy_1, cz_1⟩, st1⟩ := X0.virtualBack hx (y := (⟨"java/lang/String", "length", "()I"⟩ : MethodName)) (z := (⟨"java/lang/String", "length", "()I"⟩ : MethodName)) hown (mvT hZ (hw _ (List.mem_of_getElem? (i := 165) rfl))) (mvT hZ (hw _ (List.mem_of_getElem? (i := 81) rfl))) (notFace_of_selects (args := #[]) (mvT hZ (hw _ (List.mem_of_getElem? (i := 83) rfl)))) (mvT hZ (hw _ (List.mem_of_getElem? (i := 83) rfl))) (mvT hZ (hw _ (List.mem_of_getElem? (i := 82) rfl))) (by decide) (backOf (W := 0) (slen l Z a0 hw [] zCS vFM sB tB kB nB vB h0 n0 O0 S_CS hCS hcT0 hcT1 hcT2 hcT3 hcT4 hcH hcW S_FM rFM   EsB CsB VsB AsB) hZ (hw _ (List.mem_of_getElem? (i := 84) rfl)) (hw _ (List.mem_of_getElem? (i := 6) rfl)) (by decide) (by decide)) q1a q1c (g := (mkF m 1 #[.val (.ref sA), .val (.int off), .val (.ref sB), .unset] [(.ref sB)])) rfl (by rw [hml]; rfl) (Steps.refl _) (argsL := []) (rest := []) (lenOf pd_3 rfl) rfl (by show 2 * 0 + _ ≤ _; exact Nat.le_of_eq rfl) (hb hby d29_1) (fun _ _ => ⟨rfl, e0, (by decide : 0 + 0 ≤ _), (by decide : 0 + 0 ≤ _)⟩)
  dsimp only [Pt.U, Pt.locs, Pt.cells, Pt.slots] at X1 cl_1 cy_1 cz_1 st1 hQ1
  rw [cl_1, cy_1, cz_1] at X1
  obtain ⟨rfl, N1q, e1⟩ := hQ1
  have N1 := Fr.app N0 N1q
  have R2 : ∀ t, Steps p.tables e below (T1.setTop (mkF m 6 #[.val (.ref sA), .val (.int off), .val (.ref sB), .val (.int nB)] [(.int nB)])) t → Steps p.tables e below (s₁.setTop (entryFrame m #[(.ref sA), (.int off), (.ref sB)] 4)) t := by
    intro t k
    refine R0 t ?_
    show Steps p.tables e below (s₁.setTop (mkF m 0 #[.val (.ref sA), .val (.int off), .val (.ref sB), .unset] [])) t
    refine XS.aloadN X0.here hx rfl (hb hby d29_0) rfl rfl ?_
    show Steps p.tables e below (s₁.setTop (mkF m 1 #[.val (.ref sA), .val (.int off), .val (.ref sB), .unset] [(.ref sB)])) t
    refine st1.trans ?_
    show Steps p.tables e below (T1.setTop (mkF m 4 #[.val (.ref sA), .val (.int off), .val (.ref sB), .unset] [(.int nB)])) t
    refine XS.istoreN X1.here hx rfl (hb hby d29_4) rfl (l' := #[.val (.ref sA), .val (.int off), .val (.ref sB), .val (.int nB)]) rfl ?_
    show Steps p.tables e below (T1.setTop (mkF m 5 #[.val (.ref sA), .val (.int off), .val (.ref sB), .val (.int nB)] [])) t
    refine XS.iloadN X1.here hx rfl (hb hby d29_5) rfl ?_
    exact k
  by_cases hm0 : (0 : Int32) < nB
  · obtain ⟨vq0, gq0a, gq0b, gq0c, gq0d⟩ := hP0 hm0
    obtain ⟨cq3, kq3, q3a, q3b, q3c⟩ := isOf hZ e1 EsA
    obtain ⟨_, _, ⟨T3, L3, k3, n3⟩, -, X3, ⟨Lc3, hQ3, cl_3, cy_3, cz_3⟩, st3⟩ := X1.virtualBack hx (y := (⟨"java/lang/String", "charAt", "(I)C"⟩ : MethodName)) (z := (⟨"java/lang/String", "charAt", "(I)C"⟩ : MethodName)) hown (mvT hZ (hw _ (List.mem_of_getElem? (i := 169) rfl))) (mvT hZ (hw _ (List.mem_of_getElem? (i := 170) rfl))) (notFace_of_selects (args := #[]) (mvT hZ (hw _ (List.mem_of_getElem? (i := 172) rfl)))) (mvT hZ (hw _ (List.mem_of_getElem? (i := 172) rfl))) (mvT hZ (hw _ (List.mem_of_getElem? (i := 171) rfl))) (by decide) (backOf (W := 0) (sch l Z a0 hw [] zCS vFM sA tA kA nA vA off vq0 h0 n0 O0 S_CS hCS hcT0 hcT1 hcT2 hcT3 hcT4 hcH hcW S_FM rFM   EsA CsA VsA AsA gq0a gq0b gq0c) hZ (hw _ (List.mem_of_getElem? (i := 173) rfl)) (hw _ (List.mem_of_getElem? (i := 6) rfl)) (by decide) (by decide)) q3a q3c (g := (mkF m 11 #[.val (.ref sA), .val (.int off), .val (.ref sB), .val (.int nB)] [(.int off), (.ref sA)])) rfl (by rw [hml]; rfl) (Steps.refl _) (argsL := [(.int off)]) (rest := []) (lenOf pd_22 rfl) rfl (by show 2 * 0 + _ ≤ _; exact Nat.le_of_eq rfl) (hb hby d29_11) (fun _ _ => ⟨rfl, e1, (by decide : 0 + 0 ≤ _), (by decide : 0 + 0 ≤ _)⟩)
    dsimp only [Pt.U, Pt.locs, Pt.cells, Pt.slots] at X3 cl_3 cy_3 cz_3 st3 hQ3
    rw [cl_3, cy_3, cz_3] at X3
    obtain ⟨rfl, N3q, e3⟩ := hQ3
    have N3 := Fr.app N1 N3q
    obtain ⟨cq4, kq4, q4a, q4b, q4c⟩ := isOf hZ e3 EsB
    obtain ⟨_, _, ⟨T4, L4, k4, n4⟩, -, X4, ⟨Lc4, hQ4, cl_4, cy_4, cz_4⟩, st4⟩ := X3.virtualBack hx (y := (⟨"java/lang/String", "charAt", "(I)C"⟩ : MethodName)) (z := (⟨"java/lang/String", "charAt", "(I)C"⟩ : MethodName)) hown (mvT hZ (hw _ (List.mem_of_getElem? (i := 169) rfl))) (mvT hZ (hw _ (List.mem_of_getElem? (i := 170) rfl))) (notFace_of_selects (args := #[]) (mvT hZ (hw _ (List.mem_of_getElem? (i := 172) rfl)))) (mvT hZ (hw _ (List.mem_of_getElem? (i := 172) rfl))) (mvT hZ (hw _ (List.mem_of_getElem? (i := 171) rfl))) (by decide) (backOf (W := 1) (sch l Z a0 hw [] zCS vFM sB tB kB nB vB (0 : Int32) vq0 h0 n0 O0 S_CS hCS hcT0 hcT1 hcT2 hcT3 hcT4 hcH hcW S_FM rFM   EsB CsB VsB AsB (by decide) hm0 gq0d) hZ (hw _ (List.mem_of_getElem? (i := 173) rfl)) (hw _ (List.mem_of_getElem? (i := 6) rfl)) (by decide) (by decide)) q4a q4c (g := (mkF m 16 #[.val (.ref sA), .val (.int off), .val (.ref sB), .val (.int nB)] [(.int (0 : Int32)), (.ref sB), (.int (nar .char (nar .char ((vq0 &&& (255 : Int32)).toUInt32.toUInt16.toUInt32.toInt32))))])) rfl (by rw [hml]; rfl) (Steps.refl _) (argsL := [(.int (0 : Int32))]) (rest := [(.int (nar .char (nar .char ((vq0 &&& (255 : Int32)).toUInt32.toUInt16.toUInt32.toInt32))))]) (lenOf pd_22 rfl) rfl (by show 2 * 0 + _ ≤ _; exact Nat.le_of_eq rfl) (hb hby d29_16) (fun _ _ => ⟨rfl, e3, (by decide : 0 + 0 ≤ _), (by decide : 0 + 0 ≤ _)⟩)
    dsimp only [Pt.U, Pt.locs, Pt.cells, Pt.slots] at X4 cl_4 cy_4 cz_4 st4 hQ4
    rw [cl_4, cy_4, cz_4] at X4
    obtain ⟨rfl, N4q, e4⟩ := hQ4
    have N4 := Fr.app N3 N4q
    have R5 : ∀ t, Steps p.tables e below (T4.setTop (mkF m 26 #[.val (.ref sA), .val (.int off), .val (.ref sB), .val (.int nB)] [(.int (1 : Int32)), (.int nB)])) t → Steps p.tables e below (s₁.setTop (entryFrame m #[(.ref sA), (.int off), (.ref sB)] 4)) t := by
      intro t k
      refine R2 t ?_
      show Steps p.tables e below (T1.setTop (mkF m 6 #[.val (.ref sA), .val (.int off), .val (.ref sB), .val (.int nB)] [(.int nB)])) t
      refine XS.ifNo X1.here hx rfl (hb hby d29_6) rfl ((if0 _ _).trans (tlt (hm0 : (0 : Int32) < nB)).2.2.2) ?_
      show Steps p.tables e below (T1.setTop (mkF m 9 #[.val (.ref sA), .val (.int off), .val (.ref sB), .val (.int nB)] [])) t
      refine XS.aloadN X1.here hx rfl (hb hby d29_9) rfl rfl ?_
      show Steps p.tables e below (T1.setTop (mkF m 10 #[.val (.ref sA), .val (.int off), .val (.ref sB), .val (.int nB)] [(.ref sA)])) t
      refine XS.iloadN X1.here hx rfl (hb hby d29_10) rfl ?_
      show Steps p.tables e below (T1.setTop (mkF m 11 #[.val (.ref sA), .val (.int off), .val (.ref sB), .val (.int nB)] [(.int off), (.ref sA)])) t
      refine st3.trans ?_
      show Steps p.tables e below (T3.setTop (mkF m 14 #[.val (.ref sA), .val (.int off), .val (.ref sB), .val (.int nB)] [(.int (nar .char (nar .char ((vq0 &&& (255 : Int32)).toUInt32.toUInt16.toUInt32.toInt32))))])) t
      refine XS.aloadN X3.here hx rfl (hb hby d29_14) rfl rfl ?_
      show Steps p.tables e below (T3.setTop (mkF m 15 #[.val (.ref sA), .val (.int off), .val (.ref sB), .val (.int nB)] [(.ref sB), (.int (nar .char (nar .char ((vq0 &&& (255 : Int32)).toUInt32.toUInt16.toUInt32.toInt32))))])) t
      refine XS.iconst X3.here hx rfl (hb hby d29_15) ?_
      show Steps p.tables e below (T3.setTop (mkF m 16 #[.val (.ref sA), .val (.int off), .val (.ref sB), .val (.int nB)] [(.int (0 : Int32)), (.ref sB), (.int (nar .char (nar .char ((vq0 &&& (255 : Int32)).toUInt32.toUInt16.toUInt32.toInt32))))])) t
      refine st4.trans ?_
      show Steps p.tables e below (T4.setTop (mkF m 19 #[.val (.ref sA), .val (.int off), .val (.ref sB), .val (.int nB)] [(.int (nar .char (nar .char ((vq0 &&& (255 : Int32)).toUInt32.toUInt16.toUInt32.toInt32)))), (.int (nar .char (nar .char ((vq0 &&& (255 : Int32)).toUInt32.toUInt16.toUInt32.toInt32))))])) t
      refine XS.icmpYes X4.here hx rfl (pc0 := 19) (pc' := 24) rfl (hb hby d29_19) rfl (teq (rfl : (nar .char (nar .char ((vq0 &&& (255 : Int32)).toUInt32.toUInt16.toUInt32.toInt32))) = (nar .char (nar .char ((vq0 &&& (255 : Int32)).toUInt32.toUInt16.toUInt32.toInt32))))).1 (by decide) (by decide) ?_
      show Steps p.tables e below (T4.setTop (mkF m 24 #[.val (.ref sA), .val (.int off), .val (.ref sB), .val (.int nB)] [])) t
      refine XS.iloadN X4.here hx rfl (hb hby d29_24) rfl ?_
      show Steps p.tables e below (T4.setTop (mkF m 25 #[.val (.ref sA), .val (.int off), .val (.ref sB), .val (.int nB)] [(.int nB)])) t
      refine XS.iconst X4.here hx rfl (hb hby d29_25) ?_
      exact k
    by_cases hm1 : (1 : Int32) < nB
    · obtain ⟨vq1, gq1a, gq1b, gq1c, gq1d⟩ := hP1 hm1
      obtain ⟨cq6, kq6, q6a, q6b, q6c⟩ := isOf hZ e4 EsA
      obtain ⟨_, _, ⟨T6, L6, k6, n6⟩, -, X6, ⟨Lc6, hQ6, cl_6, cy_6, cz_6⟩, st6⟩ := X4.virtualBack hx (y := (⟨"java/lang/String", "charAt", "(I)C"⟩ : MethodName)) (z := (⟨"java/lang/String", "charAt", "(I)C"⟩ : MethodName)) hown (mvT hZ (hw _ (List.mem_of_getElem? (i := 169) rfl))) (mvT hZ (hw _ (List.mem_of_getElem? (i := 170) rfl))) (notFace_of_selects (args := #[]) (mvT hZ (hw _ (List.mem_of_getElem? (i := 172) rfl)))) (mvT hZ (hw _ (List.mem_of_getElem? (i := 172) rfl))) (mvT hZ (hw _ (List.mem_of_getElem? (i := 171) rfl))) (by decide) (backOf (W := 0) (sch l Z a0 hw [] zCS vFM sA tA kA nA vA (off + (1 : Int32)) vq1 h0 n0 O0 S_CS hCS hcT0 hcT1 hcT2 hcT3 hcT4 hcH hcW S_FM rFM   EsA CsA VsA AsA gq1a gq1b gq1c) hZ (hw _ (List.mem_of_getElem? (i := 173) rfl)) (hw _ (List.mem_of_getElem? (i := 6) rfl)) (by decide) (by decide)) q6a q6c (g := (mkF m 33 #[.val (.ref sA), .val (.int off), .val (.ref sB), .val (.int nB)] [(.int (off + (1 : Int32))), (.ref sA)])) rfl (by rw [hml]; rfl) (Steps.refl _) (argsL := [(.int (off + (1 : Int32)))]) (rest := []) (lenOf pd_22 rfl) rfl (by show 2 * 0 + _ ≤ _; exact Nat.le_of_eq rfl) (hb hby d29_33) (fun _ _ => ⟨rfl, e4, (by decide : 0 + 0 ≤ _), (by decide : 0 + 0 ≤ _)⟩)
      dsimp only [Pt.U, Pt.locs, Pt.cells, Pt.slots] at X6 cl_6 cy_6 cz_6 st6 hQ6
      rw [cl_6, cy_6, cz_6] at X6
      obtain ⟨rfl, N6q, e6⟩ := hQ6
      have N6 := Fr.app N4 N6q
      obtain ⟨cq7, kq7, q7a, q7b, q7c⟩ := isOf hZ e6 EsB
      obtain ⟨_, _, ⟨T7, L7, k7, n7⟩, -, X7, ⟨Lc7, hQ7, cl_7, cy_7, cz_7⟩, st7⟩ := X6.virtualBack hx (y := (⟨"java/lang/String", "charAt", "(I)C"⟩ : MethodName)) (z := (⟨"java/lang/String", "charAt", "(I)C"⟩ : MethodName)) hown (mvT hZ (hw _ (List.mem_of_getElem? (i := 169) rfl))) (mvT hZ (hw _ (List.mem_of_getElem? (i := 170) rfl))) (notFace_of_selects (args := #[]) (mvT hZ (hw _ (List.mem_of_getElem? (i := 172) rfl)))) (mvT hZ (hw _ (List.mem_of_getElem? (i := 172) rfl))) (mvT hZ (hw _ (List.mem_of_getElem? (i := 171) rfl))) (by decide) (backOf (W := 1) (sch l Z a0 hw [] zCS vFM sB tB kB nB vB (1 : Int32) vq1 h0 n0 O0 S_CS hCS hcT0 hcT1 hcT2 hcT3 hcT4 hcH hcW S_FM rFM   EsB CsB VsB AsB (by decide) hm1 gq1d) hZ (hw _ (List.mem_of_getElem? (i := 173) rfl)) (hw _ (List.mem_of_getElem? (i := 6) rfl)) (by decide) (by decide)) q7a q7c (g := (mkF m 38 #[.val (.ref sA), .val (.int off), .val (.ref sB), .val (.int nB)] [(.int (1 : Int32)), (.ref sB), (.int (nar .char (nar .char ((vq1 &&& (255 : Int32)).toUInt32.toUInt16.toUInt32.toInt32))))])) rfl (by rw [hml]; rfl) (Steps.refl _) (argsL := [(.int (1 : Int32))]) (rest := [(.int (nar .char (nar .char ((vq1 &&& (255 : Int32)).toUInt32.toUInt16.toUInt32.toInt32))))]) (lenOf pd_22 rfl) rfl (by show 2 * 0 + _ ≤ _; exact Nat.le_of_eq rfl) (hb hby d29_38) (fun _ _ => ⟨rfl, e6, (by decide : 0 + 0 ≤ _), (by decide : 0 + 0 ≤ _)⟩)
      dsimp only [Pt.U, Pt.locs, Pt.cells, Pt.slots] at X7 cl_7 cy_7 cz_7 st7 hQ7
      rw [cl_7, cy_7, cz_7] at X7
      obtain ⟨rfl, N7q, e7⟩ := hQ7
      have N7 := Fr.app N6 N7q
      have R8 : ∀ t, Steps p.tables e below (T7.setTop (mkF m 47 #[.val (.ref sA), .val (.int off), .val (.ref sB), .val (.int nB)] [(.int (1 : Int32))])) t → Steps p.tables e below (s₁.setTop (entryFrame m #[(.ref sA), (.int off), (.ref sB)] 4)) t := by
        intro t k
        refine R5 t ?_
        show Steps p.tables e below (T4.setTop (mkF m 26 #[.val (.ref sA), .val (.int off), .val (.ref sB), .val (.int nB)] [(.int (1 : Int32)), (.int nB)])) t
        refine XS.icmpNo X4.here hx rfl (hb hby d29_26) rfl (tlt (hm1 : (1 : Int32) < nB)).2.2.2 ?_
        show Steps p.tables e below (T4.setTop (mkF m 29 #[.val (.ref sA), .val (.int off), .val (.ref sB), .val (.int nB)] [])) t
        refine XS.aloadN X4.here hx rfl (hb hby d29_29) rfl rfl ?_
        show Steps p.tables e below (T4.setTop (mkF m 30 #[.val (.ref sA), .val (.int off), .val (.ref sB), .val (.int nB)] [(.ref sA)])) t
        refine XS.iloadN X4.here hx rfl (hb hby d29_30) rfl ?_
        show Steps p.tables e below (T4.setTop (mkF m 31 #[.val (.ref sA), .val (.int off), .val (.ref sB), .val (.int nB)] [(.int off), (.ref sA)])) t
        refine XS.iconst X4.here hx rfl (hb hby d29_31) ?_
        show Steps p.tables e below (T4.setTop (mkF m 32 #[.val (.ref sA), .val (.int off), .val (.ref sB), .val (.int nB)] [(.int (1 : Int32)), (.int off), (.ref sA)])) t
        refine XS.iadd X4.here hx rfl (hb hby d29_32) rfl ?_
        show Steps p.tables e below (T4.setTop (mkF m 33 #[.val (.ref sA), .val (.int off), .val (.ref sB), .val (.int nB)] [(.int (off + (1 : Int32))), (.ref sA)])) t
        refine st6.trans ?_
        show Steps p.tables e below (T6.setTop (mkF m 36 #[.val (.ref sA), .val (.int off), .val (.ref sB), .val (.int nB)] [(.int (nar .char (nar .char ((vq1 &&& (255 : Int32)).toUInt32.toUInt16.toUInt32.toInt32))))])) t
        refine XS.aloadN X6.here hx rfl (hb hby d29_36) rfl rfl ?_
        show Steps p.tables e below (T6.setTop (mkF m 37 #[.val (.ref sA), .val (.int off), .val (.ref sB), .val (.int nB)] [(.ref sB), (.int (nar .char (nar .char ((vq1 &&& (255 : Int32)).toUInt32.toUInt16.toUInt32.toInt32))))])) t
        refine XS.iconst X6.here hx rfl (hb hby d29_37) ?_
        show Steps p.tables e below (T6.setTop (mkF m 38 #[.val (.ref sA), .val (.int off), .val (.ref sB), .val (.int nB)] [(.int (1 : Int32)), (.ref sB), (.int (nar .char (nar .char ((vq1 &&& (255 : Int32)).toUInt32.toUInt16.toUInt32.toInt32))))])) t
        refine st7.trans ?_
        show Steps p.tables e below (T7.setTop (mkF m 41 #[.val (.ref sA), .val (.int off), .val (.ref sB), .val (.int nB)] [(.int (nar .char (nar .char ((vq1 &&& (255 : Int32)).toUInt32.toUInt16.toUInt32.toInt32)))), (.int (nar .char (nar .char ((vq1 &&& (255 : Int32)).toUInt32.toUInt16.toUInt32.toInt32))))])) t
        refine XS.icmpYes X7.here hx rfl (pc0 := 41) (pc' := 46) rfl (hb hby d29_41) rfl (teq (rfl : (nar .char (nar .char ((vq1 &&& (255 : Int32)).toUInt32.toUInt16.toUInt32.toInt32))) = (nar .char (nar .char ((vq1 &&& (255 : Int32)).toUInt32.toUInt16.toUInt32.toInt32))))).1 (by decide) (by decide) ?_
        show Steps p.tables e below (T7.setTop (mkF m 46 #[.val (.ref sA), .val (.int off), .val (.ref sB), .val (.int nB)] [])) t
        refine XS.iconst X7.here hx rfl (hb hby d29_46) ?_
        exact k
      obtain ⟨fs, hr, hrun, hended, hW, hsame⟩ := X7.leave (v := some (.int (1 : Int32))) (fun h => by rw [Bd.returns] at h; cases h)
      refine ⟨_, _, R8 _ ?_, hrun, hended, _, _, rfl, ?_, ⟨_, rfl⟩, hW, hsame.mono (by decide) (by decide)⟩
      · show Steps p.tables e below (T7.setTop (mkF m 47 #[.val (.ref sA), .val (.int off), .val (.ref sB), .val (.int nB)] [(.int (1 : Int32))])) _
        exact retN X7 hx (t := .boolean) Bd.returns (by simp) (hb hby d29_47) hr
      · show Q_same Z zCS vFM sA tA kA nA vA off sB tB kB nB vB h0 n0 _ T7.heap _
        rw [e7]
        exact ⟨rfl, N7, rfl⟩
    · have R9 : ∀ t, Steps p.tables e below (T4.setTop (mkF m 47 #[.val (.ref sA), .val (.int off), .val (.ref sB), .val (.int nB)] [(.int (1 : Int32))])) t → Steps p.tables e below (s₁.setTop (entryFrame m #[(.ref sA), (.int off), (.ref sB)] 4)) t := by
        intro t k
        refine R5 t ?_
        show Steps p.tables e below (T4.setTop (mkF m 26 #[.val (.ref sA), .val (.int off), .val (.ref sB), .val (.int nB)] [(.int (1 : Int32)), (.int nB)])) t
        refine XS.icmpYes X4.here hx rfl (pc0 := 26) (pc' := 46) rfl (hb hby d29_26) rfl (flt (hm1 : ¬ ((1 : Int32) < nB))).2.2.2 (by decide) (by decide) ?_
        show Steps p.tables e below (T4.setTop (mkF m 46 #[.val (.ref sA), .val (.int off), .val (.ref sB), .val (.int nB)] [])) t
        refine XS.iconst X4.here hx rfl (hb hby d29_46) ?_
        exact k
      obtain ⟨fs, hr, hrun, hended, hW, hsame⟩ := X4.leave (v := some (.int (1 : Int32))) (fun h => by rw [Bd.returns] at h; cases h)
      refine ⟨_, _, R9 _ ?_, hrun, hended, _, _, rfl, ?_, ⟨_, rfl⟩, hW, hsame.mono (by decide) (by decide)⟩
      · show Steps p.tables e below (T4.setTop (mkF m 47 #[.val (.ref sA), .val (.int off), .val (.ref sB), .val (.int nB)] [(.int (1 : Int32))])) _
        exact retN X4 hx (t := .boolean) Bd.returns (by simp) (hb hby d29_47) hr
      · show Q_same Z zCS vFM sA tA kA nA vA off sB tB kB nB vB h0 n0 _ T4.heap _
        rw [e4]
        exact ⟨rfl, N4, rfl⟩
  · have R10 : ∀ t, Steps p.tables e below (T1.setTop (mkF m 47 #[.val (.ref sA), .val (.int off), .val (.ref sB), .val (.int nB)] [(.int (1 : Int32))])) t → Steps p.tables e below (s₁.setTop (entryFrame m #[(.ref sA), (.int off), (.ref sB)] 4)) t := by
      intro t k
      refine R2 t ?_
      show Steps p.tables e below (T1.setTop (mkF m 6 #[.val (.ref sA), .val (.int off), .val (.ref sB), .val (.int nB)] [(.int nB)])) t
      refine XS.ifYes X1.here hx rfl (pc0 := 6) (pc' := 24) rfl (hb hby d29_6) rfl ((if0 _ _).trans (flt (hm0 : ¬ ((0 : Int32) < nB))).2.2.2) (by decide) (by decide) ?_
      show Steps p.tables e below (T1.setTop (mkF m 24 #[.val (.ref sA), .val (.int off), .val (.ref sB), .val (.int nB)] [])) t
      refine XS.iloadN X1.here hx rfl (hb hby d29_24) rfl ?_
      show Steps p.tables e below (T1.setTop (mkF m 25 #[.val (.ref sA), .val (.int off), .val (.ref sB), .val (.int nB)] [(.int nB)])) t
      refine XS.iconst X1.here hx rfl (hb hby d29_25) ?_
      show Steps p.tables e below (T1.setTop (mkF m 26 #[.val (.ref sA), .val (.int off), .val (.ref sB), .val (.int nB)] [(.int (1 : Int32)), (.int nB)])) t
      refine XS.icmpYes X1.here hx rfl (pc0 := 26) (pc' := 46) rfl (hb hby d29_26) rfl (flt ((own_01 hm0) : ¬ ((1 : Int32) < nB))).2.2.2 (by decide) (by decide) ?_
      show Steps p.tables e below (T1.setTop (mkF m 46 #[.val (.ref sA), .val (.int off), .val (.ref sB), .val (.int nB)] [])) t
      refine XS.iconst X1.here hx rfl (hb hby d29_46) ?_
      exact k
    obtain ⟨fs, hr, hrun, hended, hW, hsame⟩ := X1.leave (v := some (.int (1 : Int32))) (fun h => by rw [Bd.returns] at h; cases h)
    refine ⟨_, _, R10 _ ?_, hrun, hended, _, _, rfl, ?_, ⟨_, rfl⟩, hW, hsame.mono (by decide) (by decide)⟩
    · show Steps p.tables e below (T1.setTop (mkF m 47 #[.val (.ref sA), .val (.int off), .val (.ref sB), .val (.int nB)] [(.int (1 : Int32))])) _
      exact retN X1 hx (t := .boolean) Bd.returns (by simp) (hb hby d29_47) hr
    · show Q_same Z zCS vFM sA tA kA nA vA off sB tB kB nB vB h0 n0 _ T1.heap _
      rw [e1]
      exact ⟨rfl, N1, rfl⟩
theorem pd_23 : parseMethodDescriptor "(I)Ljava/lang/String;" = some ⟨[.int], some (.object "java/lang/String")⟩ := by decide +kernel
theorem pd_24 : parseMethodDescriptor "(Ljava/lang/String;Ljava/lang/String;Ljava/lang/String;)V" = some ⟨[(.object "java/lang/String"), (.object "java/lang/String"), (.object "java/lang/String")], none⟩ := by decide +kernel
theorem pd_25 : parseMethodDescriptor "(Ljava/lang/String;ILjava/lang/String;)Z" = some ⟨[(.object "java/lang/String"), .int, (.object "java/lang/String")], some .boolean⟩ := by decide +kernel
theorem ef_rm0 (m : MethodId) (pa : Int32) (pb : Int32) (pq : Int32) : entryFrame m #[(.int pa), (.int pb), (.int pq)] maxLocals = mkF m 0 #[.val (.int pa), .val (.int pb), .val (.int pq), .unset, .unset, .unset, .unset, .unset, .unset, .unset, .unset] [] := by first | (simp [entryFrame, mkF, argsToLocals, Value.category, maxLocals]; done) | rfl
def Q_rm0 (Z : State) (zCS : Int32) (vFM : Value) (pa : Int32) (pb : Int32) (pq : Int32) (h0 : Heap) (n0 : Nat) (vv_ : Option Value) (hh_ : Heap) (LL_ : List Loc) : Prop := vv_ = some (.int (1 : Int32)) ∧ (Fr n0 LL_)
set_option maxRecDepth 65536 in
set_option maxHeartbeats 40000000 in
theorem rm0 (l : Launch) (Z : State) (a0 : Array Value) (hw : ∀ d ∈ tables_1, d.before a0 Z = true) (ws : List Jvm.Cond) (zCS : Int32) (vFM : Value) (pa : Int32) (pb : Int32) (pq : Int32) (NN : Nat) (h0 : Heap) (n0 : Nat) (O0 : Old Z n0 h0) (S_CS : Sta Z Z.heap "java/lang/String" "COMPACT_STRINGS" "Z" (.int zCS)) (hCS : ¬ (zCS = (0 : Int32))) (hcT0 : Jvm.Lit.constHeld Z "com/example/relayout/relayout/plan/Transfer" 7) (hcT1 : Jvm.Lit.constHeld Z "com/example/relayout/relayout/plan/Transfer" 22) (hcT2 : Jvm.Lit.constHeld Z "com/example/relayout/relayout/plan/Transfer" 26) (hcT3 : Jvm.Lit.constHeld Z "com/example/relayout/relayout/plan/Transfer" 45) (hcT4 : Jvm.Lit.constHeld Z "com/example/relayout/relayout/plan/Transfer" 47) (hcH : Jvm.Lit.constHeld Z "java/lang/String" 7) (hcW : Jvm.Lit.compactW.before a0 Z = true) (S_FM : Sta Z Z.heap "jdk/internal/util/Preconditions" "SIOOBE_FORMATTER" "Ljava/util/function/BiFunction;" vFM) (rFM : vFM.isRef = true) :
    MetFree l x (head1 (Jvm.Cond.code x code maxLocals ret :: ws) room_1) (fun aa_ U_ => aa_ = #[(.int pa), (.int pb), (.int pq)] ∧ (Z.Warmed39 U_.vm ∧ LS Z "java/lang/String" 7 [] U_.vm h0 NN) ∧ U_.heap = h0) (fun _ _ _ _ _ => True) (fun _ U_ oo_ V_ => ∃ vv_ LL_, oo_ = .returned vv_ ∧ Q_rm0 Z zCS vFM pa pb pq h0 n0 vv_ V_.heap LL_ ∧ ReturnedEndW U_ oo_ V_ LL_ room_1.cells room_1.slots) := by
  refine MetFree.of_bodySF (plainFor_of_name pn_com_example_relayout_relayout_plan_TransferToStringPinLaw) hisR ?_
  intro p e s m args below meth c s₁ Bd hml0 hP hK
  obtain ⟨rfl, ⟨hZ, hL0⟩, hh⟩ := hP
  have hx := Bd.exec
  have hby := Bd.bytes
  have hml : c.maxLocals = 11 := hml0
  have hown : s.vm.findClass "com/example/relayout/relayout/plan/TransferToStringPinLaw" = some m.cls := findClass_of_methodNamed Bd.named
  have hnm := (name_of_methodNamed Bd.named Bd.method).1
  have hZ0 : Z.Warmed39 (s.setVm s.vm).vm := hZ
  have hown0 : (s.setVm s.vm).vm.findClass "com/example/relayout/relayout/plan/TransferToStringPinLaw" = some m.cls := hown
  have hS0 : s.Since s.vm 0 := ⟨State.Warmed39.refl s, fun j p h1 h2 => absurd (Array.getElem?_eq_some_iff.mp h2).1 (Nat.not_lt.mpr h1)⟩
  have X0 : Stand p l e room_1 (s.setVm s.vm) m #[(.int pa), (.int pb), (.int pq)] below meth c s₁ [] 0 0 := Stand.of_body Bd
  have e0 : s₁.heap = h0 := by rw [← hh, Bd.state]; rfl
  have N0 := Fr.nil n0
  have Z0 : n0 ≤ h0.size := O0.1 ▸ O0.2.1
  have hk0 := Nat.zero_le h0.size
  have K0 : Keep h0 h0 [] := Keep.refl _ _
  have R0 : ∀ t, Steps p.tables e below (s₁.setTop (mkF m 0 #[.val (.int pa), .val (.int pb), .val (.int pq), .unset, .unset, .unset, .unset, .unset, .unset, .unset, .unset] [])) t → Steps p.tables e below (s₁.setTop (entryFrame m #[(.int pa), (.int pb), (.int pq)] maxLocals)) t := fun t k => castTop (ef_rm0 m pa pb pq) k
  obtain ⟨_, _, ⟨T1, L1, k1, n1⟩, -, X1q, hS1q, hg1q, ⟨Lc1, hQ1, cl_1, cy_1, cz_1⟩, st1⟩ := callSS X0 hx (y := (⟨"com/example/relayout/relayout/plan/TransferToStringPinLaw", "mk", "(I)Ljava/lang/String;"⟩ : MethodName)) hown0 (mvT hZ0 (hw _ (List.mem_of_getElem? (i := 0) rfl))) (mvT hZ0 (hw _ (List.mem_of_getElem? (i := 1) rfl))) (mvT hZ0 (hw _ (List.mem_of_getElem? (i := 2) rfl))) (mvT hZ0 (hw _ (List.mem_of_getElem? (i := 3) rfl))) (by decide) (own_backV (W := 0) (Pv := fun vm_ => LS Z "java/lang/String" 7 [] vm_ h0 NN) (mk l Z a0 hw [] zCS vFM pa NN h0 n0 O0 S_CS hCS hcT0 hcT1 hcT2 hcT3 hcT4 hcH hcW S_FM rFM   ) hZ0 (fun vm_ hW_ => LS.warm (s := s) hL0 hW_) (hw _ (List.mem_of_getElem? (i := 3) rfl)) (hw _ (List.mem_of_getElem? (i := 2) rfl)) (by decide) (by decide)) (g := (mkF m 1 #[.val (.int pa), .val (.int pb), .val (.int pq), .unset, .unset, .unset, .unset, .unset, .unset, .unset, .unset] [(.int pa)])) rfl (by rw [hml]; rfl) (argsL := [(.int pa)]) (rest := []) (lenOf pd_23 rfl) rfl (by show 2 * 0 + _ ≤ _; exact Nat.le_of_eq rfl) (hb hby at_1) (fun _ _ => ⟨rfl, e0, (by decide : 0 + 4 ≤ _), (by decide : 0 + 8 ≤ _)⟩)
  dsimp only [Pt.U, Pt.locs, Pt.cells, Pt.slots] at X1q cl_1 cy_1 cz_1 st1 hQ1 hS1q hg1q
  rw [cl_1, cy_1, cz_1] at X1q
  obtain ⟨X1, hS1, hZ1, hown1⟩ := rebS hS0 (by rw [e0]; exact hk0) X1q hS1q hg1q hZ0 hown0
  have hk1 := Nat.le_refl T1.heap.size
  obtain ⟨b1, tt1, kb1, nn1, vs1, rfl, N1q, K1q, fr1_b, y1_0, y1_1, y1_2, y1_3, y1_4, hL1⟩ := hQ1
  have N1 := Fr.app N0 N1q
  have g_b1 : n0 ≤ b1 := Nat.le_trans Z0 fr1_b
  have sz_b1 : h0.size ≤ b1 := Nat.le_trans K0.1 fr1_b
  have nl_b1 : NN ≤ b1 := Nat.le_trans hL0.1 fr1_b
  have Z1 : n0 ≤ T1.heap.size := Nat.le_trans Z0 K1q.1
  have K1 : Keep h0 T1.heap [] := K0.trans K1q all0
  have O1 : Old Z n0 T1.heap := O0.keep K1q all0
  have ne_b1_tt1 : b1 ≠ tt1 := y1_0.neArv y1_3 (hw _ (List.mem_of_getElem? (i := 5) rfl))
  have NN0 := y1_4
  obtain ⟨_, _, ⟨T2, L2, k2, n2⟩, -, X2q, hS2q, hg2q, ⟨Lc2, hQ2, cl_2, cy_2, cz_2⟩, st2⟩ := callSS X1 hx (y := (⟨"com/example/relayout/relayout/plan/TransferToStringPinLaw", "mk", "(I)Ljava/lang/String;"⟩ : MethodName)) hown1 (mvT hZ1 (hw _ (List.mem_of_getElem? (i := 0) rfl))) (mvT hZ1 (hw _ (List.mem_of_getElem? (i := 1) rfl))) (mvT hZ1 (hw _ (List.mem_of_getElem? (i := 2) rfl))) (mvT hZ1 (hw _ (List.mem_of_getElem? (i := 3) rfl))) (by decide) (own_backV (W := 0) (Pv := fun vm_ => LS Z "java/lang/String" 7 [] vm_ T1.heap T1.heap.size) (mk l Z a0 hw [] zCS vFM pb T1.heap.size T1.heap n0 O1 S_CS hCS hcT0 hcT1 hcT2 hcT3 hcT4 hcH hcW S_FM rFM   ) hZ1 (fun vm_ hW_ => LS.warm (s := s) hL1 hW_) (hw _ (List.mem_of_getElem? (i := 3) rfl)) (hw _ (List.mem_of_getElem? (i := 2) rfl)) (by decide) (by decide)) (g := (mkF m 6 #[.val (.int pa), .val (.int pb), .val (.int pq), .val (.ref b1), .unset, .unset, .unset, .unset, .unset, .unset, .unset] [(.int pb)])) rfl (by rw [hml]; rfl) (argsL := [(.int pb)]) (rest := []) (lenOf pd_23 rfl) rfl (by show 2 * 0 + _ ≤ _; exact Nat.le_of_eq rfl) (hb hby at_6) (fun _ _ => ⟨rfl, rfl, (by decide : 4 + 4 ≤ _), (by decide : 8 + 8 ≤ _)⟩)
  dsimp only [Pt.U, Pt.locs, Pt.cells, Pt.slots] at X2q cl_2 cy_2 cz_2 st2 hQ2 hS2q hg2q
  rw [cl_2, cy_2, cz_2] at X2q
  obtain ⟨X2, hS2, hZ2, hown2⟩ := rebS hS1 hk1 X2q hS2q hg2q hZ1 hown1
  have hk2 := Nat.le_refl T2.heap.size
  obtain ⟨b2, tt2, kb2, nn2, vs2, rfl, N2q, K2q, fr2_b, y2_0, y2_1, y2_2, y2_3, y2_4, hL2⟩ := hQ2
  have N2 := Fr.app N1 N2q
  have ne_b1_b2 : b1 ≠ b2 := Nat.ne_of_lt (Nat.lt_of_lt_of_le y1_0.lt fr2_b)
  have ne_tt1_b2 : tt1 ≠ b2 := Nat.ne_of_lt (Nat.lt_of_lt_of_le y1_3.lt fr2_b)
  have g_b2 : n0 ≤ b2 := Nat.le_trans Z1 fr2_b
  have sz_b2 : h0.size ≤ b2 := Nat.le_trans K1.1 fr2_b
  have nl_b2 : T1.heap.size ≤ b2 := Nat.le_trans hL1.1 fr2_b
  have Z2 : n0 ≤ T2.heap.size := Nat.le_trans Z1 K2q.1
  have K2 : Keep h0 T2.heap [] := K1.trans K2q all0
  have O2 : Old Z n0 T2.heap := O1.keep K2q all0
  have f3 : Exa Z T2.heap b1 "java/lang/String" := (y1_0.keep K2q)
  have ne_b1_tt2 : b1 ≠ tt2 := f3.neArv y2_3 (hw _ (List.mem_of_getElem? (i := 5) rfl))
  have ne_b2_tt2 : b2 ≠ tt2 := y2_0.neArv y2_3 (hw _ (List.mem_of_getElem? (i := 5) rfl))
  have NN1 := y2_4
  obtain ⟨_, _, ⟨T4, L4, k4, n4⟩, -, X4q, hS4q, hg4q, ⟨Lc4, hQ4, cl_4, cy_4, cz_4⟩, st4⟩ := callSS X2 hx (y := (⟨"com/example/relayout/relayout/plan/TransferToStringPinLaw", "mk", "(I)Ljava/lang/String;"⟩ : MethodName)) hown2 (mvT hZ2 (hw _ (List.mem_of_getElem? (i := 0) rfl))) (mvT hZ2 (hw _ (List.mem_of_getElem? (i := 1) rfl))) (mvT hZ2 (hw _ (List.mem_of_getElem? (i := 2) rfl))) (mvT hZ2 (hw _ (List.mem_of_getElem? (i := 3) rfl))) (by decide) (own_backV (W := 0) (Pv := fun vm_ => LS Z "java/lang/String" 7 [] vm_ T2.heap T2.heap.size) (mk l Z a0 hw [] zCS vFM pq T2.heap.size T2.heap n0 O2 S_CS hCS hcT0 hcT1 hcT2 hcT3 hcT4 hcH hcW S_FM rFM   ) hZ2 (fun vm_ hW_ => LS.warm (s := s) hL2 hW_) (hw _ (List.mem_of_getElem? (i := 3) rfl)) (hw _ (List.mem_of_getElem? (i := 2) rfl)) (by decide) (by decide)) (g := (mkF m 12 #[.val (.int pa), .val (.int pb), .val (.int pq), .val (.ref b1), .val (.ref b2), .unset, .unset, .unset, .unset, .unset, .unset] [(.int pq)])) rfl (by rw [hml]; rfl) (argsL := [(.int pq)]) (rest := []) (lenOf pd_23 rfl) rfl (by show 2 * 0 + _ ≤ _; exact Nat.le_of_eq rfl) (hb hby at_12) (fun _ _ => ⟨rfl, rfl, (by decide : 8 + 4 ≤ _), (by decide : 16 + 8 ≤ _)⟩)
  dsimp only [Pt.U, Pt.locs, Pt.cells, Pt.slots] at X4q cl_4 cy_4 cz_4 st4 hQ4 hS4q hg4q
  rw [cl_4, cy_4, cz_4] at X4q
  obtain ⟨X4, hS4, hZ4, hown4⟩ := rebS hS2 hk2 X4q hS4q hg4q hZ2 hown2
  have hk4 := Nat.le_refl T4.heap.size
  obtain ⟨b4, tt4, kb4, nn4, vs4, rfl, N4q, K4q, fr4_b, y4_0, y4_1, y4_2, y4_3, y4_4, hL4⟩ := hQ4
  have N4 := Fr.app N2 N4q
  have ne_b1_b4 : b1 ≠ b4 := Nat.ne_of_lt (Nat.lt_of_lt_of_le f3.lt fr4_b)
  have f5 : Arv Z T2.heap tt1 kb1 .byte nn1 vs1 (.int 0) := (y1_3.keep K2q nin0)
  have ne_tt1_b4 : tt1 ≠ b4 := Nat.ne_of_lt (Nat.lt_of_lt_of_le f5.lt fr4_b)
  have ne_b2_b4 : b2 ≠ b4 := Nat.ne_of_lt (Nat.lt_of_lt_of_le y2_0.lt fr4_b)
  have ne_tt2_b4 : tt2 ≠ b4 := Nat.ne_of_lt (Nat.lt_of_lt_of_le y2_3.lt fr4_b)
  have g_b4 : n0 ≤ b4 := Nat.le_trans Z2 fr4_b
  have sz_b4 : h0.size ≤ b4 := Nat.le_trans K2.1 fr4_b
  have nl_b4 : T2.heap.size ≤ b4 := Nat.le_trans hL2.1 fr4_b
  have Z4 : n0 ≤ T4.heap.size := Nat.le_trans Z2 K4q.1
  have K4 : Keep h0 T4.heap [] := K2.trans K4q all0
  have O4 : Old Z n0 T4.heap := O2.keep K4q all0
  have f6 : Exa Z T4.heap b1 "java/lang/String" := (f3.keep K4q)
  have ne_b1_tt4 : b1 ≠ tt4 := f6.neArv y4_3 (hw _ (List.mem_of_getElem? (i := 5) rfl))
  have f7 : Exa Z T4.heap b2 "java/lang/String" := (y2_0.keep K4q)
  have ne_b2_tt4 : b2 ≠ tt4 := f7.neArv y4_3 (hw _ (List.mem_of_getElem? (i := 5) rfl))
  have ne_b4_tt4 : b4 ≠ tt4 := y4_0.neArv y4_3 (hw _ (List.mem_of_getElem? (i := 5) rfl))
  have NN2 := y4_4
  obtain ⟨T8, h8, X8, e8, E8, A8, D8, -, st8⟩ := newO X4 hx hZ4 hown4 (hw _ (List.mem_of_getElem? (i := 26) rfl)) (hw _ (List.mem_of_getElem? (i := 27) rfl)) (hw _ (List.mem_of_getElem? (i := 28) rfl)) rfl (g := (mkF m 17 #[.val (.int pa), .val (.int pb), .val (.int pq), .val (.ref b1), .val (.ref b2), .val (.ref b4), .unset, .unset, .unset, .unset, .unset] [])) rfl (hb hby at_17) (by decide) (by decide)
  obtain ⟨b8, gg8⟩ : ∃ z, z = T4.heap.size := ⟨_, rfl⟩
  rw [← gg8] at A8 D8 st8
  have ne_b1_b8 : b1 ≠ b8 := Nat.ne_of_lt (Nat.lt_of_lt_of_le f6.lt (Nat.le_of_eq gg8.symm))
  have f9 : Arv Z T4.heap tt1 kb1 .byte nn1 vs1 (.int 0) := (f5.keep K4q nin0)
  have ne_tt1_b8 : tt1 ≠ b8 := Nat.ne_of_lt (Nat.lt_of_lt_of_le f9.lt (Nat.le_of_eq gg8.symm))
  have ne_b2_b8 : b2 ≠ b8 := Nat.ne_of_lt (Nat.lt_of_lt_of_le f7.lt (Nat.le_of_eq gg8.symm))
  have f10 : Arv Z T4.heap tt2 kb2 .byte nn2 vs2 (.int 0) := (y2_3.keep K4q nin0)
  have ne_tt2_b8 : tt2 ≠ b8 := Nat.ne_of_lt (Nat.lt_of_lt_of_le f10.lt (Nat.le_of_eq gg8.symm))
  have ne_b4_b8 : b4 ≠ b8 := Nat.ne_of_lt (Nat.lt_of_lt_of_le y4_0.lt (Nat.le_of_eq gg8.symm))
  have ne_tt4_b8 : tt4 ≠ b8 := Nat.ne_of_lt (Nat.lt_of_lt_of_le y4_3.lt (Nat.le_of_eq gg8.symm))
  have g_b8 : n0 ≤ b8 := Nat.le_trans Z4 (Nat.le_of_eq gg8.symm)
  have sz_b8 : h0.size ≤ b8 := Nat.le_trans K4.1 (Nat.le_of_eq gg8.symm)
  have nl_b8 : T4.heap.size ≤ b8 := Nat.le_trans hL4.1 (Nat.le_of_eq gg8.symm)
  have hL8 := hL4.ext E8
  have Z8 : n0 ≤ h8.size := Nat.le_trans Z4 E8.1
  have K8 : Keep h0 h8 [] := K4.ext E8
  have O8 : Old Z n0 h8 := O4.ext E8
  have hk8 := Nat.le_trans hk4 E8.1
  have F8_item : Fld Z h8 b8 "com/example/relayout/relayout/plan/Transfer" "item" "Ljava/lang/String;" .null := D8 (Or.inr (hw _ (List.mem_of_getElem? (i := 40) rfl))) (ty := (.object "java/lang/String")) (by decide)
  have F8_from : Fld Z h8 b8 "com/example/relayout/relayout/plan/Transfer" "from" "Ljava/lang/String;" .null := D8 (Or.inr (hw _ (List.mem_of_getElem? (i := 43) rfl))) (ty := (.object "java/lang/String")) (by decide)
  have F8_to : Fld Z h8 b8 "com/example/relayout/relayout/plan/Transfer" "to" "Ljava/lang/String;" .null := D8 (Or.inr (hw _ (List.mem_of_getElem? (i := 46) rfl))) (ty := (.object "java/lang/String")) (by decide)
  have f12 : Exa Z h8 b1 "java/lang/String" := (f6.ext E8)
  have f13 : Exa Z h8 b2 "java/lang/String" := (f7.ext E8)
  have f14 : Exa Z h8 b4 "java/lang/String" := (y4_0.ext E8)
  obtain ⟨_, _, ⟨T11, L11, k11, n11⟩, -, X11q, hS11q, hg11q, ⟨Lc11, hQ11, cl_11, cy_11, cz_11⟩, st11⟩ := X8.specialBackS hx (y := (⟨"com/example/relayout/relayout/plan/Transfer", "<init>", "(Ljava/lang/String;Ljava/lang/String;Ljava/lang/String;)V"⟩ : MethodName)) rfl hown4 (mvT hZ4 (hw _ (List.mem_of_getElem? (i := 29) rfl))) (mvT hZ4 (hw _ (List.mem_of_getElem? (i := 30) rfl))) (mvT hZ4 (hw _ (List.mem_of_getElem? (i := 31) rfl))) (by decide) (own_backV (W := 1) (Pv := fun vm_ => LS Z "java/lang/String" 7 [] vm_ h8 T4.heap.size) (tinit l Z a0 hw [] zCS vFM b8 b1 b2 b4 .null .null .null T4.heap.size h8 n0 O8 S_CS hCS hcT0 hcT1 hcT2 hcT3 hcT4 hcH hcW S_FM rFM g_b8  A8 F8_item F8_from F8_to f12 f13 f14) hZ4 (fun vm_ hW_ => LS.warm (s := s) hL8 hW_) (hw _ (List.mem_of_getElem? (i := 31) rfl)) (hw _ (List.mem_of_getElem? (i := 28) rfl)) (by decide) (by decide)) (g := (mkF m 26 #[.val (.int pa), .val (.int pb), .val (.int pq), .val (.ref b1), .val (.ref b2), .val (.ref b4), .unset, .unset, .unset, .unset, .unset] [(.ref b4), (.ref b2), (.ref b1), (.ref b8), (.ref b8)])) rfl (by rw [hml]; rfl) (Steps.refl _) (a := b8) (argsL := [(.ref b1), (.ref b2), (.ref b4)]) (rest := [(.ref b8)]) (lenOf pd_24 rfl) rfl (by show 2 * 0 + _ ≤ _; exact Nat.le_of_eq rfl) (hb hby at_26) (fun _ _ => ⟨rfl, e8, (by decide : 13 + 6 ≤ _), (by decide : 27 + 52 ≤ _)⟩)
  dsimp only [Pt.U, Pt.locs, Pt.cells, Pt.slots] at X11q cl_11 cy_11 cz_11 st11 hQ11 hS11q hg11q
  rw [cl_11, cy_11, cz_11] at X11q
  obtain ⟨X11, hS11, hZ11, hown11⟩ := rebS hS4 (by rw [e8]; exact hk8) X11q hS11q hg11q hZ4 hown4
  have hk11 := Nat.le_refl T11.heap.size
  obtain ⟨rfl, N11q, K11q, y11_0, y11_1, y11_2, y11_3, hL11⟩ := hQ11
  have N11 := Fr.app N4 N11q
  have Z11 : n0 ≤ T11.heap.size := Nat.le_trans Z8 K11q.1
  have K11 : Keep h0 T11.heap [] := K8.trans K11q (allS (Or.inr sz_b8) all0)
  have O11 : Old Z n0 T11.heap := O8.keep K11q (allS g_b8 all0)
  have f16 : Exa Z T11.heap b1 "java/lang/String" := (f12.keep K11q)
  have f17 : Fld Z T11.heap b1 "java/lang/String" "coder" "B" (.int (0 : Int32)) := ((((y1_1.keep K2q nin0).keep K4q nin0).ext E8).keep K11q (ninS ne_b1_b8 nin0))
  have f18 : Fld Z T11.heap b1 "java/lang/String" "value" "[B" (.ref tt1) := ((((y1_2.keep K2q nin0).keep K4q nin0).ext E8).keep K11q (ninS ne_b1_b8 nin0))
  have f19 : Arv Z T11.heap tt1 kb1 .byte nn1 vs1 (.int 0) := ((f9.ext E8).keep K11q (ninS ne_tt1_b8 nin0))
  have f20 : Exa Z T11.heap b2 "java/lang/String" := (f13.keep K11q)
  have f21 : Fld Z T11.heap b2 "java/lang/String" "coder" "B" (.int (0 : Int32)) := (((y2_1.keep K4q nin0).ext E8).keep K11q (ninS ne_b2_b8 nin0))
  have f22 : Fld Z T11.heap b2 "java/lang/String" "value" "[B" (.ref tt2) := (((y2_2.keep K4q nin0).ext E8).keep K11q (ninS ne_b2_b8 nin0))
  have f23 : Arv Z T11.heap tt2 kb2 .byte nn2 vs2 (.int 0) := ((f10.ext E8).keep K11q (ninS ne_tt2_b8 nin0))
  have f24 : Exa Z T11.heap b4 "java/lang/String" := (f14.keep K11q)
  have f25 : Fld Z T11.heap b4 "java/lang/String" "coder" "B" (.int (0 : Int32)) := ((y4_1.ext E8).keep K11q (ninS ne_b4_b8 nin0))
  have f26 : Fld Z T11.heap b4 "java/lang/String" "value" "[B" (.ref tt4) := ((y4_2.ext E8).keep K11q (ninS ne_b4_b8 nin0))
  have f27 : Arv Z T11.heap tt4 kb4 .byte nn4 vs4 (.int 0) := ((y4_3.ext E8).keep K11q (ninS ne_tt4_b8 nin0))
  obtain ⟨cq15, kq15, q15a, q15b, q15c⟩ := isOf hZ11 rfl y11_0
  obtain ⟨_, _, ⟨T15, L15, k15, n15⟩, -, X15q, hS15q, hg15q, ⟨Lc15, hQ15, cl_15, cy_15, cz_15⟩, st15⟩ := X11.virtualBackS hx (y := (⟨"com/example/relayout/relayout/plan/Transfer", "toString", "()Ljava/lang/String;"⟩ : MethodName)) (z := (⟨"com/example/relayout/relayout/plan/Transfer", "toString", "()Ljava/lang/String;"⟩ : MethodName)) hown11 (mvT hZ11 (hw _ (List.mem_of_getElem? (i := 47) rfl))) (mvT hZ11 (hw _ (List.mem_of_getElem? (i := 48) rfl))) (notFace_of_selects (args := #[]) (mvT hZ11 (hw _ (List.mem_of_getElem? (i := 50) rfl)))) (mvT hZ11 (hw _ (List.mem_of_getElem? (i := 50) rfl))) (mvT hZ11 (hw _ (List.mem_of_getElem? (i := 49) rfl))) (by decide) (own_backV (W := 0) (Pv := fun vm_ => LS Z "java/lang/String" 7 ("to" :: ("from" :: ("item" :: []))) vm_ T11.heap T11.heap.size) (tost l Z a0 hw [] zCS vFM b8 b1 tt1 kb1 nn1 vs1 b2 tt2 kb2 nn2 vs2 b4 tt4 kb4 nn4 vs4 T11.heap.size T11.heap n0 O11 S_CS hCS hcT0 hcT1 hcT2 hcT3 hcT4 hcH hcW S_FM rFM   y11_0 y11_1 y11_2 y11_3 f16 f17 f18 f19 NN0 f20 f21 f22 f23 NN1 f24 f25 f26 f27 NN2) hZ11 (fun vm_ hW_ => LS.warm (s := s) hL11 hW_) (hw _ (List.mem_of_getElem? (i := 51) rfl)) (hw _ (List.mem_of_getElem? (i := 28) rfl)) (by decide) (by decide)) q15a q15c (g := (mkF m 33 #[.val (.int pa), .val (.int pb), .val (.int pq), .val (.ref b1), .val (.ref b2), .val (.ref b4), .val (.ref b8), .unset, .unset, .unset, .unset] [(.ref b8)])) rfl (by rw [hml]; rfl) (Steps.refl _) (argsL := []) (rest := []) (lenOf pd_21 rfl) rfl (by show 2 * 0 + _ ≤ _; exact Nat.le_of_eq rfl) (hb hby at_33) (fun _ _ => ⟨rfl, rfl, (by decide : 19 + 8 ≤ _), (by decide : 79 + 56 ≤ _)⟩)
  dsimp only [Pt.U, Pt.locs, Pt.cells, Pt.slots] at X15q cl_15 cy_15 cz_15 st15 hQ15 hS15q hg15q
  rw [cl_15, cy_15, cz_15] at X15q
  obtain ⟨X15, hS15, hZ15, hown15⟩ := rebS hS11 hk11 X15q hS15q hg15q hZ11 hown11
  have hk15 := Nat.le_refl T15.heap.size
  obtain ⟨b15, tt15, kb15, rfl, N15q, K15q, fr15_b, y15_0, y15_1, y15_2, y15_3, hL15⟩ := hQ15
  have N15 := Fr.app N11 N15q
  have ne_b1_b15 : b1 ≠ b15 := Nat.ne_of_lt (Nat.lt_of_lt_of_le f16.lt fr15_b)
  have ne_tt1_b15 : tt1 ≠ b15 := Nat.ne_of_lt (Nat.lt_of_lt_of_le f19.lt fr15_b)
  have ne_b2_b15 : b2 ≠ b15 := Nat.ne_of_lt (Nat.lt_of_lt_of_le f20.lt fr15_b)
  have ne_tt2_b15 : tt2 ≠ b15 := Nat.ne_of_lt (Nat.lt_of_lt_of_le f23.lt fr15_b)
  have ne_b4_b15 : b4 ≠ b15 := Nat.ne_of_lt (Nat.lt_of_lt_of_le f24.lt fr15_b)
  have ne_tt4_b15 : tt4 ≠ b15 := Nat.ne_of_lt (Nat.lt_of_lt_of_le f27.lt fr15_b)
  have ne_b8_b15 : b8 ≠ b15 := Nat.ne_of_lt (Nat.lt_of_lt_of_le y11_0.lt fr15_b)
  have g_b15 : n0 ≤ b15 := Nat.le_trans Z11 fr15_b
  have sz_b15 : h0.size ≤ b15 := Nat.le_trans K11.1 fr15_b
  have nl_b15 : T11.heap.size ≤ b15 := Nat.le_trans hL11.1 fr15_b
  have Z15 : n0 ≤ T15.heap.size := Nat.le_trans Z11 K15q.1
  have K15 : Keep h0 T15.heap [] := K11.trans K15q all0
  have O15 : Old Z n0 T15.heap := O11.keep K15q all0
  have f28 : Exa Z T15.heap b1 "java/lang/String" := (f16.keep K15q)
  have ne_b1_tt15 : b1 ≠ tt15 := f28.neArv y15_3 (hw _ (List.mem_of_getElem? (i := 5) rfl))
  have f29 : Exa Z T15.heap b2 "java/lang/String" := (f20.keep K15q)
  have ne_b2_tt15 : b2 ≠ tt15 := f29.neArv y15_3 (hw _ (List.mem_of_getElem? (i := 5) rfl))
  have f30 : Exa Z T15.heap b4 "java/lang/String" := (f24.keep K15q)
  have ne_b4_tt15 : b4 ≠ tt15 := f30.neArv y15_3 (hw _ (List.mem_of_getElem? (i := 5) rfl))
  have f31 : Exa Z T15.heap b8 "com/example/relayout/relayout/plan/Transfer" := (y11_0.keep K15q)
  have ne_b8_tt15 : b8 ≠ tt15 := f31.neArv y15_3 (hw _ (List.mem_of_getElem? (i := 27) rfl))
  have ne_b15_tt15 : b15 ≠ tt15 := y15_0.neArv y15_3 (hw _ (List.mem_of_getElem? (i := 5) rfl))
  have NR : own_N _ ((((((0 : Int32) + nn1) + (1 : Int32)) + nn2) + (1 : Int32)) + nn4) ((((([] ++ vs1) ++ [(.int (32 : Int32))]) ++ vs2) ++ [(.int (62 : Int32))]) ++ vs4) := own_Nadd (own_Nadd (own_Nadd (own_Nadd (own_Nadd own_N0 NN0 (by decide)) (own_N1 (32 : Int32)) (by decide)) NN1 (by decide)) (own_N1 (62 : Int32)) (by decide)) NN2 (by decide)
  have NP1 := own_Nadd NN0 (own_N1 (32 : Int32)) (by decide)
  have NP2 := own_Nadd NP1 NN1 (by decide)
  have NP3 : own_N _ ((nn1 + nn2) + (2 : Int32)) _ := own_off nn1 nn2 ▸ own_Nadd NP2 (own_N1 (62 : Int32)) (by decide)
  have f33 : Fld Z T15.heap b1 "java/lang/String" "coder" "B" (.int (0 : Int32)) := (f17.keep K15q nin0)
  have f34 : Fld Z T15.heap b1 "java/lang/String" "value" "[B" (.ref tt1) := (f18.keep K15q nin0)
  have f35 : Arv Z T15.heap tt1 kb1 .byte nn1 vs1 (.int 0) := (f19.keep K15q nin0)
  obtain ⟨cq32, kq32, q32a, q32b, q32c⟩ := isOf hZ15 rfl f28
  obtain ⟨_, _, ⟨T32, L32, k32, n32⟩, -, X32, ⟨Lc32, hQ32, cl_32, cy_32, cz_32⟩, st32⟩ := X15.virtualBack hx (y := (⟨"java/lang/String", "length", "()I"⟩ : MethodName)) (z := (⟨"java/lang/String", "length", "()I"⟩ : MethodName)) hown15 (mvT hZ15 (hw _ (List.mem_of_getElem? (i := 165) rfl))) (mvT hZ15 (hw _ (List.mem_of_getElem? (i := 81) rfl))) (notFace_of_selects (args := #[]) (mvT hZ15 (hw _ (List.mem_of_getElem? (i := 83) rfl)))) (mvT hZ15 (hw _ (List.mem_of_getElem? (i := 83) rfl))) (mvT hZ15 (hw _ (List.mem_of_getElem? (i := 82) rfl))) (by decide) (backOf (W := 0) (slen l Z a0 hw [] zCS vFM b1 tt1 kb1 nn1 vs1 T15.heap n0 O15 S_CS hCS hcT0 hcT1 hcT2 hcT3 hcT4 hcH hcW S_FM rFM   f28 f33 f34 f35) hZ15 (hw _ (List.mem_of_getElem? (i := 84) rfl)) (hw _ (List.mem_of_getElem? (i := 6) rfl)) (by decide) (by decide)) q32a q32c (g := (mkF m 46 #[.val (.int pa), .val (.int pb), .val (.int pq), .val (.ref b1), .val (.ref b2), .val (.ref b4), .val (.ref b8), .val (.ref b15), .unset, .unset, .unset] [(.ref b1)])) rfl (by rw [hml]; rfl) (Steps.refl _) (argsL := []) (rest := []) (lenOf pd_3 rfl) rfl (by show 2 * 0 + _ ≤ _; exact Nat.le_of_eq rfl) (hb hby at_46) (fun _ _ => ⟨rfl, rfl, (by decide : 27 + 0 ≤ _), (by decide : 135 + 0 ≤ _)⟩)
  dsimp only [Pt.U, Pt.locs, Pt.cells, Pt.slots] at X32 cl_32 cy_32 cz_32 st32 hQ32
  rw [cl_32, cy_32, cz_32] at X32
  obtain ⟨rfl, N32q, e32⟩ := hQ32
  have N32 := Fr.app N15 N32q
  have f37 : Fld Z T15.heap b2 "java/lang/String" "coder" "B" (.int (0 : Int32)) := (f21.keep K15q nin0)
  have f38 : Fld Z T15.heap b2 "java/lang/String" "value" "[B" (.ref tt2) := (f22.keep K15q nin0)
  have f39 : Arv Z T15.heap tt2 kb2 .byte nn2 vs2 (.int 0) := (f23.keep K15q nin0)
  obtain ⟨cq36, kq36, q36a, q36b, q36c⟩ := isOf hZ15 e32 f29
  obtain ⟨_, _, ⟨T36, L36, k36, n36⟩, -, X36, ⟨Lc36, hQ36, cl_36, cy_36, cz_36⟩, st36⟩ := X32.virtualBack hx (y := (⟨"java/lang/String", "length", "()I"⟩ : MethodName)) (z := (⟨"java/lang/String", "length", "()I"⟩ : MethodName)) hown15 (mvT hZ15 (hw _ (List.mem_of_getElem? (i := 165) rfl))) (mvT hZ15 (hw _ (List.mem_of_getElem? (i := 81) rfl))) (notFace_of_selects (args := #[]) (mvT hZ15 (hw _ (List.mem_of_getElem? (i := 83) rfl)))) (mvT hZ15 (hw _ (List.mem_of_getElem? (i := 83) rfl))) (mvT hZ15 (hw _ (List.mem_of_getElem? (i := 82) rfl))) (by decide) (backOf (W := 0) (slen l Z a0 hw [] zCS vFM b2 tt2 kb2 nn2 vs2 T15.heap n0 O15 S_CS hCS hcT0 hcT1 hcT2 hcT3 hcT4 hcH hcW S_FM rFM   f29 f37 f38 f39) hZ15 (hw _ (List.mem_of_getElem? (i := 84) rfl)) (hw _ (List.mem_of_getElem? (i := 6) rfl)) (by decide) (by decide)) q36a q36c (g := (mkF m 53 #[.val (.int pa), .val (.int pb), .val (.int pq), .val (.ref b1), .val (.ref b2), .val (.ref b4), .val (.ref b8), .val (.ref b15), .val (.int nn1), .unset, .unset] [(.ref b2)])) rfl (by rw [hml]; rfl) (Steps.refl _) (argsL := []) (rest := []) (lenOf pd_3 rfl) rfl (by show 2 * 0 + _ ≤ _; exact Nat.le_of_eq rfl) (hb hby at_53) (fun _ _ => ⟨rfl, e32, (by decide : 27 + 0 ≤ _), (by decide : 135 + 0 ≤ _)⟩)
  dsimp only [Pt.U, Pt.locs, Pt.cells, Pt.slots] at X36 cl_36 cy_36 cz_36 st36 hQ36
  rw [cl_36, cy_36, cz_36] at X36
  obtain ⟨rfl, N36q, e36⟩ := hQ36
  have N36 := Fr.app N32 N36q
  have f41 : Fld Z T15.heap b4 "java/lang/String" "coder" "B" (.int (0 : Int32)) := (f25.keep K15q nin0)
  have f42 : Fld Z T15.heap b4 "java/lang/String" "value" "[B" (.ref tt4) := (f26.keep K15q nin0)
  have f43 : Arv Z T15.heap tt4 kb4 .byte nn4 vs4 (.int 0) := (f27.keep K15q nin0)
  obtain ⟨cq40, kq40, q40a, q40b, q40c⟩ := isOf hZ15 e36 f30
  obtain ⟨_, _, ⟨T40, L40, k40, n40⟩, -, X40, ⟨Lc40, hQ40, cl_40, cy_40, cz_40⟩, st40⟩ := X36.virtualBack hx (y := (⟨"java/lang/String", "length", "()I"⟩ : MethodName)) (z := (⟨"java/lang/String", "length", "()I"⟩ : MethodName)) hown15 (mvT hZ15 (hw _ (List.mem_of_getElem? (i := 165) rfl))) (mvT hZ15 (hw _ (List.mem_of_getElem? (i := 81) rfl))) (notFace_of_selects (args := #[]) (mvT hZ15 (hw _ (List.mem_of_getElem? (i := 83) rfl)))) (mvT hZ15 (hw _ (List.mem_of_getElem? (i := 83) rfl))) (mvT hZ15 (hw _ (List.mem_of_getElem? (i := 82) rfl))) (by decide) (backOf (W := 0) (slen l Z a0 hw [] zCS vFM b4 tt4 kb4 nn4 vs4 T15.heap n0 O15 S_CS hCS hcT0 hcT1 hcT2 hcT3 hcT4 hcH hcW S_FM rFM   f30 f41 f42 f43) hZ15 (hw _ (List.mem_of_getElem? (i := 84) rfl)) (hw _ (List.mem_of_getElem? (i := 6) rfl)) (by decide) (by decide)) q40a q40c (g := (mkF m 60 #[.val (.int pa), .val (.int pb), .val (.int pq), .val (.ref b1), .val (.ref b2), .val (.ref b4), .val (.ref b8), .val (.ref b15), .val (.int nn1), .val (.int nn2), .unset] [(.ref b4)])) rfl (by rw [hml]; rfl) (Steps.refl _) (argsL := []) (rest := []) (lenOf pd_3 rfl) rfl (by show 2 * 0 + _ ≤ _; exact Nat.le_of_eq rfl) (hb hby at_60) (fun _ _ => ⟨rfl, e36, (by decide : 27 + 0 ≤ _), (by decide : 135 + 0 ≤ _)⟩)
  dsimp only [Pt.U, Pt.locs, Pt.cells, Pt.slots] at X40 cl_40 cy_40 cz_40 st40 hQ40
  rw [cl_40, cy_40, cz_40] at X40
  obtain ⟨rfl, N40q, e40⟩ := hQ40
  have N40 := Fr.app N36 N40q
  obtain ⟨cq44, kq44, q44a, q44b, q44c⟩ := isOf hZ15 e40 y15_0
  obtain ⟨_, _, ⟨T44, L44, k44, n44⟩, -, X44, ⟨Lc44, hQ44, cl_44, cy_44, cz_44⟩, st44⟩ := X40.virtualBack hx (y := (⟨"java/lang/String", "length", "()I"⟩ : MethodName)) (z := (⟨"java/lang/String", "length", "()I"⟩ : MethodName)) hown15 (mvT hZ15 (hw _ (List.mem_of_getElem? (i := 165) rfl))) (mvT hZ15 (hw _ (List.mem_of_getElem? (i := 81) rfl))) (notFace_of_selects (args := #[]) (mvT hZ15 (hw _ (List.mem_of_getElem? (i := 83) rfl)))) (mvT hZ15 (hw _ (List.mem_of_getElem? (i := 83) rfl))) (mvT hZ15 (hw _ (List.mem_of_getElem? (i := 82) rfl))) (by decide) (backOf (W := 0) (slen l Z a0 hw [] zCS vFM b15 tt15 kb15 ((((((0 : Int32) + nn1) + (1 : Int32)) + nn2) + (1 : Int32)) + nn4) ((((([] ++ vs1) ++ [(.int (32 : Int32))]) ++ vs2) ++ [(.int (62 : Int32))]) ++ vs4) T15.heap n0 O15 S_CS hCS hcT0 hcT1 hcT2 hcT3 hcT4 hcH hcW S_FM rFM   y15_0 y15_1 y15_2 y15_3) hZ15 (hw _ (List.mem_of_getElem? (i := 84) rfl)) (hw _ (List.mem_of_getElem? (i := 6) rfl)) (by decide) (by decide)) q44a q44c (g := (mkF m 67 #[.val (.int pa), .val (.int pb), .val (.int pq), .val (.ref b1), .val (.ref b2), .val (.ref b4), .val (.ref b8), .val (.ref b15), .val (.int nn1), .val (.int nn2), .val (.int nn4)] [(.ref b15)])) rfl (by rw [hml]; rfl) (Steps.refl _) (argsL := []) (rest := []) (lenOf pd_3 rfl) rfl (by show 2 * 0 + _ ≤ _; exact Nat.le_of_eq rfl) (hb hby at_67) (fun _ _ => ⟨rfl, e40, (by decide : 27 + 0 ≤ _), (by decide : 135 + 0 ≤ _)⟩)
  dsimp only [Pt.U, Pt.locs, Pt.cells, Pt.slots] at X44 cl_44 cy_44 cz_44 st44 hQ44
  rw [cl_44, cy_44, cz_44] at X44
  obtain ⟨rfl, N44q, e44⟩ := hQ44
  have N44 := Fr.app N40 N44q
  obtain ⟨_, _, ⟨T45, L45, k45, n45⟩, -, X45, ⟨Lc45, hQ45, cl_45, cy_45, cz_45⟩, st45⟩ := Jvm.LawKit.callS X44 hx (y := (⟨"com/example/relayout/relayout/plan/TransferToStringPinLaw", "same", "(Ljava/lang/String;ILjava/lang/String;)Z"⟩ : MethodName)) hown15 (mvT hZ15 (hw _ (List.mem_of_getElem? (i := 166) rfl))) (mvT hZ15 (hw _ (List.mem_of_getElem? (i := 167) rfl))) (mvT hZ15 (hw _ (List.mem_of_getElem? (i := 2) rfl))) (mvT hZ15 (hw _ (List.mem_of_getElem? (i := 168) rfl))) (by decide) (backOf (W := 0) (same l Z a0 hw [] zCS vFM b15 tt15 kb15 ((((((0 : Int32) + nn1) + (1 : Int32)) + nn2) + (1 : Int32)) + nn4) ((((([] ++ vs1) ++ [(.int (32 : Int32))]) ++ vs2) ++ [(.int (62 : Int32))]) ++ vs4) (0 : Int32) b1 tt1 kb1 nn1 vs1 T15.heap n0 O15 S_CS hCS hcT0 hcT1 hcT2 hcT3 hcT4 hcH hcW S_FM rFM   y15_0 y15_1 y15_2 y15_3 f28 f33 f34 f35 (own_at0 (P := []) (Q := ([(.int (32 : Int32))] ++ (vs2 ++ ([(.int (62 : Int32))] ++ vs4)))) (by simp) NR own_N0 NN0 (by decide)) (fun q => own_at (j := (1 : Int32)) (P := []) (Q := ([(.int (32 : Int32))] ++ (vs2 ++ ([(.int (62 : Int32))] ++ vs4)))) (by simp) NR own_N0 NN0 (by decide) q (by decide))) hZ15 (hw _ (List.mem_of_getElem? (i := 168) rfl)) (hw _ (List.mem_of_getElem? (i := 2) rfl)) (by decide) (by decide)) (g := (mkF m 89 #[.val (.int pa), .val (.int pb), .val (.int pq), .val (.ref b1), .val (.ref b2), .val (.ref b4), .val (.ref b8), .val (.ref b15), .val (.int nn1), .val (.int nn2), .val (.int nn4)] [(.ref b1), (.int (0 : Int32)), (.ref b15)])) rfl (by rw [hml]; rfl) (argsL := [(.ref b15), (.int (0 : Int32)), (.ref b1)]) (rest := []) (lenOf pd_25 rfl) rfl (by show 2 * 0 + _ ≤ _; exact Nat.le_of_eq rfl) (hb hby at_89) (fun _ _ => ⟨rfl, e44, (by decide : 27 + 0 ≤ _), (by decide : 135 + 0 ≤ _)⟩)
  dsimp only [Pt.U, Pt.locs, Pt.cells, Pt.slots] at X45 cl_45 cy_45 cz_45 st45 hQ45
  rw [cl_45, cy_45, cz_45] at X45
  obtain ⟨rfl, N45q, e45⟩ := hQ45
  have N45 := Fr.app N44 N45q
  have at_32 := own_atL (a := (32 : Int32)) (P := vs1) (Q := (vs2 ++ ([(.int (62 : Int32))] ++ vs4))) (vs := ((((([] ++ vs1) ++ [(.int (32 : Int32))]) ++ vs2) ++ [(.int (62 : Int32))]) ++ vs4)) (by simp) NR NN0 (by decide)
  obtain ⟨cq46, kq46, q46a, q46b, q46c⟩ := isOf hZ15 e45 y15_0
  obtain ⟨_, _, ⟨T46, L46, k46, n46⟩, -, X46, ⟨Lc46, hQ46, cl_46, cy_46, cz_46⟩, st46⟩ := X45.virtualBack hx (y := (⟨"java/lang/String", "charAt", "(I)C"⟩ : MethodName)) (z := (⟨"java/lang/String", "charAt", "(I)C"⟩ : MethodName)) hown15 (mvT hZ15 (hw _ (List.mem_of_getElem? (i := 169) rfl))) (mvT hZ15 (hw _ (List.mem_of_getElem? (i := 170) rfl))) (notFace_of_selects (args := #[]) (mvT hZ15 (hw _ (List.mem_of_getElem? (i := 172) rfl)))) (mvT hZ15 (hw _ (List.mem_of_getElem? (i := 172) rfl))) (mvT hZ15 (hw _ (List.mem_of_getElem? (i := 171) rfl))) (by decide) (backOf (W := 0) (sch l Z a0 hw [] zCS vFM b15 tt15 kb15 ((((((0 : Int32) + nn1) + (1 : Int32)) + nn2) + (1 : Int32)) + nn4) ((((([] ++ vs1) ++ [(.int (32 : Int32))]) ++ vs2) ++ [(.int (62 : Int32))]) ++ vs4) nn1 (32 : Int32) T15.heap n0 O15 S_CS hCS hcT0 hcT1 hcT2 hcT3 hcT4 hcH hcW S_FM rFM   y15_0 y15_1 y15_2 y15_3 at_32.1 at_32.2.1 at_32.2.2) hZ15 (hw _ (List.mem_of_getElem? (i := 173) rfl)) (hw _ (List.mem_of_getElem? (i := 6) rfl)) (by decide) (by decide)) q46a q46c (g := (mkF m 101 #[.val (.int pa), .val (.int pb), .val (.int pq), .val (.ref b1), .val (.ref b2), .val (.ref b4), .val (.ref b8), .val (.ref b15), .val (.int nn1), .val (.int nn2), .val (.int nn4)] [(.int nn1), (.ref b15)])) rfl (by rw [hml]; rfl) (Steps.refl _) (argsL := [(.int nn1)]) (rest := []) (lenOf pd_22 rfl) rfl (by show 2 * 0 + _ ≤ _; exact Nat.le_of_eq rfl) (hb hby at_101) (fun _ _ => ⟨rfl, e45, (by decide : 27 + 0 ≤ _), (by decide : 135 + 0 ≤ _)⟩)
  dsimp only [Pt.U, Pt.locs, Pt.cells, Pt.slots] at X46 cl_46 cy_46 cz_46 st46 hQ46
  rw [cl_46, cy_46, cz_46] at X46
  obtain ⟨rfl, N46q, e46⟩ := hQ46
  have N46 := Fr.app N45 N46q
  obtain ⟨_, _, ⟨T47, L47, k47, n47⟩, -, X47, ⟨Lc47, hQ47, cl_47, cy_47, cz_47⟩, st47⟩ := Jvm.LawKit.callS X46 hx (y := (⟨"com/example/relayout/relayout/plan/TransferToStringPinLaw", "same", "(Ljava/lang/String;ILjava/lang/String;)Z"⟩ : MethodName)) hown15 (mvT hZ15 (hw _ (List.mem_of_getElem? (i := 166) rfl))) (mvT hZ15 (hw _ (List.mem_of_getElem? (i := 167) rfl))) (mvT hZ15 (hw _ (List.mem_of_getElem? (i := 2) rfl))) (mvT hZ15 (hw _ (List.mem_of_getElem? (i := 168) rfl))) (by decide) (backOf (W := 0) (same l Z a0 hw [] zCS vFM b15 tt15 kb15 ((((((0 : Int32) + nn1) + (1 : Int32)) + nn2) + (1 : Int32)) + nn4) ((((([] ++ vs1) ++ [(.int (32 : Int32))]) ++ vs2) ++ [(.int (62 : Int32))]) ++ vs4) (nn1 + (1 : Int32)) b2 tt2 kb2 nn2 vs2 T15.heap n0 O15 S_CS hCS hcT0 hcT1 hcT2 hcT3 hcT4 hcH hcW S_FM rFM   y15_0 y15_1 y15_2 y15_3 f29 f37 f38 f39 (own_at0 (P := (vs1 ++ [(.int (32 : Int32))])) (Q := ([(.int (62 : Int32))] ++ vs4)) (by simp) NR NP1 NN1 (by decide)) (fun q => own_at (j := (1 : Int32)) (P := (vs1 ++ [(.int (32 : Int32))])) (Q := ([(.int (62 : Int32))] ++ vs4)) (by simp) NR NP1 NN1 (by decide) q (by decide))) hZ15 (hw _ (List.mem_of_getElem? (i := 168) rfl)) (hw _ (List.mem_of_getElem? (i := 2) rfl)) (by decide) (by decide)) (g := (mkF m 119 #[.val (.int pa), .val (.int pb), .val (.int pq), .val (.ref b1), .val (.ref b2), .val (.ref b4), .val (.ref b8), .val (.ref b15), .val (.int nn1), .val (.int nn2), .val (.int nn4)] [(.ref b2), (.int (nn1 + (1 : Int32))), (.ref b15)])) rfl (by rw [hml]; rfl) (argsL := [(.ref b15), (.int (nn1 + (1 : Int32))), (.ref b2)]) (rest := []) (lenOf pd_25 rfl) rfl (by show 2 * 0 + _ ≤ _; exact Nat.le_of_eq rfl) (hb hby at_119) (fun _ _ => ⟨rfl, e46, (by decide : 27 + 0 ≤ _), (by decide : 135 + 0 ≤ _)⟩)
  dsimp only [Pt.U, Pt.locs, Pt.cells, Pt.slots] at X47 cl_47 cy_47 cz_47 st47 hQ47
  rw [cl_47, cy_47, cz_47] at X47
  obtain ⟨rfl, N47q, e47⟩ := hQ47
  have N47 := Fr.app N46 N47q
  have at_62 := own_atL (a := (62 : Int32)) (P := ((vs1 ++ [(.int (32 : Int32))]) ++ vs2)) (Q := vs4) (vs := ((((([] ++ vs1) ++ [(.int (32 : Int32))]) ++ vs2) ++ [(.int (62 : Int32))]) ++ vs4)) (by simp) NR NP2 (by decide)
  obtain ⟨cq48, kq48, q48a, q48b, q48c⟩ := isOf hZ15 e47 y15_0
  obtain ⟨_, _, ⟨T48, L48, k48, n48⟩, -, X48, ⟨Lc48, hQ48, cl_48, cy_48, cz_48⟩, st48⟩ := X47.virtualBack hx (y := (⟨"java/lang/String", "charAt", "(I)C"⟩ : MethodName)) (z := (⟨"java/lang/String", "charAt", "(I)C"⟩ : MethodName)) hown15 (mvT hZ15 (hw _ (List.mem_of_getElem? (i := 169) rfl))) (mvT hZ15 (hw _ (List.mem_of_getElem? (i := 170) rfl))) (notFace_of_selects (args := #[]) (mvT hZ15 (hw _ (List.mem_of_getElem? (i := 172) rfl)))) (mvT hZ15 (hw _ (List.mem_of_getElem? (i := 172) rfl))) (mvT hZ15 (hw _ (List.mem_of_getElem? (i := 171) rfl))) (by decide) (backOf (W := 0) (sch l Z a0 hw [] zCS vFM b15 tt15 kb15 ((((((0 : Int32) + nn1) + (1 : Int32)) + nn2) + (1 : Int32)) + nn4) ((((([] ++ vs1) ++ [(.int (32 : Int32))]) ++ vs2) ++ [(.int (62 : Int32))]) ++ vs4) ((nn1 + (1 : Int32)) + nn2) (62 : Int32) T15.heap n0 O15 S_CS hCS hcT0 hcT1 hcT2 hcT3 hcT4 hcH hcW S_FM rFM   y15_0 y15_1 y15_2 y15_3 at_62.1 at_62.2.1 at_62.2.2) hZ15 (hw _ (List.mem_of_getElem? (i := 173) rfl)) (hw _ (List.mem_of_getElem? (i := 6) rfl)) (by decide) (by decide)) q48a q48c (g := (mkF m 136 #[.val (.int pa), .val (.int pb), .val (.int pq), .val (.ref b1), .val (.ref b2), .val (.ref b4), .val (.ref b8), .val (.ref b15), .val (.int nn1), .val (.int nn2), .val (.int nn4)] [(.int ((nn1 + (1 : Int32)) + nn2)), (.ref b15)])) rfl (by rw [hml]; rfl) (Steps.refl _) (argsL := [(.int ((nn1 + (1 : Int32)) + nn2))]) (rest := []) (lenOf pd_22 rfl) rfl (by show 2 * 0 + _ ≤ _; exact Nat.le_of_eq rfl) (hb hby at_136) (fun _ _ => ⟨rfl, e47, (by decide : 27 + 0 ≤ _), (by decide : 135 + 0 ≤ _)⟩)
  dsimp only [Pt.U, Pt.locs, Pt.cells, Pt.slots] at X48 cl_48 cy_48 cz_48 st48 hQ48
  rw [cl_48, cy_48, cz_48] at X48
  obtain ⟨rfl, N48q, e48⟩ := hQ48
  have N48 := Fr.app N47 N48q
  obtain ⟨_, _, ⟨T49, L49, k49, n49⟩, -, X49, ⟨Lc49, hQ49, cl_49, cy_49, cz_49⟩, st49⟩ := Jvm.LawKit.callS X48 hx (y := (⟨"com/example/relayout/relayout/plan/TransferToStringPinLaw", "same", "(Ljava/lang/String;ILjava/lang/String;)Z"⟩ : MethodName)) hown15 (mvT hZ15 (hw _ (List.mem_of_getElem? (i := 166) rfl))) (mvT hZ15 (hw _ (List.mem_of_getElem? (i := 167) rfl))) (mvT hZ15 (hw _ (List.mem_of_getElem? (i := 2) rfl))) (mvT hZ15 (hw _ (List.mem_of_getElem? (i := 168) rfl))) (by decide) (backOf (W := 0) (same l Z a0 hw [] zCS vFM b15 tt15 kb15 ((((((0 : Int32) + nn1) + (1 : Int32)) + nn2) + (1 : Int32)) + nn4) ((((([] ++ vs1) ++ [(.int (32 : Int32))]) ++ vs2) ++ [(.int (62 : Int32))]) ++ vs4) ((nn1 + nn2) + (2 : Int32)) b4 tt4 kb4 nn4 vs4 T15.heap n0 O15 S_CS hCS hcT0 hcT1 hcT2 hcT3 hcT4 hcH hcW S_FM rFM   y15_0 y15_1 y15_2 y15_3 f30 f41 f42 f43 (own_at0 (P := (((vs1 ++ [(.int (32 : Int32))]) ++ vs2) ++ [(.int (62 : Int32))])) (Q := []) (by simp) NR NP3 NN2 (by decide)) (fun q => own_at (j := (1 : Int32)) (P := (((vs1 ++ [(.int (32 : Int32))]) ++ vs2) ++ [(.int (62 : Int32))])) (Q := []) (by simp) NR NP3 NN2 (by decide) q (by decide))) hZ15 (hw _ (List.mem_of_getElem? (i := 168) rfl)) (hw _ (List.mem_of_getElem? (i := 2) rfl)) (by decide) (by decide)) (g := (mkF m 157 #[.val (.int pa), .val (.int pb), .val (.int pq), .val (.ref b1), .val (.ref b2), .val (.ref b4), .val (.ref b8), .val (.ref b15), .val (.int nn1), .val (.int nn2), .val (.int nn4)] [(.ref b4), (.int ((nn1 + nn2) + (2 : Int32))), (.ref b15)])) rfl (by rw [hml]; rfl) (argsL := [(.ref b15), (.int ((nn1 + nn2) + (2 : Int32))), (.ref b4)]) (rest := []) (lenOf pd_25 rfl) rfl (by show 2 * 0 + _ ≤ _; exact Nat.le_of_eq rfl) (hb hby at_157) (fun _ _ => ⟨rfl, e48, (by decide : 27 + 0 ≤ _), (by decide : 135 + 0 ≤ _)⟩)
  dsimp only [Pt.U, Pt.locs, Pt.cells, Pt.slots] at X49 cl_49 cy_49 cz_49 st49 hQ49
  rw [cl_49, cy_49, cz_49] at X49
  obtain ⟨rfl, N49q, e49⟩ := hQ49
  have N49 := Fr.app N48 N49q
  have R50 : ∀ t, Steps p.tables e below (T49.setTop (mkF m 160 #[.val (.int pa), .val (.int pb), .val (.int pq), .val (.ref b1), .val (.ref b2), .val (.ref b4), .val (.ref b8), .val (.ref b15), .val (.int nn1), .val (.int nn2), .val (.int nn4)] [(.int (1 : Int32))])) t → Steps p.tables e below (s₁.setTop (entryFrame m #[(.int pa), (.int pb), (.int pq)] maxLocals)) t := by
    intro t k
    refine R0 t ?_
    show Steps p.tables e below (s₁.setTop (mkF m 0 #[.val (.int pa), .val (.int pb), .val (.int pq), .unset, .unset, .unset, .unset, .unset, .unset, .unset, .unset] [])) t
    refine XS.iloadN X0.here hx rfl (hb hby at_0) rfl ?_
    show Steps p.tables e below (s₁.setTop (mkF m 1 #[.val (.int pa), .val (.int pb), .val (.int pq), .unset, .unset, .unset, .unset, .unset, .unset, .unset, .unset] [(.int pa)])) t
    refine st1.trans ?_
    show Steps p.tables e below (T1.setTop (mkF m 4 #[.val (.int pa), .val (.int pb), .val (.int pq), .unset, .unset, .unset, .unset, .unset, .unset, .unset, .unset] [(.ref b1)])) t
    refine XS.astoreN X1.here hx rfl (hb hby at_4) rfl rfl (l' := #[.val (.int pa), .val (.int pb), .val (.int pq), .val (.ref b1), .unset, .unset, .unset, .unset, .unset, .unset, .unset]) rfl ?_
    show Steps p.tables e below (T1.setTop (mkF m 5 #[.val (.int pa), .val (.int pb), .val (.int pq), .val (.ref b1), .unset, .unset, .unset, .unset, .unset, .unset, .unset] [])) t
    refine XS.iloadN X1.here hx rfl (hb hby at_5) rfl ?_
    show Steps p.tables e below (T1.setTop (mkF m 6 #[.val (.int pa), .val (.int pb), .val (.int pq), .val (.ref b1), .unset, .unset, .unset, .unset, .unset, .unset, .unset] [(.int pb)])) t
    refine st2.trans ?_
    show Steps p.tables e below (T2.setTop (mkF m 9 #[.val (.int pa), .val (.int pb), .val (.int pq), .val (.ref b1), .unset, .unset, .unset, .unset, .unset, .unset, .unset] [(.ref b2)])) t
    refine XS.astore X2.here hx rfl (hb hby at_9) rfl rfl (l' := #[.val (.int pa), .val (.int pb), .val (.int pq), .val (.ref b1), .val (.ref b2), .unset, .unset, .unset, .unset, .unset, .unset]) rfl ?_
    show Steps p.tables e below (T2.setTop (mkF m 11 #[.val (.int pa), .val (.int pb), .val (.int pq), .val (.ref b1), .val (.ref b2), .unset, .unset, .unset, .unset, .unset, .unset] [])) t
    refine XS.iloadN X2.here hx rfl (hb hby at_11) rfl ?_
    show Steps p.tables e below (T2.setTop (mkF m 12 #[.val (.int pa), .val (.int pb), .val (.int pq), .val (.ref b1), .val (.ref b2), .unset, .unset, .unset, .unset, .unset, .unset] [(.int pq)])) t
    refine st4.trans ?_
    show Steps p.tables e below (T4.setTop (mkF m 15 #[.val (.int pa), .val (.int pb), .val (.int pq), .val (.ref b1), .val (.ref b2), .unset, .unset, .unset, .unset, .unset, .unset] [(.ref b4)])) t
    refine XS.astore X4.here hx rfl (hb hby at_15) rfl rfl (l' := #[.val (.int pa), .val (.int pb), .val (.int pq), .val (.ref b1), .val (.ref b2), .val (.ref b4), .unset, .unset, .unset, .unset, .unset]) rfl ?_
    show Steps p.tables e below (T4.setTop (mkF m 17 #[.val (.int pa), .val (.int pb), .val (.int pq), .val (.ref b1), .val (.ref b2), .val (.ref b4), .unset, .unset, .unset, .unset, .unset] [])) t
    refine st8 _ ?_
    show Steps p.tables e below (T8.setTop (mkF m 20 #[.val (.int pa), .val (.int pb), .val (.int pq), .val (.ref b1), .val (.ref b2), .val (.ref b4), .unset, .unset, .unset, .unset, .unset] [(.ref b8)])) t
    refine XS.dup X8.here hx rfl (hb hby at_20) rfl rfl ?_
    show Steps p.tables e below (T8.setTop (mkF m 21 #[.val (.int pa), .val (.int pb), .val (.int pq), .val (.ref b1), .val (.ref b2), .val (.ref b4), .unset, .unset, .unset, .unset, .unset] [(.ref b8), (.ref b8)])) t
    refine XS.aloadN X8.here hx rfl (hb hby at_21) rfl rfl ?_
    show Steps p.tables e below (T8.setTop (mkF m 22 #[.val (.int pa), .val (.int pb), .val (.int pq), .val (.ref b1), .val (.ref b2), .val (.ref b4), .unset, .unset, .unset, .unset, .unset] [(.ref b1), (.ref b8), (.ref b8)])) t
    refine XS.aload X8.here hx rfl (hb hby at_22) rfl rfl ?_
    show Steps p.tables e below (T8.setTop (mkF m 24 #[.val (.int pa), .val (.int pb), .val (.int pq), .val (.ref b1), .val (.ref b2), .val (.ref b4), .unset, .unset, .unset, .unset, .unset] [(.ref b2), (.ref b1), (.ref b8), (.ref b8)])) t
    refine XS.aload X8.here hx rfl (hb hby at_24) rfl rfl ?_
    show Steps p.tables e below (T8.setTop (mkF m 26 #[.val (.int pa), .val (.int pb), .val (.int pq), .val (.ref b1), .val (.ref b2), .val (.ref b4), .unset, .unset, .unset, .unset, .unset] [(.ref b4), (.ref b2), (.ref b1), (.ref b8), (.ref b8)])) t
    refine st11.trans ?_
    show Steps p.tables e below (T11.setTop (mkF m 29 #[.val (.int pa), .val (.int pb), .val (.int pq), .val (.ref b1), .val (.ref b2), .val (.ref b4), .unset, .unset, .unset, .unset, .unset] [(.ref b8)])) t
    refine XS.astore X11.here hx rfl (hb hby at_29) rfl rfl (l' := #[.val (.int pa), .val (.int pb), .val (.int pq), .val (.ref b1), .val (.ref b2), .val (.ref b4), .val (.ref b8), .unset, .unset, .unset, .unset]) rfl ?_
    show Steps p.tables e below (T11.setTop (mkF m 31 #[.val (.int pa), .val (.int pb), .val (.int pq), .val (.ref b1), .val (.ref b2), .val (.ref b4), .val (.ref b8), .unset, .unset, .unset, .unset] [])) t
    refine XS.aload X11.here hx rfl (hb hby at_31) rfl rfl ?_
    show Steps p.tables e below (T11.setTop (mkF m 33 #[.val (.int pa), .val (.int pb), .val (.int pq), .val (.ref b1), .val (.ref b2), .val (.ref b4), .val (.ref b8), .unset, .unset, .unset, .unset] [(.ref b8)])) t
    refine st15.trans ?_
    show Steps p.tables e below (T15.setTop (mkF m 36 #[.val (.int pa), .val (.int pb), .val (.int pq), .val (.ref b1), .val (.ref b2), .val (.ref b4), .val (.ref b8), .unset, .unset, .unset, .unset] [(.ref b15)])) t
    refine XS.astore X15.here hx rfl (hb hby at_36) rfl rfl (l' := #[.val (.int pa), .val (.int pb), .val (.int pq), .val (.ref b1), .val (.ref b2), .val (.ref b4), .val (.ref b8), .val (.ref b15), .unset, .unset, .unset]) rfl ?_
    show Steps p.tables e below (T15.setTop (mkF m 38 #[.val (.int pa), .val (.int pb), .val (.int pq), .val (.ref b1), .val (.ref b2), .val (.ref b4), .val (.ref b8), .val (.ref b15), .unset, .unset, .unset] [])) t
    refine XS.aload X15.here hx rfl (hb hby at_38) rfl rfl ?_
    show Steps p.tables e below (T15.setTop (mkF m 40 #[.val (.int pa), .val (.int pb), .val (.int pq), .val (.ref b1), .val (.ref b2), .val (.ref b4), .val (.ref b8), .val (.ref b15), .unset, .unset, .unset] [(.ref b15)])) t
    refine XS.ifnonnullYes X15.here hx rfl (pc0 := 40) (pc' := 45) rfl (hb hby at_40) rfl (by decide) (by decide) ?_
    show Steps p.tables e below (T15.setTop (mkF m 45 #[.val (.int pa), .val (.int pb), .val (.int pq), .val (.ref b1), .val (.ref b2), .val (.ref b4), .val (.ref b8), .val (.ref b15), .unset, .unset, .unset] [])) t
    refine XS.aloadN X15.here hx rfl (hb hby at_45) rfl rfl ?_
    show Steps p.tables e below (T15.setTop (mkF m 46 #[.val (.int pa), .val (.int pb), .val (.int pq), .val (.ref b1), .val (.ref b2), .val (.ref b4), .val (.ref b8), .val (.ref b15), .unset, .unset, .unset] [(.ref b1)])) t
    refine st32.trans ?_
    show Steps p.tables e below (T32.setTop (mkF m 49 #[.val (.int pa), .val (.int pb), .val (.int pq), .val (.ref b1), .val (.ref b2), .val (.ref b4), .val (.ref b8), .val (.ref b15), .unset, .unset, .unset] [(.int nn1)])) t
    refine XS.istore X32.here hx rfl (hb hby at_49) rfl (l' := #[.val (.int pa), .val (.int pb), .val (.int pq), .val (.ref b1), .val (.ref b2), .val (.ref b4), .val (.ref b8), .val (.ref b15), .val (.int nn1), .unset, .unset]) rfl ?_
    show Steps p.tables e below (T32.setTop (mkF m 51 #[.val (.int pa), .val (.int pb), .val (.int pq), .val (.ref b1), .val (.ref b2), .val (.ref b4), .val (.ref b8), .val (.ref b15), .val (.int nn1), .unset, .unset] [])) t
    refine XS.aload X32.here hx rfl (hb hby at_51) rfl rfl ?_
    show Steps p.tables e below (T32.setTop (mkF m 53 #[.val (.int pa), .val (.int pb), .val (.int pq), .val (.ref b1), .val (.ref b2), .val (.ref b4), .val (.ref b8), .val (.ref b15), .val (.int nn1), .unset, .unset] [(.ref b2)])) t
    refine st36.trans ?_
    show Steps p.tables e below (T36.setTop (mkF m 56 #[.val (.int pa), .val (.int pb), .val (.int pq), .val (.ref b1), .val (.ref b2), .val (.ref b4), .val (.ref b8), .val (.ref b15), .val (.int nn1), .unset, .unset] [(.int nn2)])) t
    refine XS.istore X36.here hx rfl (hb hby at_56) rfl (l' := #[.val (.int pa), .val (.int pb), .val (.int pq), .val (.ref b1), .val (.ref b2), .val (.ref b4), .val (.ref b8), .val (.ref b15), .val (.int nn1), .val (.int nn2), .unset]) rfl ?_
    show Steps p.tables e below (T36.setTop (mkF m 58 #[.val (.int pa), .val (.int pb), .val (.int pq), .val (.ref b1), .val (.ref b2), .val (.ref b4), .val (.ref b8), .val (.ref b15), .val (.int nn1), .val (.int nn2), .unset] [])) t
    refine XS.aload X36.here hx rfl (hb hby at_58) rfl rfl ?_
    show Steps p.tables e below (T36.setTop (mkF m 60 #[.val (.int pa), .val (.int pb), .val (.int pq), .val (.ref b1), .val (.ref b2), .val (.ref b4), .val (.ref b8), .val (.ref b15), .val (.int nn1), .val (.int nn2), .unset] [(.ref b4)])) t
    refine st40.trans ?_
    show Steps p.tables e below (T40.setTop (mkF m 63 #[.val (.int pa), .val (.int pb), .val (.int pq), .val (.ref b1), .val (.ref b2), .val (.ref b4), .val (.ref b8), .val (.ref b15), .val (.int nn1), .val (.int nn2), .unset] [(.int nn4)])) t
    refine XS.istore X40.here hx rfl (hb hby at_63) rfl (l' := #[.val (.int pa), .val (.int pb), .val (.int pq), .val (.ref b1), .val (.ref b2), .val (.ref b4), .val (.ref b8), .val (.ref b15), .val (.int nn1), .val (.int nn2), .val (.int nn4)]) rfl ?_
    show Steps p.tables e below (T40.setTop (mkF m 65 #[.val (.int pa), .val (.int pb), .val (.int pq), .val (.ref b1), .val (.ref b2), .val (.ref b4), .val (.ref b8), .val (.ref b15), .val (.int nn1), .val (.int nn2), .val (.int nn4)] [])) t
    refine XS.aload X40.here hx rfl (hb hby at_65) rfl rfl ?_
    show Steps p.tables e below (T40.setTop (mkF m 67 #[.val (.int pa), .val (.int pb), .val (.int pq), .val (.ref b1), .val (.ref b2), .val (.ref b4), .val (.ref b8), .val (.ref b15), .val (.int nn1), .val (.int nn2), .val (.int nn4)] [(.ref b15)])) t
    refine st44.trans ?_
    show Steps p.tables e below (T44.setTop (mkF m 70 #[.val (.int pa), .val (.int pb), .val (.int pq), .val (.ref b1), .val (.ref b2), .val (.ref b4), .val (.ref b8), .val (.ref b15), .val (.int nn1), .val (.int nn2), .val (.int nn4)] [(.int ((((((0 : Int32) + nn1) + (1 : Int32)) + nn2) + (1 : Int32)) + nn4))])) t
    refine XS.iload X44.here hx rfl (hb hby at_70) rfl ?_
    show Steps p.tables e below (T44.setTop (mkF m 72 #[.val (.int pa), .val (.int pb), .val (.int pq), .val (.ref b1), .val (.ref b2), .val (.ref b4), .val (.ref b8), .val (.ref b15), .val (.int nn1), .val (.int nn2), .val (.int nn4)] [(.int nn1), (.int ((((((0 : Int32) + nn1) + (1 : Int32)) + nn2) + (1 : Int32)) + nn4))])) t
    refine XS.iload X44.here hx rfl (hb hby at_72) rfl ?_
    show Steps p.tables e below (T44.setTop (mkF m 74 #[.val (.int pa), .val (.int pb), .val (.int pq), .val (.ref b1), .val (.ref b2), .val (.ref b4), .val (.ref b8), .val (.ref b15), .val (.int nn1), .val (.int nn2), .val (.int nn4)] [(.int nn2), (.int nn1), (.int ((((((0 : Int32) + nn1) + (1 : Int32)) + nn2) + (1 : Int32)) + nn4))])) t
    refine XS.iadd X44.here hx rfl (hb hby at_74) rfl ?_
    show Steps p.tables e below (T44.setTop (mkF m 75 #[.val (.int pa), .val (.int pb), .val (.int pq), .val (.ref b1), .val (.ref b2), .val (.ref b4), .val (.ref b8), .val (.ref b15), .val (.int nn1), .val (.int nn2), .val (.int nn4)] [(.int (nn1 + nn2)), (.int ((((((0 : Int32) + nn1) + (1 : Int32)) + nn2) + (1 : Int32)) + nn4))])) t
    refine XS.iload X44.here hx rfl (hb hby at_75) rfl ?_
    show Steps p.tables e below (T44.setTop (mkF m 77 #[.val (.int pa), .val (.int pb), .val (.int pq), .val (.ref b1), .val (.ref b2), .val (.ref b4), .val (.ref b8), .val (.ref b15), .val (.int nn1), .val (.int nn2), .val (.int nn4)] [(.int nn4), (.int (nn1 + nn2)), (.int ((((((0 : Int32) + nn1) + (1 : Int32)) + nn2) + (1 : Int32)) + nn4))])) t
    refine XS.iadd X44.here hx rfl (hb hby at_77) rfl ?_
    show Steps p.tables e below (T44.setTop (mkF m 78 #[.val (.int pa), .val (.int pb), .val (.int pq), .val (.ref b1), .val (.ref b2), .val (.ref b4), .val (.ref b8), .val (.ref b15), .val (.int nn1), .val (.int nn2), .val (.int nn4)] [(.int ((nn1 + nn2) + nn4)), (.int ((((((0 : Int32) + nn1) + (1 : Int32)) + nn2) + (1 : Int32)) + nn4))])) t
    refine XS.iconst X44.here hx rfl (hb hby at_78) ?_
    show Steps p.tables e below (T44.setTop (mkF m 79 #[.val (.int pa), .val (.int pb), .val (.int pq), .val (.ref b1), .val (.ref b2), .val (.ref b4), .val (.ref b8), .val (.ref b15), .val (.int nn1), .val (.int nn2), .val (.int nn4)] [(.int (2 : Int32)), (.int ((nn1 + nn2) + nn4)), (.int ((((((0 : Int32) + nn1) + (1 : Int32)) + nn2) + (1 : Int32)) + nn4))])) t
    refine XS.iadd X44.here hx rfl (hb hby at_79) rfl ?_
    show Steps p.tables e below (T44.setTop (mkF m 80 #[.val (.int pa), .val (.int pb), .val (.int pq), .val (.ref b1), .val (.ref b2), .val (.ref b4), .val (.ref b8), .val (.ref b15), .val (.int nn1), .val (.int nn2), .val (.int nn4)] [(.int (((nn1 + nn2) + nn4) + (2 : Int32))), (.int ((((((0 : Int32) + nn1) + (1 : Int32)) + nn2) + (1 : Int32)) + nn4))])) t
    refine XS.icmpYes X44.here hx rfl (pc0 := 80) (pc' := 85) rfl (hb hby at_80) rfl (teq ((own_len _ _ _) : ((((((0 : Int32) + nn1) + (1 : Int32)) + nn2) + (1 : Int32)) + nn4) = (((nn1 + nn2) + nn4) + (2 : Int32)))).1 (by decide) (by decide) ?_
    show Steps p.tables e below (T44.setTop (mkF m 85 #[.val (.int pa), .val (.int pb), .val (.int pq), .val (.ref b1), .val (.ref b2), .val (.ref b4), .val (.ref b8), .val (.ref b15), .val (.int nn1), .val (.int nn2), .val (.int nn4)] [])) t
    refine XS.aload X44.here hx rfl (hb hby at_85) rfl rfl ?_
    show Steps p.tables e below (T44.setTop (mkF m 87 #[.val (.int pa), .val (.int pb), .val (.int pq), .val (.ref b1), .val (.ref b2), .val (.ref b4), .val (.ref b8), .val (.ref b15), .val (.int nn1), .val (.int nn2), .val (.int nn4)] [(.ref b15)])) t
    refine XS.iconst X44.here hx rfl (hb hby at_87) ?_
    show Steps p.tables e below (T44.setTop (mkF m 88 #[.val (.int pa), .val (.int pb), .val (.int pq), .val (.ref b1), .val (.ref b2), .val (.ref b4), .val (.ref b8), .val (.ref b15), .val (.int nn1), .val (.int nn2), .val (.int nn4)] [(.int (0 : Int32)), (.ref b15)])) t
    refine XS.aloadN X44.here hx rfl (hb hby at_88) rfl rfl ?_
    show Steps p.tables e below (T44.setTop (mkF m 89 #[.val (.int pa), .val (.int pb), .val (.int pq), .val (.ref b1), .val (.ref b2), .val (.ref b4), .val (.ref b8), .val (.ref b15), .val (.int nn1), .val (.int nn2), .val (.int nn4)] [(.ref b1), (.int (0 : Int32)), (.ref b15)])) t
    refine st45 _ ?_
    show Steps p.tables e below (T45.setTop (mkF m 92 #[.val (.int pa), .val (.int pb), .val (.int pq), .val (.ref b1), .val (.ref b2), .val (.ref b4), .val (.ref b8), .val (.ref b15), .val (.int nn1), .val (.int nn2), .val (.int nn4)] [(.int (1 : Int32))])) t
    refine XS.ifYes X45.here hx rfl (pc0 := 92) (pc' := 97) rfl (hb hby at_92) rfl ((if0 _ _).trans (feq ((by decide) : ¬ ((1 : Int32) = (0 : Int32)))).2) (by decide) (by decide) ?_
    show Steps p.tables e below (T45.setTop (mkF m 97 #[.val (.int pa), .val (.int pb), .val (.int pq), .val (.ref b1), .val (.ref b2), .val (.ref b4), .val (.ref b8), .val (.ref b15), .val (.int nn1), .val (.int nn2), .val (.int nn4)] [])) t
    refine XS.aload X45.here hx rfl (hb hby at_97) rfl rfl ?_
    show Steps p.tables e below (T45.setTop (mkF m 99 #[.val (.int pa), .val (.int pb), .val (.int pq), .val (.ref b1), .val (.ref b2), .val (.ref b4), .val (.ref b8), .val (.ref b15), .val (.int nn1), .val (.int nn2), .val (.int nn4)] [(.ref b15)])) t
    refine XS.iload X45.here hx rfl (hb hby at_99) rfl ?_
    show Steps p.tables e below (T45.setTop (mkF m 101 #[.val (.int pa), .val (.int pb), .val (.int pq), .val (.ref b1), .val (.ref b2), .val (.ref b4), .val (.ref b8), .val (.ref b15), .val (.int nn1), .val (.int nn2), .val (.int nn4)] [(.int nn1), (.ref b15)])) t
    refine st46.trans ?_
    show Steps p.tables e below (T46.setTop (mkF m 104 #[.val (.int pa), .val (.int pb), .val (.int pq), .val (.ref b1), .val (.ref b2), .val (.ref b4), .val (.ref b8), .val (.ref b15), .val (.int nn1), .val (.int nn2), .val (.int nn4)] [(.int (nar .char (nar .char (((32 : Int32) &&& (255 : Int32)).toUInt32.toUInt16.toUInt32.toInt32))))])) t
    refine XS.bipush X46.here hx rfl (hb hby at_104) ?_
    show Steps p.tables e below (T46.setTop (mkF m 106 #[.val (.int pa), .val (.int pb), .val (.int pq), .val (.ref b1), .val (.ref b2), .val (.ref b4), .val (.ref b8), .val (.ref b15), .val (.int nn1), .val (.int nn2), .val (.int nn4)] [(.int (32 : Int32)), (.int (nar .char (nar .char (((32 : Int32) &&& (255 : Int32)).toUInt32.toUInt16.toUInt32.toInt32))))])) t
    refine XS.icmpYes X46.here hx rfl (pc0 := 106) (pc' := 111) rfl (hb hby at_106) rfl (teq ((by decide) : (nar .char (nar .char (((32 : Int32) &&& (255 : Int32)).toUInt32.toUInt16.toUInt32.toInt32))) = (32 : Int32))).1 (by decide) (by decide) ?_
    show Steps p.tables e below (T46.setTop (mkF m 111 #[.val (.int pa), .val (.int pb), .val (.int pq), .val (.ref b1), .val (.ref b2), .val (.ref b4), .val (.ref b8), .val (.ref b15), .val (.int nn1), .val (.int nn2), .val (.int nn4)] [])) t
    refine XS.aload X46.here hx rfl (hb hby at_111) rfl rfl ?_
    show Steps p.tables e below (T46.setTop (mkF m 113 #[.val (.int pa), .val (.int pb), .val (.int pq), .val (.ref b1), .val (.ref b2), .val (.ref b4), .val (.ref b8), .val (.ref b15), .val (.int nn1), .val (.int nn2), .val (.int nn4)] [(.ref b15)])) t
    refine XS.iload X46.here hx rfl (hb hby at_113) rfl ?_
    show Steps p.tables e below (T46.setTop (mkF m 115 #[.val (.int pa), .val (.int pb), .val (.int pq), .val (.ref b1), .val (.ref b2), .val (.ref b4), .val (.ref b8), .val (.ref b15), .val (.int nn1), .val (.int nn2), .val (.int nn4)] [(.int nn1), (.ref b15)])) t
    refine XS.iconst X46.here hx rfl (hb hby at_115) ?_
    show Steps p.tables e below (T46.setTop (mkF m 116 #[.val (.int pa), .val (.int pb), .val (.int pq), .val (.ref b1), .val (.ref b2), .val (.ref b4), .val (.ref b8), .val (.ref b15), .val (.int nn1), .val (.int nn2), .val (.int nn4)] [(.int (1 : Int32)), (.int nn1), (.ref b15)])) t
    refine XS.iadd X46.here hx rfl (hb hby at_116) rfl ?_
    show Steps p.tables e below (T46.setTop (mkF m 117 #[.val (.int pa), .val (.int pb), .val (.int pq), .val (.ref b1), .val (.ref b2), .val (.ref b4), .val (.ref b8), .val (.ref b15), .val (.int nn1), .val (.int nn2), .val (.int nn4)] [(.int (nn1 + (1 : Int32))), (.ref b15)])) t
    refine XS.aload X46.here hx rfl (hb hby at_117) rfl rfl ?_
    show Steps p.tables e below (T46.setTop (mkF m 119 #[.val (.int pa), .val (.int pb), .val (.int pq), .val (.ref b1), .val (.ref b2), .val (.ref b4), .val (.ref b8), .val (.ref b15), .val (.int nn1), .val (.int nn2), .val (.int nn4)] [(.ref b2), (.int (nn1 + (1 : Int32))), (.ref b15)])) t
    refine st47 _ ?_
    show Steps p.tables e below (T47.setTop (mkF m 122 #[.val (.int pa), .val (.int pb), .val (.int pq), .val (.ref b1), .val (.ref b2), .val (.ref b4), .val (.ref b8), .val (.ref b15), .val (.int nn1), .val (.int nn2), .val (.int nn4)] [(.int (1 : Int32))])) t
    refine XS.ifYes X47.here hx rfl (pc0 := 122) (pc' := 127) rfl (hb hby at_122) rfl ((if0 _ _).trans (feq ((by decide) : ¬ ((1 : Int32) = (0 : Int32)))).2) (by decide) (by decide) ?_
    show Steps p.tables e below (T47.setTop (mkF m 127 #[.val (.int pa), .val (.int pb), .val (.int pq), .val (.ref b1), .val (.ref b2), .val (.ref b4), .val (.ref b8), .val (.ref b15), .val (.int nn1), .val (.int nn2), .val (.int nn4)] [])) t
    refine XS.aload X47.here hx rfl (hb hby at_127) rfl rfl ?_
    show Steps p.tables e below (T47.setTop (mkF m 129 #[.val (.int pa), .val (.int pb), .val (.int pq), .val (.ref b1), .val (.ref b2), .val (.ref b4), .val (.ref b8), .val (.ref b15), .val (.int nn1), .val (.int nn2), .val (.int nn4)] [(.ref b15)])) t
    refine XS.iload X47.here hx rfl (hb hby at_129) rfl ?_
    show Steps p.tables e below (T47.setTop (mkF m 131 #[.val (.int pa), .val (.int pb), .val (.int pq), .val (.ref b1), .val (.ref b2), .val (.ref b4), .val (.ref b8), .val (.ref b15), .val (.int nn1), .val (.int nn2), .val (.int nn4)] [(.int nn1), (.ref b15)])) t
    refine XS.iconst X47.here hx rfl (hb hby at_131) ?_
    show Steps p.tables e below (T47.setTop (mkF m 132 #[.val (.int pa), .val (.int pb), .val (.int pq), .val (.ref b1), .val (.ref b2), .val (.ref b4), .val (.ref b8), .val (.ref b15), .val (.int nn1), .val (.int nn2), .val (.int nn4)] [(.int (1 : Int32)), (.int nn1), (.ref b15)])) t
    refine XS.iadd X47.here hx rfl (hb hby at_132) rfl ?_
    show Steps p.tables e below (T47.setTop (mkF m 133 #[.val (.int pa), .val (.int pb), .val (.int pq), .val (.ref b1), .val (.ref b2), .val (.ref b4), .val (.ref b8), .val (.ref b15), .val (.int nn1), .val (.int nn2), .val (.int nn4)] [(.int (nn1 + (1 : Int32))), (.ref b15)])) t
    refine XS.iload X47.here hx rfl (hb hby at_133) rfl ?_
    show Steps p.tables e below (T47.setTop (mkF m 135 #[.val (.int pa), .val (.int pb), .val (.int pq), .val (.ref b1), .val (.ref b2), .val (.ref b4), .val (.ref b8), .val (.ref b15), .val (.int nn1), .val (.int nn2), .val (.int nn4)] [(.int nn2), (.int (nn1 + (1 : Int32))), (.ref b15)])) t
    refine XS.iadd X47.here hx rfl (hb hby at_135) rfl ?_
    show Steps p.tables e below (T47.setTop (mkF m 136 #[.val (.int pa), .val (.int pb), .val (.int pq), .val (.ref b1), .val (.ref b2), .val (.ref b4), .val (.ref b8), .val (.ref b15), .val (.int nn1), .val (.int nn2), .val (.int nn4)] [(.int ((nn1 + (1 : Int32)) + nn2)), (.ref b15)])) t
    refine st48.trans ?_
    show Steps p.tables e below (T48.setTop (mkF m 139 #[.val (.int pa), .val (.int pb), .val (.int pq), .val (.ref b1), .val (.ref b2), .val (.ref b4), .val (.ref b8), .val (.ref b15), .val (.int nn1), .val (.int nn2), .val (.int nn4)] [(.int (nar .char (nar .char (((62 : Int32) &&& (255 : Int32)).toUInt32.toUInt16.toUInt32.toInt32))))])) t
    refine XS.bipush X48.here hx rfl (hb hby at_139) ?_
    show Steps p.tables e below (T48.setTop (mkF m 141 #[.val (.int pa), .val (.int pb), .val (.int pq), .val (.ref b1), .val (.ref b2), .val (.ref b4), .val (.ref b8), .val (.ref b15), .val (.int nn1), .val (.int nn2), .val (.int nn4)] [(.int (62 : Int32)), (.int (nar .char (nar .char (((62 : Int32) &&& (255 : Int32)).toUInt32.toUInt16.toUInt32.toInt32))))])) t
    refine XS.icmpYes X48.here hx rfl (pc0 := 141) (pc' := 146) rfl (hb hby at_141) rfl (teq ((by decide) : (nar .char (nar .char (((62 : Int32) &&& (255 : Int32)).toUInt32.toUInt16.toUInt32.toInt32))) = (62 : Int32))).1 (by decide) (by decide) ?_
    show Steps p.tables e below (T48.setTop (mkF m 146 #[.val (.int pa), .val (.int pb), .val (.int pq), .val (.ref b1), .val (.ref b2), .val (.ref b4), .val (.ref b8), .val (.ref b15), .val (.int nn1), .val (.int nn2), .val (.int nn4)] [])) t
    refine XS.aload X48.here hx rfl (hb hby at_146) rfl rfl ?_
    show Steps p.tables e below (T48.setTop (mkF m 148 #[.val (.int pa), .val (.int pb), .val (.int pq), .val (.ref b1), .val (.ref b2), .val (.ref b4), .val (.ref b8), .val (.ref b15), .val (.int nn1), .val (.int nn2), .val (.int nn4)] [(.ref b15)])) t
    refine XS.iload X48.here hx rfl (hb hby at_148) rfl ?_
    show Steps p.tables e below (T48.setTop (mkF m 150 #[.val (.int pa), .val (.int pb), .val (.int pq), .val (.ref b1), .val (.ref b2), .val (.ref b4), .val (.ref b8), .val (.ref b15), .val (.int nn1), .val (.int nn2), .val (.int nn4)] [(.int nn1), (.ref b15)])) t
    refine XS.iload X48.here hx rfl (hb hby at_150) rfl ?_
    show Steps p.tables e below (T48.setTop (mkF m 152 #[.val (.int pa), .val (.int pb), .val (.int pq), .val (.ref b1), .val (.ref b2), .val (.ref b4), .val (.ref b8), .val (.ref b15), .val (.int nn1), .val (.int nn2), .val (.int nn4)] [(.int nn2), (.int nn1), (.ref b15)])) t
    refine XS.iadd X48.here hx rfl (hb hby at_152) rfl ?_
    show Steps p.tables e below (T48.setTop (mkF m 153 #[.val (.int pa), .val (.int pb), .val (.int pq), .val (.ref b1), .val (.ref b2), .val (.ref b4), .val (.ref b8), .val (.ref b15), .val (.int nn1), .val (.int nn2), .val (.int nn4)] [(.int (nn1 + nn2)), (.ref b15)])) t
    refine XS.iconst X48.here hx rfl (hb hby at_153) ?_
    show Steps p.tables e below (T48.setTop (mkF m 154 #[.val (.int pa), .val (.int pb), .val (.int pq), .val (.ref b1), .val (.ref b2), .val (.ref b4), .val (.ref b8), .val (.ref b15), .val (.int nn1), .val (.int nn2), .val (.int nn4)] [(.int (2 : Int32)), (.int (nn1 + nn2)), (.ref b15)])) t
    refine XS.iadd X48.here hx rfl (hb hby at_154) rfl ?_
    show Steps p.tables e below (T48.setTop (mkF m 155 #[.val (.int pa), .val (.int pb), .val (.int pq), .val (.ref b1), .val (.ref b2), .val (.ref b4), .val (.ref b8), .val (.ref b15), .val (.int nn1), .val (.int nn2), .val (.int nn4)] [(.int ((nn1 + nn2) + (2 : Int32))), (.ref b15)])) t
    refine XS.aload X48.here hx rfl (hb hby at_155) rfl rfl ?_
    show Steps p.tables e below (T48.setTop (mkF m 157 #[.val (.int pa), .val (.int pb), .val (.int pq), .val (.ref b1), .val (.ref b2), .val (.ref b4), .val (.ref b8), .val (.ref b15), .val (.int nn1), .val (.int nn2), .val (.int nn4)] [(.ref b4), (.int ((nn1 + nn2) + (2 : Int32))), (.ref b15)])) t
    refine st49 _ ?_
    exact k
  obtain ⟨fs, hr, hrun, hended, hRW⟩ := X49.leaveW hS15 (by rw [e49]; exact hk15) (v := some (.int (1 : Int32))) (fun h => by rw [Bd.returns] at h; cases h)
  refine ⟨_, _, R50 _ ?_, hrun, hended, _, _, rfl, ?_, hRW.1, hRW.2.1, hRW.2.2.1, hRW.2.2.2.mono (by decide) (by decide)⟩
  · show Steps p.tables e below (T49.setTop (mkF m 160 #[.val (.int pa), .val (.int pb), .val (.int pq), .val (.ref b1), .val (.ref b2), .val (.ref b4), .val (.ref b8), .val (.ref b15), .val (.int nn1), .val (.int nn2), .val (.int nn4)] [(.int (1 : Int32))])) _
    exact retN X49 hx (t := .boolean) Bd.returns (by simp) (hb hby at_160) hr
  · show Q_rm0 Z zCS vFM pa pb pq h0 n0 _ T49.heap _
    rw [e49]
    exact ⟨rfl, N49⟩
set_option maxRecDepth 65536 in
set_option maxHeartbeats 40000000 in
theorem comes_1 {Post : Tables → Env → Array Value → State → Outcome → State → Prop} (hpost : ∀ tb e args s v u, (limb_1_1.after args s (.returned v) u = true ∧ limb_1_2.after args s (.returned v) u = true ∧ True) → ReturnedEndW s (.returned v) u (Jvm.fieldLocs frame_1_writes args s ++ Jvm.arrayLocs frame_1_arrays args s ++ Jvm.staticLocs frame_1_statics s) 48 6400 → Post tb e args s (.returned v) u) :
    ArmFor flags0 classFile x code maxLocals ret World_1 tables_1 room_1 Calls_1 rest_1 Pre_1 Post := by
  intro l hfl _ _ p e ha hc hk s m args below hf hA hF happ hP
  obtain ⟨hcalls, hrest, hpre⟩ := hP
  obtain ⟨-, -, -, hnamed, -, -, -, hat⟩ := (Spec.applies_iff hf).mp happ
  obtain ⟨hg, hn⟩ := and_e (Cond.before_iff.mp (show (Jvm.Cond.and given_1 narrow_1).before args s = true from hpre))
  obtain ⟨g1, g2⟩ := and_e hg
  obtain ⟨g3, g4⟩ := and_e g2
  obtain ⟨g5, g6⟩ := and_e g4
  obtain ⟨w0, w1, w2, rfl⟩ : ∃ w0 w1 w2 : Value, args = #[w0, w1, w2] := by
    have hs : args.size = 3 := by simpa [Cond.value, given_1] using g1
    obtain ⟨L⟩ := args
    match L, hs with
    | [w0, w1, w2], _ => exact ⟨w0, w1, w2, rfl⟩
  have hw := fun d (hd : d ∈ tables_1) => atoms_spec (ws := Jvm.Cond.code x code maxLocals ret :: tables_1) hat d (List.mem_cons_of_mem _ hd)
  have hfit : Fit s := fun {y c} hc i hi => by
    obtain ⟨ha, rfl⟩ := Array.getElem?_eq_some_iff.mp hc
    have q := List.all_eq_true.mp ((Array.all_eq_true_iff_forall_mem.mp hF) _ (Array.getElem_mem ha)) i (List.mem_range.mpr hi)
    simpa [Array.getElem?_eq_getElem hi] using q
  obtain ⟨hsets, hown0⟩ := atoms_of _ (rest_1_c_eq ▸ (show rest_1_c.before _ s = true from hrest))
  have hr0 := Cond.before_iff.mp hown0
  obtain ⟨i0, ei0⟩ := is_v g3
  obtain rfl : w0 = (.int i0) := Option.some.inj ei0
  obtain ⟨i1, ei1⟩ := is_v g5
  obtain rfl : w1 = (.int i1) := Option.some.inj ei1
  obtain ⟨i2, ei2⟩ := is_v g6
  obtain rfl : w2 = (.int i2) := Option.some.inj ei2
  obtain ⟨zCS, evCS⟩ := is_v (Cond.before_iff.mp (hsets _ (List.mem_of_getElem? (i := 1) rfl)))
  have S_CS := Sta.start evCS (Or.inl (hsets _ (List.mem_of_getElem? (i := 0) rfl)))
  have hCS : ¬ (zCS = (0 : Int32)) := gotF (Cond.eq_ints evCS (Term.int_eval 0)) (not_v (Cond.before_iff.mp (hsets _ (List.mem_of_getElem? (i := 2) rfl))))
  have hcT0 : Jvm.Lit.constHeld s "com/example/relayout/relayout/plan/Transfer" 7 := hcalls.1 ("com/example/relayout/relayout/plan/Transfer", 7) (by simp [consts_1])
  have hcT1 : Jvm.Lit.constHeld s "com/example/relayout/relayout/plan/Transfer" 22 := hcalls.1 ("com/example/relayout/relayout/plan/Transfer", 22) (by simp [consts_1])
  have hcT2 : Jvm.Lit.constHeld s "com/example/relayout/relayout/plan/Transfer" 26 := hcalls.1 ("com/example/relayout/relayout/plan/Transfer", 26) (by simp [consts_1])
  have hcT3 : Jvm.Lit.constHeld s "com/example/relayout/relayout/plan/Transfer" 45 := hcalls.1 ("com/example/relayout/relayout/plan/Transfer", 45) (by simp [consts_1])
  have hcT4 : Jvm.Lit.constHeld s "com/example/relayout/relayout/plan/Transfer" 47 := hcalls.1 ("com/example/relayout/relayout/plan/Transfer", 47) (by simp [consts_1])
  have hcH : Jvm.Lit.constHeld s "java/lang/String" 7 := hcalls.1 ("java/lang/String", 7) (by simp [consts_1])
  have hcW := (hsets _ (List.mem_of_getElem? (i := 2) rfl))
  obtain ⟨vFM, evFM, rFM⟩ := isR_v (Cond.before_iff.mp (hsets _ (List.mem_of_getElem? (i := 8) rfl)))
  have S_FM := Sta.start evFM (Or.inl (hsets _ (List.mem_of_getElem? (i := 7) rfl)))
  obtain ⟨n, o, h1, h2, h3, _, L, rfl, ⟨rfl, N⟩, hq⟩ := rm0 l s _ hw tables_1 zCS vFM i0 i1 i2 0 s.heap s.heap.size (Old.start s) S_CS hCS hcT0 hcT1 hcT2 hcT3 hcT4 hcH hcW S_FM rFM p e ha hc hk s m _ below hf ((Spec.applies_iff_loose hf).mp happ).1 ⟨rfl, ⟨State.Warmed39.refl s, LS.start IB.start⟩, rfl⟩ trivial
  refine ⟨n, _, h1, h2, h3, hpost _ _ _ _ _ _ ⟨Cond.after_iff.mpr rfl, Cond.after_iff.mpr (eq_i res_at (Term.int_eval (1)) rfl), trivial⟩ ⟨hq.1, hq.2.1, hq.2.2.1, (hq.2.2.2.sift fun y hy => Or.inr (N y hy)).mono (by decide) (by decide)⟩⟩
theorem main_1_1 : Claimed_1_1 := comes_1 fun _ _ _ _ _ _ h hF => ⟨h.1, hF⟩
theorem main_1_2 : Claimed_1_2 := comes_1 fun _ _ _ _ _ _ h hF => ⟨h.2.1, hF⟩
end Jvm.Pilot.@@N@@
namespace Jvm.Pilot.@@N@@
open Jvm Jvm.ClassFile Sem Op Lib Jvm.Free Jvm.Stand Jvm.Pilot.@@N@@.Jvm.D
/-! MADE BY PROGRAM (witnessworld.py) out of the Statement's table words and the real class files: 27 classes; the members and pool entries that the words name. The judged class is class 1, her method 1. -/
namespace start1
open Jvm.ClassFile
def u (s : String) : CpInfo := .utf8 (stringToUtf16 s)
/-- a pool by its gaps: so many unusable entries, then the entry; so many at the end -/
def gap : Nat → List CpInfo → List CpInfo
  | 0, r => r
  | n + 1, r => .unusable :: gap n r
def poolList (es : List (Nat × CpInfo)) (last : Nat) : List CpInfo := es.foldr (fun e r => gap e.1 (e.2 :: r)) (gap last [])
def pool (es : List (Nat × CpInfo)) (last : Nat) : Array CpInfo := ⟨poolList es last⟩
def fileOf (pool : Array CpInfo) (this : Nat) (attrs : Array Attribute := #[]) (ms : Array MethodInfo := #[]) (fl : Nat := 33) (sup : Nat := 0) (ifs : Array Nat := #[]) (fds : Array FieldInfo := #[]) : ClassFile where
  minorVersion := 0
  majorVersion := 65
  constantPool := pool
  accessFlags := fl
  thisClass := this
  superClass := sup
  interfaces := ifs
  fields := fds
  methods := ms
  attributes := attrs
def plain (name : String) (sup : Option ClassId) : Class where
  name := name
  kind := .ordinary
  loader := none
  accessFlags := 33
  super := sup
  interfaces := #[]
  cf := none
  fields := #[]
  methods := #[]
  instanceTypes := #[]
  staticTypes := #[]
  resolved := #[]
  callSites := []
  init := .initialized
  statics := none
  mirror := none

def pool0 : Array CpInfo := pool [(5, u "<init>"), (0, u "()V"), (1, .class_ 10), (1, u "java/lang/Object")] 113

def k0c0 : Code := { maxStack := 0, maxLocals := 1, code := object_method_1_code, exceptionTable := #[], attributes := #[] }
def k0m0 : Method := { name := "<init>", desc := "()V", sig := { parameters := [], returnType := none }, accessFlags := 1, code := some k0c0 }
/-- java/lang/Object -/
def k0 : Class := { plain "java/lang/Object" none with
  accessFlags := 33
  interfaces := #[]
  cf := some (fileOf pool0 8 #[] #[{ accessFlags := 1, nameIndex := 5, descriptorIndex := 6, attributes := #[] }] 33 0 #[] #[])
  fields := #[]
  methods := #[k0m0]
  instanceTypes := #[]
  staticTypes := #[]
  resolved := Array.replicate 124 none
  statics := none }

def pool1 : Array CpInfo := pool [(2, .class_ 4), (1, u "java/lang/Object"), (0, u "<init>"), (0, u "()V"), (0, .methodref 8 9), (0, .class_ 10), (0, .nameAndType 11 12), (0, u "com/example/relayout/relayout/plan/TransferToStringPinLaw"), (0, u "mk"), (0, u "(I)Ljava/lang/String;"), (0, .class_ 14), (0, u "com/example/relayout/relayout/plan/Transfer"), (0, .methodref 13 16), (0, .nameAndType 5 17), (0, u "(Ljava/lang/String;Ljava/lang/String;Ljava/lang/String;)V"), (0, .methodref 13 19), (0, .nameAndType 20 21), (0, u "toString"), (0, u "()Ljava/lang/String;"), (0, .methodref 23 24), (0, .class_ 25), (0, .nameAndType 26 27), (0, u "java/lang/String"), (0, u "length"), (0, u "()I"), (0, .methodref 8 29), (0, .nameAndType 30 31), (0, u "same"), (0, u "(Ljava/lang/String;ILjava/lang/String;)Z"), (0, .methodref 23 33), (0, .nameAndType 34 35), (0, u "charAt"), (0, u "(I)C"), (0, .methodref 23 37), (0, .nameAndType 5 38), (0, u "([C)V"), (2, u "law"), (0, u "(III)Z")] 3

def k1m0 : Method := { name := "<init>", desc := "()V", sig := { parameters := [], returnType := none }, accessFlags := 1, code := none }
def k1c1 : Code := { maxStack := 5, maxLocals := 11, code := code, exceptionTable := #[], attributes := #[] }
def k1m1 : Method := { name := "law", desc := "(III)Z", sig := { parameters := [.int, .int, .int], returnType := some .boolean }, accessFlags := 9, code := some k1c1 }
def k1c2 : Code := { maxStack := 6, maxLocals := 4, code := method_3_code, exceptionTable := #[], attributes := #[] }
def k1m2 : Method := { name := "mk", desc := "(I)Ljava/lang/String;", sig := { parameters := [.int], returnType := some (.object "java/lang/String") }, accessFlags := 10, code := some k1c2 }
def k1c3 : Code := { maxStack := 3, maxLocals := 4, code := method_4_code, exceptionTable := #[], attributes := #[] }
def k1m3 : Method := { name := "same", desc := "(Ljava/lang/String;ILjava/lang/String;)Z", sig := { parameters := [(.object "java/lang/String"), .int, (.object "java/lang/String")], returnType := some .boolean }, accessFlags := 10, code := some k1c3 }
/-- com/example/relayout/relayout/plan/TransferToStringPinLaw -/
def k1 : Class := { plain "com/example/relayout/relayout/plan/TransferToStringPinLaw" (some 0) with
  accessFlags := 49
  interfaces := #[]
  cf := some (fileOf pool1 8 #[] #[{ accessFlags := 1, nameIndex := 5, descriptorIndex := 6, attributes := #[] }, { accessFlags := 9, nameIndex := 41, descriptorIndex := 42, attributes := #[] }, { accessFlags := 10, nameIndex := 11, descriptorIndex := 12, attributes := #[] }, { accessFlags := 10, nameIndex := 30, descriptorIndex := 31, attributes := #[] }] 49 2 #[] #[])
  fields := #[]
  methods := #[k1m0, k1m1, k1m2, k1m3]
  instanceTypes := #[]
  staticTypes := #[]
  resolved := Array.replicate 46 none
  statics := none }

def pool2 : Array CpInfo := pool [(1, .class_ 2), (0, u "java/io/Serializable"), (0, .class_ 4), (0, u "java/lang/Object")] 2

/-- java/io/Serializable -/
def k2 : Class := { plain "java/io/Serializable" (some 0) with
  accessFlags := 1537
  interfaces := #[]
  cf := some (fileOf pool2 1 #[] #[] 1537 3 #[] #[])
  fields := #[]
  methods := #[]
  instanceTypes := #[]
  staticTypes := #[]
  resolved := Array.replicate 7 none
  statics := none }

def pool3 : Array CpInfo := pool [(1, .class_ 2), (0, u "java/lang/Comparable"), (0, .class_ 4), (0, u "java/lang/Object")] 7

/-- java/lang/Comparable -/
def k3 : Class := { plain "java/lang/Comparable" (some 0) with
  accessFlags := 1537
  interfaces := #[]
  cf := some (fileOf pool3 1 #[] #[] 1537 3 #[] #[])
  fields := #[]
  methods := #[]
  instanceTypes := #[]
  staticTypes := #[]
  resolved := Array.replicate 12 none
  statics := none }

def pool4 : Array CpInfo := pool [(2, .class_ 4), (1, u "java/lang/CharSequence"), (42, .class_ 48), (0, u "java/lang/CharSequence$1CodePointIterator"), (10, .class_ 60), (0, u "java/lang/CharSequence$1CharIterator"), (5, .class_ 67), (0, u "java/lang/Object")] 63

/-- java/lang/CharSequence -/
def k4 : Class := { plain "java/lang/CharSequence" (some 0) with
  accessFlags := 1537
  interfaces := #[]
  cf := some (fileOf pool4 2 #[.nestMembers #[47, 59]] #[] 1537 66 #[] #[])
  fields := #[]
  methods := #[]
  instanceTypes := #[]
  staticTypes := #[]
  resolved := Array.replicate 131 none
  statics := none }

def pool5 : Array CpInfo := pool [(1, .class_ 2), (0, u "java/lang/constant/Constable"), (0, .class_ 4), (0, u "java/lang/Object")] 6

/-- java/lang/constant/Constable -/
def k5 : Class := { plain "java/lang/constant/Constable" (some 0) with
  accessFlags := 1537
  interfaces := #[]
  cf := some (fileOf pool5 1 #[] #[] 1537 3 #[] #[])
  fields := #[]
  methods := #[]
  instanceTypes := #[]
  staticTypes := #[]
  resolved := Array.replicate 11 none
  statics := none }

def pool6 : Array CpInfo := pool [(1, .class_ 2), (0, u "java/lang/constant/ConstantDesc"), (0, .class_ 4), (0, u "java/lang/Object")] 32

/-- java/lang/constant/ConstantDesc -/
def k6 : Class := { plain "java/lang/constant/ConstantDesc" (some 0) with
  accessFlags := 1537
  interfaces := #[]
  cf := some (fileOf pool6 1 #[] #[] 1537 3 #[] #[])
  fields := #[]
  methods := #[]
  instanceTypes := #[]
  staticTypes := #[]
  resolved := Array.replicate 37 none
  statics := none }

def pool7 : Array CpInfo := pool [(1, .methodref 2 3), (0, .class_ 4), (0, .nameAndType 5 6), (0, u "java/lang/Object"), (0, u "<init>"), (0, u "()V"), (0, .string 8), (0, u ""), (0, .fieldref 10 11), (0, .class_ 12), (0, .nameAndType 13 14), (0, u "java/lang/String"), (0, u "value"), (0, u "[B"), (0, .fieldref 10 16), (0, .nameAndType 17 18), (0, u "coder"), (0, u "B"), (2, u "hash"), (0, u "I"), (2, u "hashIsZero"), (0, u "Z"), (0, .methodref 10 28), (0, .nameAndType 5 29), (0, u "([CIILjava/lang/Void;)V"), (8, .fieldref 10 39), (0, .nameAndType 40 26), (0, u "COMPACT_STRINGS"), (1, .class_ 44), (1, u "java/lang/StringUTF16"), (0, u "compress"), (1, .methodref 42 48), (0, .nameAndType 49 50), (0, u "coderFromArrayLen"), (0, u "([BI)B"), (3, .methodref 55 56), (0, .class_ 57), (0, .nameAndType 58 59), (0, u "java/util/Arrays"), (0, u "copyOfRange"), (0, u "([BII)[B"), (47, .class_ 109), (1, u "java/lang/StringLatin1"), (32, u "()Z"), (34, .methodref 42 178), (0, .nameAndType 45 179), (0, u "([CII)[B"), (13, .class_ 195), (1, u "java/lang/System"), (16, .methodref 193 213), (0, .nameAndType 214 215), (0, u "arraycopy"), (0, u "(Ljava/lang/Object;ILjava/lang/Object;II)V"), (118, u "()I"), (0, .methodref 10 336), (0, .nameAndType 17 337), (0, u "()B"), (2, u "()[B"), (22, u "([BI)C"), (27, u "(II)V"), (35, u "(I)C"), (61, .methodref 10 490), (0, .nameAndType 5 491), (0, u "(Ljava/lang/AbstractStringBuilder;Ljava/lang/Void;)V"), (0, .methodref 10 493), (0, .nameAndType 494 142), (0, u "isLatin1"), (0, .methodref 107 496), (0, .nameAndType 497 363), (0, u "charAt"), (3, u "checkIndex"), (4, .nameAndType 507 334), (0, u "length"), (24, u "getBytes"), (16, .methodref 550 506), (0, .class_ 551), (0, u "java/lang/AbstractStringBuilder"), (0, .methodref 550 553), (0, .nameAndType 554 340), (0, u "getValue"), (20, .class_ 576), (0, u "java/lang/CharSequence"), (22, u "CASE_INSENSITIVE_ORDER"), (0, u "Ljava/util/Comparator;"), (220, u "([BIB)V"), (188, u "([C)V"), (36, .methodref 550 493), (5, .fieldref 1054 1055), (0, .class_ 1056), (0, .nameAndType 1057 1058), (0, u "jdk/internal/util/Preconditions"), (0, u "SIOOBE_FORMATTER"), (0, u "Ljava/util/function/BiFunction;"), (0, .methodref 1054 1060), (0, .nameAndType 501 1061), (0, u "(IILjava/util/function/BiFunction;)I"), (39, u "serialPersistentFields"), (0, u "[Ljava/io/ObjectStreamField;"), (0, .class_ 1104), (0, u "java/lang/String$CaseInsensitiveComparator"), (1, .class_ 1107), (0, u "java/io/Serializable"), (0, .class_ 1109), (0, u "java/lang/Comparable"), (0, .class_ 1111), (0, u "java/lang/constant/Constable"), (0, .class_ 1113), (0, u "java/lang/constant/ConstantDesc"), (2, u "serialVersionUID"), (0, u "J"), (3, u "REPL"), (0, u "C"), (2, u "LATIN1"), (1, u "UTF16"), (105, u "(Ljava/lang/StringBuilder;)V")] 217

def k7m0 : Method := { name := "<init>", desc := "()V", sig := { parameters := [], returnType := none }, accessFlags := 1, code := none }
def k7c1 : Code := { maxStack := 5, maxLocals := 2, code := jdk_42_method_3_code, exceptionTable := #[], attributes := #[] }
def k7m1 : Method := { name := "<init>", desc := "([C)V", sig := { parameters := [(.array .char)], returnType := none }, accessFlags := 1, code := some k7c1 }
def k7c2 : Code := { maxStack := 3, maxLocals := 2, code := jdk_42_method_53_code, exceptionTable := #[], attributes := #[] }
def k7m2 : Method := { name := "<init>", desc := "(Ljava/lang/StringBuilder;)V", sig := { parameters := [(.object "java/lang/StringBuilder")], returnType := none }, accessFlags := 1, code := some k7c2 }
def k7c3 : Code := { maxStack := 2, maxLocals := 1, code := jdk_42_method_54_code, exceptionTable := #[], attributes := #[] }
def k7m3 : Method := { name := "length", desc := "()I", sig := { parameters := [], returnType := some .int }, accessFlags := 1, code := some k7c3 }
def k7c4 : Code := { maxStack := 2, maxLocals := 2, code := jdk_42_method_56_code, exceptionTable := #[], attributes := #[] }
def k7m4 : Method := { name := "charAt", desc := "(I)C", sig := { parameters := [.int], returnType := some .char }, accessFlags := 1, code := some k7c4 }
def k7c5 : Code := { maxStack := 5, maxLocals := 4, code := jdk_42_method_147_code, exceptionTable := #[], attributes := #[] }
def k7m5 : Method := { name := "getBytes", desc := "([BIB)V", sig := { parameters := [(.array .byte), .int, .byte], returnType := none }, accessFlags := 0, code := some k7c5 }
def k7c6 : Code := { maxStack := 4, maxLocals := 6, code := jdk_42_method_149_code, exceptionTable := #[], attributes := #[] }
def k7m6 : Method := { name := "<init>", desc := "([CIILjava/lang/Void;)V", sig := { parameters := [(.array .char), .int, .int, (.object "java/lang/Void")], returnType := none }, accessFlags := 2, code := some k7c6 }
def k7c7 : Code := { maxStack := 5, maxLocals := 5, code := jdk_42_method_150_code, exceptionTable := #[], attributes := #[] }
def k7m7 : Method := { name := "<init>", desc := "(Ljava/lang/AbstractStringBuilder;Ljava/lang/Void;)V", sig := { parameters := [(.object "java/lang/AbstractStringBuilder"), (.object "java/lang/Void")], returnType := none }, accessFlags := 0, code := some k7c7 }
def k7c8 : Code := { maxStack := 1, maxLocals := 1, code := jdk_42_method_152_code, exceptionTable := #[], attributes := #[] }
def k7m8 : Method := { name := "coder", desc := "()B", sig := { parameters := [], returnType := some .byte }, accessFlags := 0, code := some k7c8 }
def k7c9 : Code := { maxStack := 1, maxLocals := 1, code := jdk_42_method_154_code, exceptionTable := #[], attributes := #[] }
def k7m9 : Method := { name := "isLatin1", desc := "()Z", sig := { parameters := [], returnType := some .boolean }, accessFlags := 0, code := some k7c9 }
def k7c10 : Code := { maxStack := 3, maxLocals := 2, code := jdk_42_method_155_code, exceptionTable := #[], attributes := #[] }
def k7m10 : Method := { name := "checkIndex", desc := "(II)V", sig := { parameters := [.int, .int], returnType := none }, accessFlags := 8, code := some k7c10 }
/-- java/lang/String -/
def k7 : Class := { plain "java/lang/String" (some 0) with
  accessFlags := 49
  interfaces := #[2, 3, 4, 5, 6]
  cf := some (fileOf pool7 10 #[.nestMembers #[1103]] #[{ accessFlags := 1, nameIndex := 5, descriptorIndex := 6, attributes := #[] }, { accessFlags := 1, nameIndex := 5, descriptorIndex := 1010, attributes := #[] }, { accessFlags := 1, nameIndex := 5, descriptorIndex := 1233, attributes := #[] }, { accessFlags := 1, nameIndex := 507, descriptorIndex := 334, attributes := #[] }, { accessFlags := 1, nameIndex := 497, descriptorIndex := 427, attributes := #[] }, { accessFlags := 0, nameIndex := 532, descriptorIndex := 821, attributes := #[] }, { accessFlags := 2, nameIndex := 5, descriptorIndex := 29, attributes := #[] }, { accessFlags := 0, nameIndex := 5, descriptorIndex := 491, attributes := #[] }, { accessFlags := 0, nameIndex := 17, descriptorIndex := 337, attributes := #[] }, { accessFlags := 0, nameIndex := 494, descriptorIndex := 142, attributes := #[] }, { accessFlags := 8, nameIndex := 501, descriptorIndex := 391, attributes := #[] }] 49 2 #[1106, 1108, 575, 1110, 1112] #[{ accessFlags := 18, nameIndex := 13, descriptorIndex := 14, attributes := #[] }, { accessFlags := 18, nameIndex := 17, descriptorIndex := 18, attributes := #[] }, { accessFlags := 2, nameIndex := 21, descriptorIndex := 22, attributes := #[] }, { accessFlags := 2, nameIndex := 25, descriptorIndex := 26, attributes := #[] }, { accessFlags := 26, nameIndex := 1116, descriptorIndex := 1117, attributes := #[] }, { accessFlags := 24, nameIndex := 40, descriptorIndex := 26, attributes := #[] }, { accessFlags := 26, nameIndex := 1101, descriptorIndex := 1102, attributes := #[] }, { accessFlags := 26, nameIndex := 1121, descriptorIndex := 1122, attributes := #[] }, { accessFlags := 25, nameIndex := 599, descriptorIndex := 600, attributes := #[] }, { accessFlags := 24, nameIndex := 1125, descriptorIndex := 18, attributes := #[] }, { accessFlags := 24, nameIndex := 1127, descriptorIndex := 18, attributes := #[] }])
  fields := #[{ name := "value", type := (.array .byte), accessFlags := 18, slot := 0, constantValue := 0 }, { name := "coder", type := .byte, accessFlags := 18, slot := 1, constantValue := 0 }, { name := "hash", type := .int, accessFlags := 2, slot := 2, constantValue := 0 }, { name := "hashIsZero", type := .boolean, accessFlags := 2, slot := 3, constantValue := 0 }, { name := "serialVersionUID", type := .long, accessFlags := 26, slot := 0, constantValue := 0 }, { name := "COMPACT_STRINGS", type := .boolean, accessFlags := 24, slot := 1, constantValue := 0 }, { name := "serialPersistentFields", type := (.array (.object "java/io/ObjectStreamField")), accessFlags := 26, slot := 2, constantValue := 0 }, { name := "REPL", type := .char, accessFlags := 26, slot := 3, constantValue := 0 }, { name := "CASE_INSENSITIVE_ORDER", type := (.object "java/util/Comparator"), accessFlags := 25, slot := 4, constantValue := 0 }, { name := "LATIN1", type := .byte, accessFlags := 24, slot := 5, constantValue := 0 }, { name := "UTF16", type := .byte, accessFlags := 24, slot := 6, constantValue := 0 }]
  methods := #[k7m0, k7m1, k7m2, k7m3, k7m4, k7m5, k7m6, k7m7, k7m8, k7m9, k7m10]
  instanceTypes := #[(.array .byte), .byte, .int, .boolean]
  staticTypes := #[.long, .boolean, (.array (.object "java/io/ObjectStreamField")), .char, (.object "java/util/Comparator"), .byte, .byte]
  resolved := Array.replicate 1451 none
  statics := some 0 }

def pool8 : Array CpInfo := pool [(1, .methodref 2 3), (0, .class_ 4), (0, .nameAndType 5 6), (0, u "java/lang/Object"), (0, u "<init>"), (0, u "()V"), (0, .string 8), (0, u "item"), (0, .methodref 10 11), (0, .class_ 12), (0, .nameAndType 13 14), (0, u "java/util/Objects"), (0, u "requireNonNull"), (0, u "(Ljava/lang/Object;Ljava/lang/String;)Ljava/lang/Object;"), (0, .class_ 16), (0, u "java/lang/String"), (0, .fieldref 18 19), (0, .class_ 20), (0, .nameAndType 8 21), (0, u "com/example/relayout/relayout/plan/Transfer"), (0, u "Ljava/lang/String;"), (0, .string 23), (0, u "from"), (0, .fieldref 18 25), (0, .nameAndType 23 21), (0, .string 27), (0, u "to"), (0, .fieldref 18 29), (0, .nameAndType 27 21), (8, .class_ 39), (0, u "java/lang/StringBuilder"), (0, .methodref 38 3), (0, .methodref 38 42), (0, .nameAndType 43 44), (0, u "append"), (0, u "(Ljava/lang/String;)Ljava/lang/StringBuilder;"), (0, .string 46), (0, u " "), (0, .string 48), (0, u ">"), (0, .methodref 38 50), (0, .nameAndType 51 52), (0, u "toString"), (0, u "()Ljava/lang/String;"), (0, u "(Ljava/lang/String;Ljava/lang/String;Ljava/lang/String;)V")] 10

def k8c0 : Code := { maxStack := 3, maxLocals := 4, code := prog_11_method_1_code, exceptionTable := #[], attributes := #[] }
def k8m0 : Method := { name := "<init>", desc := "(Ljava/lang/String;Ljava/lang/String;Ljava/lang/String;)V", sig := { parameters := [(.object "java/lang/String"), (.object "java/lang/String"), (.object "java/lang/String")], returnType := none }, accessFlags := 1, code := some k8c0 }
def k8c1 : Code := { maxStack := 2, maxLocals := 1, code := prog_11_method_7_code, exceptionTable := #[], attributes := #[] }
def k8m1 : Method := { name := "toString", desc := "()Ljava/lang/String;", sig := { parameters := [], returnType := some (.object "java/lang/String") }, accessFlags := 1, code := some k8c1 }
/-- com/example/relayout/relayout/plan/Transfer -/
def k8 : Class := { plain "com/example/relayout/relayout/plan/Transfer" (some 0) with
  accessFlags := 49
  interfaces := #[]
  cf := some (fileOf pool8 18 #[] #[{ accessFlags := 1, nameIndex := 5, descriptorIndex := 53, attributes := #[] }, { accessFlags := 1, nameIndex := 51, descriptorIndex := 52, attributes := #[] }] 49 2 #[] #[{ accessFlags := 18, nameIndex := 8, descriptorIndex := 21, attributes := #[] }, { accessFlags := 18, nameIndex := 23, descriptorIndex := 21, attributes := #[] }, { accessFlags := 18, nameIndex := 27, descriptorIndex := 21, attributes := #[] }])
  fields := #[{ name := "item", type := (.object "java/lang/String"), accessFlags := 18, slot := 0, constantValue := 0 }, { name := "from", type := (.object "java/lang/String"), accessFlags := 18, slot := 1, constantValue := 0 }, { name := "to", type := (.object "java/lang/String"), accessFlags := 18, slot := 2, constantValue := 0 }]
  methods := #[k8m0, k8m1]
  instanceTypes := #[(.object "java/lang/String"), (.object "java/lang/String"), (.object "java/lang/String")]
  staticTypes := #[]
  resolved := Array.replicate 64 none
  statics := none }

def pool9 : Array CpInfo := pool [(2, .class_ 4), (1, u "java/lang/Object"), (0, u "<init>"), (0, u "()V"), (35, .class_ 44), (1, u "java/util/Objects"), (0, u "requireNonNull"), (48, u "(Ljava/lang/Object;Ljava/lang/String;)Ljava/lang/Object;")] 89

def k9m0 : Method := { name := "<init>", desc := "()V", sig := { parameters := [], returnType := none }, accessFlags := 2, code := none }
def k9c1 : Code := { maxStack := 3, maxLocals := 2, code := jdk_31_method_11_code, exceptionTable := #[], attributes := #[] }
def k9m1 : Method := { name := "requireNonNull", desc := "(Ljava/lang/Object;Ljava/lang/String;)Ljava/lang/Object;", sig := { parameters := [(.object "java/lang/Object"), (.object "java/lang/String")], returnType := some (.object "java/lang/Object") }, accessFlags := 9, code := some k9c1 }
/-- java/util/Objects -/
def k9 : Class := { plain "java/util/Objects" (some 0) with
  accessFlags := 49
  interfaces := #[]
  cf := some (fileOf pool9 42 #[] #[{ accessFlags := 2, nameIndex := 5, descriptorIndex := 6, attributes := #[] }, { accessFlags := 9, nameIndex := 45, descriptorIndex := 94, attributes := #[] }] 49 2 #[] #[])
  fields := #[]
  methods := #[k9m0, k9m1]
  instanceTypes := #[]
  staticTypes := #[]
  resolved := Array.replicate 184 none
  statics := none }

def pool10 : Array CpInfo := pool [(1, .class_ 2), (0, u "java/lang/Appendable"), (0, .class_ 4), (0, u "java/lang/Object")] 9

/-- java/lang/Appendable -/
def k10 : Class := { plain "java/lang/Appendable" (some 0) with
  accessFlags := 1537
  interfaces := #[]
  cf := some (fileOf pool10 1 #[] #[] 1537 3 #[] #[])
  fields := #[]
  methods := #[]
  instanceTypes := #[]
  staticTypes := #[]
  resolved := Array.replicate 14 none
  statics := none }

def pool11 : Array CpInfo := pool [(1, .class_ 2), (0, u "java/lang/String"), (0, .methodref 4 5), (0, .class_ 6), (0, .nameAndType 7 8), (0, u "java/lang/Object"), (0, u "<init>"), (0, u "()V"), (1, .class_ 12), (1, u "java/lang/AbstractStringBuilder"), (0, u "EMPTYVALUE"), (0, u "[B"), (0, .fieldref 10 16), (0, .nameAndType 17 14), (0, u "value"), (0, .fieldref 1 19), (0, .nameAndType 20 21), (0, u "COMPACT_STRINGS"), (0, u "Z"), (0, .fieldref 10 23), (0, .nameAndType 24 25), (0, u "coder"), (0, u "B"), (6, .methodref 1 33), (0, .nameAndType 34 35), (0, u "length"), (0, u "()I"), (4, .methodref 1 41), (0, .nameAndType 24 42), (0, u "()B"), (2, u "append"), (0, u "(Ljava/lang/String;)Ljava/lang/AbstractStringBuilder;"), (1, .class_ 49), (0, u "java/lang/CharSequence"), (19, u "(Ljava/lang/String;)V"), (5, u "maybeLatin1"), (3, .fieldref 10 80), (0, .nameAndType 81 82), (0, u "count"), (0, u "I"), (2, u "isLatin1"), (0, u "()Z"), (13, .methodref 10 101), (0, .nameAndType 102 103), (0, u "ensureCapacityInternal"), (0, u "(I)V"), (104, .methodref 10 209), (0, .nameAndType 210 211), (0, u "putStringAt"), (0, u "(ILjava/lang/String;)V"), (5, u "inflateIfNeededFor"), (2, .nameAndType 221 222), (0, u "getBytes"), (0, u "([BIB)V"), (174, .methodref 10 398), (0, .nameAndType 217 69), (0, .methodref 1 220), (3, u "()[B"), (40, .class_ 445), (0, u "java/lang/Appendable"), (106, u "getValue")] 56

def k11m0 : Method := { name := "<init>", desc := "()V", sig := { parameters := [], returnType := none }, accessFlags := 0, code := none }
def k11c1 : Code := { maxStack := 2, maxLocals := 2, code := jdk_68_method_2_code, exceptionTable := #[], attributes := #[] }
def k11m1 : Method := { name := "<init>", desc := "(I)V", sig := { parameters := [.int], returnType := none }, accessFlags := 0, code := some k11c1 }
def k11c2 : Code := { maxStack := 1, maxLocals := 1, code := jdk_68_method_6_code, exceptionTable := #[], attributes := #[] }
def k11m2 : Method := { name := "length", desc := "()I", sig := { parameters := [], returnType := some .int }, accessFlags := 1, code := some k11c2 }
def k11c3 : Code := { maxStack := 4, maxLocals := 3, code := jdk_68_method_9_code, exceptionTable := #[], attributes := #[] }
def k11m3 : Method := { name := "ensureCapacityInternal", desc := "(I)V", sig := { parameters := [.int], returnType := none }, accessFlags := 2, code := some k11c3 }
def k11c4 : Code := { maxStack := 3, maxLocals := 3, code := jdk_68_method_22_code, exceptionTable := #[], attributes := #[] }
def k11m4 : Method := { name := "append", desc := "(Ljava/lang/String;)Ljava/lang/AbstractStringBuilder;", sig := { parameters := [(.object "java/lang/String")], returnType := some (.object "java/lang/AbstractStringBuilder") }, accessFlags := 1, code := some k11c4 }
def k11c5 : Code := { maxStack := 1, maxLocals := 1, code := jdk_68_method_64_code, exceptionTable := #[], attributes := #[] }
def k11m5 : Method := { name := "getValue", desc := "()[B", sig := { parameters := [], returnType := some (.array .byte) }, accessFlags := 16, code := some k11c5 }
def k11c6 : Code := { maxStack := 1, maxLocals := 1, code := jdk_68_method_68_code, exceptionTable := #[], attributes := #[] }
def k11m6 : Method := { name := "isLatin1", desc := "()Z", sig := { parameters := [], returnType := some .boolean }, accessFlags := 16, code := some k11c6 }
def k11c7 : Code := { maxStack := 2, maxLocals := 2, code := jdk_68_method_71_code, exceptionTable := #[], attributes := #[] }
def k11m7 : Method := { name := "inflateIfNeededFor", desc := "(Ljava/lang/String;)V", sig := { parameters := [(.object "java/lang/String")], returnType := none }, accessFlags := 2, code := some k11c7 }
def k11c8 : Code := { maxStack := 4, maxLocals := 3, code := jdk_68_method_73_code, exceptionTable := #[], attributes := #[] }
def k11m8 : Method := { name := "putStringAt", desc := "(ILjava/lang/String;)V", sig := { parameters := [.int, (.object "java/lang/String")], returnType := none }, accessFlags := 2, code := some k11c8 }
/-- java/lang/AbstractStringBuilder -/
def k11 : Class := { plain "java/lang/AbstractStringBuilder" (some 0) with
  accessFlags := 1056
  interfaces := #[10, 4]
  cf := some (fileOf pool11 10 #[] #[{ accessFlags := 0, nameIndex := 7, descriptorIndex := 8, attributes := #[] }, { accessFlags := 0, nameIndex := 7, descriptorIndex := 103, attributes := #[] }, { accessFlags := 1, nameIndex := 34, descriptorIndex := 35, attributes := #[] }, { accessFlags := 2, nameIndex := 102, descriptorIndex := 103, attributes := #[] }, { accessFlags := 1, nameIndex := 45, descriptorIndex := 46, attributes := #[] }, { accessFlags := 16, nameIndex := 552, descriptorIndex := 403, attributes := #[] }, { accessFlags := 16, nameIndex := 85, descriptorIndex := 86, attributes := #[] }, { accessFlags := 2, nameIndex := 217, descriptorIndex := 69, attributes := #[] }, { accessFlags := 2, nameIndex := 210, descriptorIndex := 211, attributes := #[] }] 1056 4 #[444, 48] #[{ accessFlags := 0, nameIndex := 17, descriptorIndex := 14, attributes := #[] }, { accessFlags := 0, nameIndex := 24, descriptorIndex := 25, attributes := #[] }, { accessFlags := 0, nameIndex := 75, descriptorIndex := 21, attributes := #[] }, { accessFlags := 0, nameIndex := 81, descriptorIndex := 82, attributes := #[] }, { accessFlags := 26, nameIndex := 13, descriptorIndex := 14, attributes := #[] }])
  fields := #[{ name := "value", type := (.array .byte), accessFlags := 0, slot := 0, constantValue := 0 }, { name := "coder", type := .byte, accessFlags := 0, slot := 1, constantValue := 0 }, { name := "maybeLatin1", type := .boolean, accessFlags := 0, slot := 2, constantValue := 0 }, { name := "count", type := .int, accessFlags := 0, slot := 3, constantValue := 0 }, { name := "EMPTYVALUE", type := (.array .byte), accessFlags := 26, slot := 0, constantValue := 0 }]
  methods := #[k11m0, k11m1, k11m2, k11m3, k11m4, k11m5, k11m6, k11m7, k11m8]
  instanceTypes := #[(.array .byte), .byte, .boolean, .int]
  staticTypes := #[(.array .byte)]
  resolved := Array.replicate 609 none
  statics := none }

def pool12 : Array CpInfo := pool [(1, .methodref 2 3), (0, .class_ 4), (0, .nameAndType 5 6), (0, u "java/lang/AbstractStringBuilder"), (0, u "<init>"), (0, u "(I)V"), (11, .class_ 20), (1, u "java/lang/String"), (3, .class_ 26), (1, u "java/lang/StringBuilder"), (0, u "append"), (0, u "(Ljava/lang/String;)Ljava/lang/StringBuilder;"), (0, .methodref 2 30), (0, .nameAndType 27 31), (0, u "(Ljava/lang/String;)Ljava/lang/AbstractStringBuilder;"), (105, .methodref 18 138), (0, .nameAndType 5 139), (0, u "(Ljava/lang/StringBuilder;)V"), (5, u "()V"), (10, u "()I"), (186, .methodref 2 344), (0, .nameAndType 345 156), (0, u "length"), (3, .class_ 350), (0, u "java/lang/Appendable"), (0, .class_ 352), (0, u "java/io/Serializable"), (0, .class_ 354), (0, u "java/lang/Comparable"), (0, .class_ 356), (0, u "java/lang/CharSequence"), (0, u "serialVersionUID"), (0, u "J"), (40, u "toString"), (0, u "()Ljava/lang/String;")] 21

def k12c0 : Code := { maxStack := 2, maxLocals := 1, code := jdk_67_method_1_code, exceptionTable := #[], attributes := #[] }
def k12m0 : Method := { name := "<init>", desc := "()V", sig := { parameters := [], returnType := none }, accessFlags := 1, code := some k12c0 }
def k12c1 : Code := { maxStack := 2, maxLocals := 2, code := jdk_67_method_7_code, exceptionTable := #[], attributes := #[] }
def k12m1 : Method := { name := "append", desc := "(Ljava/lang/String;)Ljava/lang/StringBuilder;", sig := { parameters := [(.object "java/lang/String")], returnType := some (.object "java/lang/StringBuilder") }, accessFlags := 1, code := some k12c1 }
def k12c2 : Code := { maxStack := 3, maxLocals := 1, code := jdk_67_method_42_code, exceptionTable := #[], attributes := #[] }
def k12m2 : Method := { name := "toString", desc := "()Ljava/lang/String;", sig := { parameters := [], returnType := some (.object "java/lang/String") }, accessFlags := 1, code := some k12c2 }
def k12c3 : Code := { maxStack := 1, maxLocals := 1, code := jdk_67_method_93_code, exceptionTable := #[], attributes := #[] }
def k12m3 : Method := { name := "length", desc := "()I", sig := { parameters := [], returnType := some .int }, accessFlags := 4161, code := some k12c3 }
/-- java/lang/StringBuilder -/
def k12 : Class := { plain "java/lang/StringBuilder" (some 11) with
  accessFlags := 49
  interfaces := #[10, 2, 3, 4]
  cf := some (fileOf pool12 24 #[] #[{ accessFlags := 1, nameIndex := 5, descriptorIndex := 145, attributes := #[] }, { accessFlags := 1, nameIndex := 27, descriptorIndex := 28, attributes := #[] }, { accessFlags := 1, nameIndex := 399, descriptorIndex := 400, attributes := #[] }, { accessFlags := 4161, nameIndex := 345, descriptorIndex := 156, attributes := #[] }] 49 2 #[349, 351, 353, 355] #[{ accessFlags := 24, nameIndex := 357, descriptorIndex := 358, attributes := #[] }])
  fields := #[{ name := "serialVersionUID", type := .long, accessFlags := 24, slot := 0, constantValue := 0 }]
  methods := #[k12m0, k12m1, k12m2, k12m3]
  instanceTypes := #[(.array .byte), .byte, .boolean, .int]
  staticTypes := #[.long]
  resolved := Array.replicate 422 none
  statics := none }

def pool13 : Array CpInfo := pool [(2, .class_ 4), (1, u "java/lang/Object"), (0, u "<init>"), (0, u "()V"), (1, .class_ 10), (1, u "java/lang/System"), (0, u "allowSecurityManager"), (0, u "I"), (16, u "cons"), (0, u "Ljava/io/Console;"), (77, .class_ 110), (1, u "java/lang/System$CallersHolder"), (43, u "initialErrStream"), (0, u "Ljava/io/PrintStream;"), (19, u "security"), (0, u "Ljava/lang/SecurityManager;"), (31, .class_ 209), (0, u "java/lang/System$1"), (7, u "props"), (0, u "Ljava/util/Properties;"), (2, u "lineSeparator"), (0, u "Ljava/lang/String;"), (96, .class_ 321), (1, u "java/lang/System$LoggerFinder"), (5, .class_ 328), (0, u "java/lang/System$Logger"), (67, u "err"), (2, u "out"), (91, u "notSupportedJnuEncoding"), (15, u "in"), (17, u "initialIn"), (0, u "Ljava/io/InputStream;"), (35, u "bootLayer"), (0, u "Ljava/lang/ModuleLayer;"), (99, .class_ 664), (0, u "java/lang/System$2"), (9, u "NEVER"), (2, u "MAYBE"), (49, u "arraycopy"), (0, u "(Ljava/lang/Object;ILjava/lang/Object;II)V"), (72, .class_ 802), (0, u "java/lang/System$Logger$Level")] 31

def k13m0 : Method := { name := "<init>", desc := "()V", sig := { parameters := [], returnType := none }, accessFlags := 2, code := none }
def k13m1 : Method := { name := "arraycopy", desc := "(Ljava/lang/Object;ILjava/lang/Object;II)V", sig := { parameters := [(.object "java/lang/Object"), .int, (.object "java/lang/Object"), .int, .int], returnType := none }, accessFlags := 265, code := none }
/-- java/lang/System -/
def k13 : Class := { plain "java/lang/System" (some 0) with
  accessFlags := 49
  interfaces := #[]
  cf := some (fileOf pool13 8 #[.nestMembers #[319, 327, 801, 108, 663, 208]] #[{ accessFlags := 2, nameIndex := 5, descriptorIndex := 6, attributes := #[] }, { accessFlags := 265, nameIndex := 727, descriptorIndex := 728, attributes := #[] }] 49 2 #[] #[{ accessFlags := 25, nameIndex := 507, descriptorIndex := 526, attributes := #[] }, { accessFlags := 25, nameIndex := 399, descriptorIndex := 155, attributes := #[] }, { accessFlags := 25, nameIndex := 396, descriptorIndex := 155, attributes := #[] }, { accessFlags := 10, nameIndex := 525, descriptorIndex := 526, attributes := #[] }, { accessFlags := 26, nameIndex := 674, descriptorIndex := 12, attributes := #[] }, { accessFlags := 26, nameIndex := 677, descriptorIndex := 12, attributes := #[] }, { accessFlags := 10, nameIndex := 11, descriptorIndex := 12, attributes := #[] }, { accessFlags := 74, nameIndex := 175, descriptorIndex := 176, attributes := #[] }, { accessFlags := 10, nameIndex := 491, descriptorIndex := 222, attributes := #[] }, { accessFlags := 74, nameIndex := 29, descriptorIndex := 30, attributes := #[] }, { accessFlags := 74, nameIndex := 154, descriptorIndex := 155, attributes := #[] }, { accessFlags := 10, nameIndex := 217, descriptorIndex := 218, attributes := #[] }, { accessFlags := 10, nameIndex := 221, descriptorIndex := 222, attributes := #[] }, { accessFlags := 8, nameIndex := 562, descriptorIndex := 563, attributes := #[] }])
  fields := #[{ name := "in", type := (.object "java/io/InputStream"), accessFlags := 25, slot := 0, constantValue := 0 }, { name := "out", type := (.object "java/io/PrintStream"), accessFlags := 25, slot := 1, constantValue := 0 }, { name := "err", type := (.object "java/io/PrintStream"), accessFlags := 25, slot := 2, constantValue := 0 }, { name := "initialIn", type := (.object "java/io/InputStream"), accessFlags := 10, slot := 3, constantValue := 0 }, { name := "NEVER", type := .int, accessFlags := 26, slot := 4, constantValue := 0 }, { name := "MAYBE", type := .int, accessFlags := 26, slot := 5, constantValue := 0 }, { name := "allowSecurityManager", type := .int, accessFlags := 10, slot := 6, constantValue := 0 }, { name := "security", type := (.object "java/lang/SecurityManager"), accessFlags := 74, slot := 7, constantValue := 0 }, { name := "notSupportedJnuEncoding", type := (.object "java/lang/String"), accessFlags := 10, slot := 8, constantValue := 0 }, { name := "cons", type := (.object "java/io/Console"), accessFlags := 74, slot := 9, constantValue := 0 }, { name := "initialErrStream", type := (.object "java/io/PrintStream"), accessFlags := 74, slot := 10, constantValue := 0 }, { name := "props", type := (.object "java/util/Properties"), accessFlags := 10, slot := 11, constantValue := 0 }, { name := "lineSeparator", type := (.object "java/lang/String"), accessFlags := 10, slot := 12, constantValue := 0 }, { name := "bootLayer", type := (.object "java/lang/ModuleLayer"), accessFlags := 8, slot := 13, constantValue := 0 }]
  methods := #[k13m0, k13m1]
  instanceTypes := #[]
  staticTypes := #[(.object "java/io/InputStream"), (.object "java/io/PrintStream"), (.object "java/io/PrintStream"), (.object "java/io/InputStream"), .int, .int, .int, (.object "java/lang/SecurityManager"), (.object "java/lang/String"), (.object "java/io/Console"), (.object "java/io/PrintStream"), (.object "java/util/Properties"), (.object "java/lang/String"), (.object "java/lang/ModuleLayer")]
  resolved := Array.replicate 834 none
  statics := none }

def pool14 : Array CpInfo := pool [(2, .class_ 4), (1, u "java/lang/Object"), (0, u "<init>"), (0, u "()V"), (7, .class_ 16), (1, u "java/util/Arrays"), (57, .class_ 76), (1, u "java/util/Arrays$NaturalOrder"), (36, .class_ 115), (1, u "java/util/Arrays$LegacyMergeSort"), (1, u "Z"), (21, u "copyOfRange"), (10, .methodref 151 152), (0, .class_ 153), (0, .nameAndType 154 155), (0, u "java/lang/System"), (0, u "arraycopy"), (0, u "(Ljava/lang/Object;ILjava/lang/Object;II)V"), (148, .methodref 305 306), (0, .class_ 307), (0, .nameAndType 308 309), (0, u "java/lang/Math"), (0, u "min"), (0, u "(II)I"), (29, .methodref 14 340), (0, .nameAndType 341 342), (0, u "copyOfRangeByte"), (0, u "([BII)[B"), (0, .methodref 14 344), (0, .nameAndType 345 346), (0, u "checkLength"), (0, u "(II)V"), (28, .class_ 376), (0, u "java/util/Arrays$ArrayList"), (68, u "$assertionsDisabled"), (269, u "MIN_ARRAY_SORT_GRAN"), (0, u "I"), (2, u "INSERTIONSORT_THRESHOLD"), (255, .class_ 976), (0, u "java/util/Arrays$ArrayItr")] 52

def k14m0 : Method := { name := "<init>", desc := "()V", sig := { parameters := [], returnType := none }, accessFlags := 2, code := none }
def k14c1 : Code := { maxStack := 4, maxLocals := 2, code := jdk_65_method_131_code, exceptionTable := #[], attributes := #[] }
def k14m1 : Method := { name := "checkLength", desc := "(II)V", sig := { parameters := [.int, .int], returnType := none }, accessFlags := 10, code := some k14c1 }
def k14c2 : Code := { maxStack := 3, maxLocals := 3, code := jdk_65_method_132_code, exceptionTable := #[], attributes := #[] }
def k14m2 : Method := { name := "copyOfRange", desc := "([BII)[B", sig := { parameters := [(.array .byte), .int, .int], returnType := some (.array .byte) }, accessFlags := 9, code := some k14c2 }
def k14c3 : Code := { maxStack := 6, maxLocals := 5, code := jdk_65_method_133_code, exceptionTable := #[], attributes := #[] }
def k14m3 : Method := { name := "copyOfRangeByte", desc := "([BII)[B", sig := { parameters := [(.array .byte), .int, .int], returnType := some (.array .byte) }, accessFlags := 10, code := some k14c3 }
/-- java/util/Arrays -/
def k14 : Class := { plain "java/util/Arrays" (some 0) with
  accessFlags := 49
  interfaces := #[]
  cf := some (fileOf pool14 14 #[.nestMembers #[975, 375, 113, 74]] #[{ accessFlags := 2, nameIndex := 5, descriptorIndex := 6, attributes := #[] }, { accessFlags := 10, nameIndex := 345, descriptorIndex := 346, attributes := #[] }, { accessFlags := 9, nameIndex := 139, descriptorIndex := 342, attributes := #[] }, { accessFlags := 10, nameIndex := 341, descriptorIndex := 342, attributes := #[] }] 49 2 #[] #[{ accessFlags := 26, nameIndex := 715, descriptorIndex := 716, attributes := #[] }, { accessFlags := 26, nameIndex := 719, descriptorIndex := 716, attributes := #[] }, { accessFlags := 4120, nameIndex := 445, descriptorIndex := 117, attributes := #[] }])
  fields := #[{ name := "MIN_ARRAY_SORT_GRAN", type := .int, accessFlags := 26, slot := 0, constantValue := 0 }, { name := "INSERTIONSORT_THRESHOLD", type := .int, accessFlags := 26, slot := 1, constantValue := 0 }, { name := "$assertionsDisabled", type := .boolean, accessFlags := 4120, slot := 2, constantValue := 0 }]
  methods := #[k14m0, k14m1, k14m2, k14m3]
  instanceTypes := #[]
  staticTypes := #[.int, .int, .boolean]
  resolved := Array.replicate 1029 none
  statics := none }

def pool15 : Array CpInfo := pool [(1, .class_ 2), (0, u "java/lang/Math"), (1, .class_ 6), (1, u "java/lang/Object"), (0, u "<init>"), (0, u "()V"), (89, .class_ 100), (1, u "java/lang/Math$RandomNumberGeneratorHolder"), (71, u "negativeZeroFloatBits"), (0, u "J"), (2, u "negativeZeroDoubleBits"), (24, u "min"), (43, u "$assertionsDisabled"), (0, u "Z"), (88, u "(II)I"), (2, u "twoToTheDoubleScaleDown"), (0, u "D"), (4, u "twoToTheDoubleScaleUp"), (9, u "E"), (3, u "PI"), (2, u "TAU"), (2, u "DEGREES_TO_RADIANS"), (0, u "RADIANS_TO_DEGREES")] 94

def k15m0 : Method := { name := "<init>", desc := "()V", sig := { parameters := [], returnType := none }, accessFlags := 2, code := none }
def k15c1 : Code := { maxStack := 2, maxLocals := 2, code := jdk_29_method_69_code, exceptionTable := #[], attributes := #[] }
def k15m1 : Method := { name := "min", desc := "(II)I", sig := { parameters := [.int, .int], returnType := some .int }, accessFlags := 9, code := some k15c1 }
/-- java/lang/Math -/
def k15 : Class := { plain "java/lang/Math" (some 0) with
  accessFlags := 49
  interfaces := #[]
  cf := some (fileOf pool15 1 #[.nestMembers #[98]] #[{ accessFlags := 2, nameIndex := 7, descriptorIndex := 8, attributes := #[] }, { accessFlags := 9, nameIndex := 201, descriptorIndex := 335, attributes := #[] }] 49 4 #[] #[{ accessFlags := 25, nameIndex := 354, descriptorIndex := 339, attributes := #[] }, { accessFlags := 25, nameIndex := 358, descriptorIndex := 339, attributes := #[] }, { accessFlags := 25, nameIndex := 361, descriptorIndex := 339, attributes := #[] }, { accessFlags := 26, nameIndex := 364, descriptorIndex := 339, attributes := #[] }, { accessFlags := 26, nameIndex := 365, descriptorIndex := 339, attributes := #[] }, { accessFlags := 26, nameIndex := 172, descriptorIndex := 173, attributes := #[] }, { accessFlags := 26, nameIndex := 176, descriptorIndex := 173, attributes := #[] }, { accessFlags := 8, nameIndex := 344, descriptorIndex := 339, attributes := #[] }, { accessFlags := 8, nameIndex := 338, descriptorIndex := 339, attributes := #[] }, { accessFlags := 4120, nameIndex := 245, descriptorIndex := 246, attributes := #[] }])
  fields := #[{ name := "E", type := .double, accessFlags := 25, slot := 0, constantValue := 0 }, { name := "PI", type := .double, accessFlags := 25, slot := 1, constantValue := 0 }, { name := "TAU", type := .double, accessFlags := 25, slot := 2, constantValue := 0 }, { name := "DEGREES_TO_RADIANS", type := .double, accessFlags := 26, slot := 3, constantValue := 0 }, { name := "RADIANS_TO_DEGREES", type := .double, accessFlags := 26, slot := 4, constantValue := 0 }, { name := "negativeZeroFloatBits", type := .long, accessFlags := 26, slot := 5, constantValue := 0 }, { name := "negativeZeroDoubleBits", type := .long, accessFlags := 26, slot := 6, constantValue := 0 }, { name := "twoToTheDoubleScaleUp", type := .double, accessFlags := 8, slot := 7, constantValue := 0 }, { name := "twoToTheDoubleScaleDown", type := .double, accessFlags := 8, slot := 8, constantValue := 0 }, { name := "$assertionsDisabled", type := .boolean, accessFlags := 4120, slot := 9, constantValue := 0 }]
  methods := #[k15m0, k15m1]
  instanceTypes := #[]
  staticTypes := #[.double, .double, .double, .double, .double, .long, .long, .double, .double, .boolean]
  resolved := Array.replicate 460 none
  statics := none }

def pool16 : Array CpInfo := pool [(1, .class_ 2), (0, u "java/lang/String"), (1, .class_ 6), (1, u "java/lang/Object"), (0, u "<init>"), (0, u "()V"), (0, .methodref 1 10), (0, .nameAndType 11 12), (0, u "checkIndex"), (0, u "(II)V"), (1, .class_ 16), (1, u "java/lang/StringLatin1"), (36, u "([BI)C"), (67, u "$assertionsDisabled"), (0, u "Z"), (98, .class_ 223), (1, u "java/lang/StringLatin1$LinesSpliterator"), (28, u "charAt"), (137, .class_ 391), (0, u "java/lang/StringLatin1$CharsSpliterator")] 3

def k16m0 : Method := { name := "<init>", desc := "()V", sig := { parameters := [], returnType := none }, accessFlags := 0, code := none }
def k16c1 : Code := { maxStack := 2, maxLocals := 2, code := jdk_43_method_2_code, exceptionTable := #[], attributes := #[] }
def k16m1 : Method := { name := "charAt", desc := "([BI)C", sig := { parameters := [(.array .byte), .int], returnType := some .char }, accessFlags := 9, code := some k16c1 }
/-- java/lang/StringLatin1 -/
def k16 : Class := { plain "java/lang/StringLatin1" (some 0) with
  accessFlags := 48
  interfaces := #[]
  cf := some (fileOf pool16 14 #[.nestMembers #[390, 221]] #[{ accessFlags := 0, nameIndex := 7, descriptorIndex := 8, attributes := #[] }, { accessFlags := 9, nameIndex := 252, descriptorIndex := 53, attributes := #[] }] 48 4 #[] #[{ accessFlags := 4120, nameIndex := 121, descriptorIndex := 122, attributes := #[] }])
  fields := #[{ name := "$assertionsDisabled", type := .boolean, accessFlags := 4120, slot := 0, constantValue := 0 }]
  methods := #[k16m0, k16m1]
  instanceTypes := #[]
  staticTypes := #[.boolean]
  resolved := Array.replicate 395 none
  statics := none }

def pool17 : Array CpInfo := pool [(2, .class_ 4), (1, u "java/lang/Object"), (0, u "<init>"), (0, u "()V"), (17, .class_ 26), (1, u "jdk/internal/util/Preconditions"), (6, u "checkIndex"), (21, .class_ 56), (0, u "jdk/internal/util/Preconditions$4"), (57, .class_ 115), (0, u "jdk/internal/util/Preconditions$1"), (7, u "SIOOBE_FORMATTER"), (0, u "Ljava/util/function/BiFunction;"), (0, .class_ 126), (0, u "jdk/internal/util/Preconditions$2"), (3, u "AIOOBE_FORMATTER"), (0, .class_ 132), (0, u "jdk/internal/util/Preconditions$3"), (3, u "IOOBE_FORMATTER"), (41, u "(IILjava/util/function/BiFunction;)I")] 15

def k17m0 : Method := { name := "<init>", desc := "()V", sig := { parameters := [], returnType := none }, accessFlags := 1, code := none }
def k17c1 : Code := { maxStack := 3, maxLocals := 3, code := jdk_41_method_11_code, exceptionTable := #[], attributes := #[] }
def k17m1 : Method := { name := "checkIndex", desc := "(IILjava/util/function/BiFunction;)I", sig := { parameters := [.int, .int, (.object "java/util/function/BiFunction")], returnType := some .int }, accessFlags := 9, code := some k17c1 }
/-- jdk/internal/util/Preconditions -/
def k17 : Class := { plain "jdk/internal/util/Preconditions" (some 0) with
  accessFlags := 33
  interfaces := #[]
  cf := some (fileOf pool17 24 #[.nestMembers #[55, 131, 125, 114]] #[{ accessFlags := 1, nameIndex := 5, descriptorIndex := 6, attributes := #[] }, { accessFlags := 9, nameIndex := 33, descriptorIndex := 178, attributes := #[] }] 33 2 #[] #[{ accessFlags := 25, nameIndex := 123, descriptorIndex := 124, attributes := #[] }, { accessFlags := 25, nameIndex := 130, descriptorIndex := 124, attributes := #[] }, { accessFlags := 25, nameIndex := 136, descriptorIndex := 124, attributes := #[] }])
  fields := #[{ name := "SIOOBE_FORMATTER", type := (.object "java/util/function/BiFunction"), accessFlags := 25, slot := 0, constantValue := 0 }, { name := "AIOOBE_FORMATTER", type := (.object "java/util/function/BiFunction"), accessFlags := 25, slot := 1, constantValue := 0 }, { name := "IOOBE_FORMATTER", type := (.object "java/util/function/BiFunction"), accessFlags := 25, slot := 2, constantValue := 0 }]
  methods := #[k17m0, k17m1]
  instanceTypes := #[]
  staticTypes := #[(.object "java/util/function/BiFunction"), (.object "java/util/function/BiFunction"), (.object "java/util/function/BiFunction")]
  resolved := Array.replicate 194 none
  statics := some 1 }

def pool18 : Array CpInfo := pool [(6, .class_ 8), (1, u "java/lang/Object"), (0, u "<init>"), (0, u "()V"), (1, .class_ 14), (1, u "java/lang/StringUTF16"), (31, u "$assertionsDisabled"), (0, u "Z"), (13, u "HI_BYTE_SHIFT"), (0, u "I"), (2, u "LO_BYTE_SHIFT"), (49, .methodref 12 116), (0, .nameAndType 117 118), (0, u "compress"), (0, u "([CI[BII)I"), (3, u "([CII)[B"), (138, u "coderFromArrayLen"), (0, u "([BI)B"), (106, .class_ 371), (1, u "java/lang/StringUTF16$LinesSpliterator"), (58, u "MAX_LENGTH"), (196, .class_ 628), (0, u "java/lang/StringUTF16$CodePointsSpliterator"), (0, .class_ 630), (0, u "java/lang/StringUTF16$CharsSpliterator")] 4

def k18m0 : Method := { name := "<init>", desc := "()V", sig := { parameters := [], returnType := none }, accessFlags := 0, code := none }
def k18c1 : Code := { maxStack := 2, maxLocals := 2, code := jdk_52_method_15_code, exceptionTable := #[], attributes := #[] }
def k18m1 : Method := { name := "coderFromArrayLen", desc := "([BI)B", sig := { parameters := [(.array .byte), .int], returnType := some .byte }, accessFlags := 8, code := some k18c1 }
def k18c2 : Code := { maxStack := 5, maxLocals := 6, code := jdk_52_method_16_code, exceptionTable := #[], attributes := #[] }
def k18m2 : Method := { name := "compress", desc := "([CII)[B", sig := { parameters := [(.array .char), .int, .int], returnType := some (.array .byte) }, accessFlags := 9, code := some k18c2 }
def k18c3 : Code := { maxStack := 3, maxLocals := 7, code := jdk_52_method_21_code, exceptionTable := #[], attributes := #[] }
def k18m3 : Method := { name := "compress", desc := "([CI[BII)I", sig := { parameters := [(.array .char), .int, (.array .byte), .int, .int], returnType := some .int }, accessFlags := 9, code := some k18c3 }
/-- java/lang/StringUTF16 -/
def k18 : Class := { plain "java/lang/StringUTF16" (some 0) with
  accessFlags := 48
  interfaces := #[]
  cf := some (fileOf pool18 12 #[.nestMembers #[627, 629, 369]] #[{ accessFlags := 0, nameIndex := 9, descriptorIndex := 10, attributes := #[] }, { accessFlags := 8, nameIndex := 261, descriptorIndex := 262, attributes := #[] }, { accessFlags := 9, nameIndex := 117, descriptorIndex := 122, attributes := #[] }, { accessFlags := 9, nameIndex := 117, descriptorIndex := 118, attributes := #[] }] 48 6 #[] #[{ accessFlags := 26, nameIndex := 61, descriptorIndex := 62, attributes := #[] }, { accessFlags := 26, nameIndex := 65, descriptorIndex := 62, attributes := #[] }, { accessFlags := 24, nameIndex := 430, descriptorIndex := 62, attributes := #[] }, { accessFlags := 4120, nameIndex := 46, descriptorIndex := 47, attributes := #[] }])
  fields := #[{ name := "HI_BYTE_SHIFT", type := .int, accessFlags := 26, slot := 0, constantValue := 0 }, { name := "LO_BYTE_SHIFT", type := .int, accessFlags := 26, slot := 1, constantValue := 0 }, { name := "MAX_LENGTH", type := .int, accessFlags := 24, slot := 2, constantValue := 0 }, { name := "$assertionsDisabled", type := .boolean, accessFlags := 4120, slot := 3, constantValue := 0 }]
  methods := #[k18m0, k18m1, k18m2, k18m3]
  instanceTypes := #[]
  staticTypes := #[.int, .int, .int, .boolean]
  resolved := Array.replicate 635 none
  statics := none }

def pool19 : Array CpInfo := pool [(9, u "<init>"), (6, .class_ 18), (1, u "java/lang/Object"), (0, u "()V"), (1, .class_ 23), (1, u "jdk/internal/util/ArraysSupport"), (0, u "LOG2_ARRAY_LONG_INDEX_SCALE"), (0, u "I"), (2, u "U"), (0, u "Ljdk/internal/misc/Unsafe;"), (8, u "BIG_ENDIAN"), (0, u "Z"), (8, u "LOG2_BYTE_BIT_SIZE"), (4, u "LOG2_ARRAY_INT_INDEX_SCALE"), (54, u "JLA"), (0, u "Ljdk/internal/access/JavaLangAccess;"), (11, u "LOG2_ARRAY_BOOLEAN_INDEX_SCALE"), (9, u "LOG2_ARRAY_BYTE_INDEX_SCALE"), (5, u "LOG2_ARRAY_CHAR_INDEX_SCALE"), (5, u "LOG2_ARRAY_SHORT_INDEX_SCALE"), (18, u "LOG2_ARRAY_FLOAT_INDEX_SCALE"), (24, u "LOG2_ARRAY_DOUBLE_INDEX_SCALE"), (89, u "T_BOOLEAN"), (2, u "T_CHAR"), (1, u "T_FLOAT"), (1, u "T_DOUBLE"), (1, u "T_BYTE"), (1, u "T_SHORT"), (1, u "T_INT"), (1, u "T_LONG"), (1, u "SOFT_MAX_ARRAY_LENGTH")] 83

def k19m0 : Method := { name := "<init>", desc := "()V", sig := { parameters := [], returnType := none }, accessFlags := 2, code := none }
/-- jdk/internal/util/ArraysSupport -/
def k19 : Class := { plain "jdk/internal/util/ArraysSupport" (some 0) with
  accessFlags := 33
  interfaces := #[]
  cf := some (fileOf pool19 21 #[] #[{ accessFlags := 2, nameIndex := 9, descriptorIndex := 19, attributes := #[] }] 33 16 #[] #[{ accessFlags := 24, nameIndex := 28, descriptorIndex := 29, attributes := #[] }, { accessFlags := 26, nameIndex := 38, descriptorIndex := 39, attributes := #[] }, { accessFlags := 25, nameIndex := 121, descriptorIndex := 25, attributes := #[] }, { accessFlags := 25, nameIndex := 131, descriptorIndex := 25, attributes := #[] }, { accessFlags := 25, nameIndex := 137, descriptorIndex := 25, attributes := #[] }, { accessFlags := 25, nameIndex := 143, descriptorIndex := 25, attributes := #[] }, { accessFlags := 25, nameIndex := 53, descriptorIndex := 25, attributes := #[] }, { accessFlags := 25, nameIndex := 24, descriptorIndex := 25, attributes := #[] }, { accessFlags := 25, nameIndex := 162, descriptorIndex := 25, attributes := #[] }, { accessFlags := 25, nameIndex := 187, descriptorIndex := 25, attributes := #[] }, { accessFlags := 26, nameIndex := 48, descriptorIndex := 25, attributes := #[] }, { accessFlags := 25, nameIndex := 277, descriptorIndex := 25, attributes := #[] }, { accessFlags := 25, nameIndex := 280, descriptorIndex := 25, attributes := #[] }, { accessFlags := 25, nameIndex := 282, descriptorIndex := 25, attributes := #[] }, { accessFlags := 25, nameIndex := 284, descriptorIndex := 25, attributes := #[] }, { accessFlags := 25, nameIndex := 286, descriptorIndex := 25, attributes := #[] }, { accessFlags := 25, nameIndex := 288, descriptorIndex := 25, attributes := #[] }, { accessFlags := 25, nameIndex := 290, descriptorIndex := 25, attributes := #[] }, { accessFlags := 25, nameIndex := 292, descriptorIndex := 25, attributes := #[] }, { accessFlags := 26, nameIndex := 108, descriptorIndex := 109, attributes := #[] }, { accessFlags := 25, nameIndex := 294, descriptorIndex := 25, attributes := #[] }])
  fields := #[{ name := "U", type := (.object "jdk/internal/misc/Unsafe"), accessFlags := 24, slot := 0, constantValue := 0 }, { name := "BIG_ENDIAN", type := .boolean, accessFlags := 26, slot := 1, constantValue := 0 }, { name := "LOG2_ARRAY_BOOLEAN_INDEX_SCALE", type := .int, accessFlags := 25, slot := 2, constantValue := 0 }, { name := "LOG2_ARRAY_BYTE_INDEX_SCALE", type := .int, accessFlags := 25, slot := 3, constantValue := 0 }, { name := "LOG2_ARRAY_CHAR_INDEX_SCALE", type := .int, accessFlags := 25, slot := 4, constantValue := 0 }, { name := "LOG2_ARRAY_SHORT_INDEX_SCALE", type := .int, accessFlags := 25, slot := 5, constantValue := 0 }, { name := "LOG2_ARRAY_INT_INDEX_SCALE", type := .int, accessFlags := 25, slot := 6, constantValue := 0 }, { name := "LOG2_ARRAY_LONG_INDEX_SCALE", type := .int, accessFlags := 25, slot := 7, constantValue := 0 }, { name := "LOG2_ARRAY_FLOAT_INDEX_SCALE", type := .int, accessFlags := 25, slot := 8, constantValue := 0 }, { name := "LOG2_ARRAY_DOUBLE_INDEX_SCALE", type := .int, accessFlags := 25, slot := 9, constantValue := 0 }, { name := "LOG2_BYTE_BIT_SIZE", type := .int, accessFlags := 26, slot := 10, constantValue := 0 }, { name := "T_BOOLEAN", type := .int, accessFlags := 25, slot := 11, constantValue := 0 }, { name := "T_CHAR", type := .int, accessFlags := 25, slot := 12, constantValue := 0 }, { name := "T_FLOAT", type := .int, accessFlags := 25, slot := 13, constantValue := 0 }, { name := "T_DOUBLE", type := .int, accessFlags := 25, slot := 14, constantValue := 0 }, { name := "T_BYTE", type := .int, accessFlags := 25, slot := 15, constantValue := 0 }, { name := "T_SHORT", type := .int, accessFlags := 25, slot := 16, constantValue := 0 }, { name := "T_INT", type := .int, accessFlags := 25, slot := 17, constantValue := 0 }, { name := "T_LONG", type := .int, accessFlags := 25, slot := 18, constantValue := 0 }, { name := "JLA", type := (.object "jdk/internal/access/JavaLangAccess"), accessFlags := 26, slot := 19, constantValue := 0 }, { name := "SOFT_MAX_ARRAY_LENGTH", type := .int, accessFlags := 25, slot := 20, constantValue := 0 }]
  methods := #[k19m0]
  instanceTypes := #[]
  staticTypes := #[(.object "jdk/internal/misc/Unsafe"), .boolean, .int, .int, .int, .int, .int, .int, .int, .int, .int, .int, .int, .int, .int, .int, .int, .int, .int, (.object "jdk/internal/access/JavaLangAccess"), .int]
  resolved := Array.replicate 378 none
  statics := none }

def pool20 : Array CpInfo := pool [(1, u "java/lang/Cloneable"), (0, .class_ 1), (0, u "java/lang/Object"), (0, .class_ 3)] 3

/-- java/lang/Cloneable -/
def k20 : Class := { plain "java/lang/Cloneable" (some 0) with
  accessFlags := 1537
  interfaces := #[]
  cf := some (fileOf pool20 2 #[] #[] 1537 4 #[] #[])
  fields := #[]
  methods := #[]
  instanceTypes := #[]
  staticTypes := #[]
  resolved := Array.replicate 8 none
  statics := none }

/-- the primitive byte -/
def k21 : Class := { plain "byte" none with kind := .primitive 'B', accessFlags := 0x411 }
/-- [B -/
def k22 : Class := { plain "[B" (some 0) with kind := .array 21 .byte, interfaces := #[20, 2], accessFlags := 1041 }

/-- the primitive char -/
def k23 : Class := { plain "char" none with kind := .primitive 'C', accessFlags := 0x411 }
/-- [C -/
def k24 : Class := { plain "[C" (some 0) with kind := .array 23 .char, interfaces := #[20, 2], accessFlags := 1041 }

/-- the primitive int -/
def k25 : Class := { plain "int" none with kind := .primitive 'I', accessFlags := 0x411 }
/-- [I -/
def k26 : Class := { plain "[I" (some 0) with kind := .array 25 .int, interfaces := #[20, 2], accessFlags := 1041 }

def heap : Heap := #[{ cls := 7, slots := #[.long 0, .int 1, .null, .int 0, .null, .int 0, .int 0], vm := .statics 7 },
  { cls := 17, slots := #[.null, .null, .null], vm := .statics 17 }]
def classes : Array Class := #[k0, k1, k2, k3, k4, k5, k6, k7, k8, k9, k10, k11, k12, k13, k14, k15, k16, k17, k18, k19, k20, k21, k22, k23, k24, k25, k26]
def interned : List (Array UInt16 × Addr) := []
def slotsUsed : Nat := 10
def theMethod : MethodId := ⟨1, 1⟩
def args0 : Array Value := #[.int 5, .int 65543, .int 131080]
def aboutOver (below : List Frame) : State where
  vm := { classes := classes, interned := interned.toArray }
  heap := heap
  slotsUsed := slotsUsed
  threads := #[{ frames := .invoking theMethod args0 :: below }]
def below0 : List Frame := [.native { method := ⟨0, 0⟩, args := #[] }]
def about1 : State := aboutOver below0
def p0 : Program := .bare "" "" ""
def e0 : Env := launch0.env 0 0 0
theorem w_frames : about1.frames = Frame.invoking theMethod args0 :: below0 := rfl
set_option maxRecDepth 65536 in
theorem w_args : argsFit about1.vm theMethod args0 = true := by decide +kernel
set_option maxRecDepth 65536 in
theorem w_heap : heapFits about1 = true := by decide +kernel
set_option maxRecDepth 65536 in
theorem w_runnable : about1.curStatus? = some .runnable := by decide +kernel
set_option maxRecDepth 65536 in
theorem w_alone : about1.alone = true := by decide +kernel
set_option maxRecDepth 65536 in
theorem w_named : about1.methodNamed? x = some theMethod := by decide +kernel
set_option maxRecDepth 65536 in
theorem w_hears : about1.hears theMethod below0 = true := by decide +kernel
set_option maxRecDepth 65536 in
theorem w_ripe : about1.ripe theMethod args0 below0 = true := by decide +kernel
theorem w_running : about1.status = .running := rfl
set_option maxRecDepth 65536 in
theorem w_room : about1.hasRoom e0.platform room_1 = true :=
  launch0.hasRoom_least _ room_1 (by decide +kernel) (by decide +kernel) (by decide +kernel) (by decide +kernel) (by decide +kernel) (by decide +kernel)
theorem allAtoms_all (ts : List Jvm.Cond) (a : Array Jvm.Value) (st : Jvm.State) : (allAtoms ts).before a st = ts.all (fun c => c.before a st) := by
  induction ts with
  | nil => rfl
  | cons c t ih =>
    show (Jvm.Cond.and c (allAtoms t)).before a st = _
    rw [Jvm.Cond.before_and, ih, List.all_cons]
def words1 : List Jvm.Cond := Jvm.Cond.code x code maxLocals ret :: tables_1
/-- a 'code' word, met by the world's own term for the bytes: nothing is compared byte by byte -/
theorem code_word {y : MethodName} {bytes : ByteArray} {mx : Nat} {rt : Option FieldType} {a : Array Value} {s : State} {m : MethodId} {meth : Method} {c : Code} (h1 : s.methodNamed? y = some m) (h2 : s.vm.method? m = some meth) (h3 : meth.code = some c) (h4 : c.code = bytes)
    (h5 : (c.maxLocals == mx && c.exceptionTable.isEmpty && decide (c.maxStack ≤ mostOperands) && decide (meth.sig.returnType = rt) && !meth.locks && decide (parseMethodDescriptor y.desc = some meth.sig)) = true) : (Jvm.Cond.code y bytes mx rt).before a s = true := by
  simp only [Bool.and_eq_true, beq_iff_eq, Bool.not_eq_true', decide_eq_true_eq] at h5
  obtain ⟨⟨⟨⟨⟨g1, g2⟩, g3⟩, g4⟩, g5⟩, g6⟩ := h5
  simp [Cond.before, Cond.holds, Cond.value, h1, h2, h3, h4, g1, g2, g3, g4, g5, g6]
def isCode : Jvm.Cond → Bool
  | .code _ _ _ _ => true
  | _ => false
theorem all_split {L : List Jvm.Cond} {P : Jvm.Cond → Bool} (h1 : L.all (fun c => isCode c || P c) = true) (h2 : ∀ c ∈ L.filter isCode, P c = true) : L.all P = true := by
  refine List.all_eq_true.mpr fun c hc => ?_
  have h := List.all_eq_true.mp h1 c hc
  rcases Bool.eq_false_or_eq_true (isCode c) with hi | hi
  · exact h2 c (List.mem_filter.mpr ⟨hc, hi⟩)
  · simpa [hi] using h
set_option maxRecDepth 65536 in
theorem w_c0 : (Jvm.Cond.code x code maxLocals ret).before args0 about1 = true := code_word (m := ⟨1, 1⟩) (meth := k1m1) (c := k1c1) (by decide +kernel) rfl rfl rfl (by decide +kernel)
set_option maxRecDepth 65536 in
theorem w_c1 : (Jvm.Cond.code ({ cls := "com/example/relayout/relayout/plan/TransferToStringPinLaw", name := "mk", desc := "(I)Ljava/lang/String;" } : Jvm.MethodName) method_3_code (4 : Nat) (Option.some (Jvm.ClassFile.FieldType.object "java/lang/String"))).before args0 about1 = true := code_word (m := ⟨1, 2⟩) (meth := k1m2) (c := k1c2) (by decide +kernel) rfl rfl rfl (by decide +kernel)
set_option maxRecDepth 65536 in
theorem w_c2 : (Jvm.Cond.code ({ cls := "java/lang/String", name := "<init>", desc := "([C)V" } : Jvm.MethodName) jdk_42_method_3_code (2 : Nat) (Option.none : Option Jvm.ClassFile.FieldType)).before args0 about1 = true := code_word (m := ⟨7, 1⟩) (meth := k7m1) (c := k7c1) (by decide +kernel) rfl rfl rfl (by decide +kernel)
set_option maxRecDepth 65536 in
theorem w_c3 : (Jvm.Cond.code ({ cls := "java/lang/String", name := "<init>", desc := "([CIILjava/lang/Void;)V" } : Jvm.MethodName) jdk_42_method_149_code (6 : Nat) (Option.none : Option Jvm.ClassFile.FieldType)).before args0 about1 = true := code_word (m := ⟨7, 6⟩) (meth := k7m6) (c := k7c6) (by decide +kernel) rfl rfl rfl (by decide +kernel)
set_option maxRecDepth 65536 in
theorem w_c4 : (Jvm.Cond.code ({ cls := "java/lang/Object", name := "<init>", desc := "()V" } : Jvm.MethodName) object_method_1_code (1 : Nat) (Option.none : Option Jvm.ClassFile.FieldType)).before args0 about1 = true := code_word (m := ⟨0, 0⟩) (meth := k0m0) (c := k0c0) (by decide +kernel) rfl rfl rfl (by decide +kernel)
set_option maxRecDepth 65536 in
theorem w_c5 : (Jvm.Cond.code ({ cls := "com/example/relayout/relayout/plan/Transfer", name := "<init>", desc := "(Ljava/lang/String;Ljava/lang/String;Ljava/lang/String;)V" } : Jvm.MethodName) prog_11_method_1_code (4 : Nat) (Option.none : Option Jvm.ClassFile.FieldType)).before args0 about1 = true := code_word (m := ⟨8, 0⟩) (meth := k8m0) (c := k8c0) (by decide +kernel) rfl rfl rfl (by decide +kernel)
set_option maxRecDepth 65536 in
theorem w_c6 : (Jvm.Cond.code ({ cls := "java/util/Objects", name := "requireNonNull", desc := "(Ljava/lang/Object;Ljava/lang/String;)Ljava/lang/Object;" } : Jvm.MethodName) jdk_31_method_11_code (2 : Nat) (Option.some (Jvm.ClassFile.FieldType.object "java/lang/Object"))).before args0 about1 = true := code_word (m := ⟨9, 1⟩) (meth := k9m1) (c := k9c1) (by decide +kernel) rfl rfl rfl (by decide +kernel)
set_option maxRecDepth 65536 in
theorem w_c7 : (Jvm.Cond.code ({ cls := "com/example/relayout/relayout/plan/Transfer", name := "toString", desc := "()Ljava/lang/String;" } : Jvm.MethodName) prog_11_method_7_code (1 : Nat) (Option.some (Jvm.ClassFile.FieldType.object "java/lang/String"))).before args0 about1 = true := code_word (m := ⟨8, 1⟩) (meth := k8m1) (c := k8c1) (by decide +kernel) rfl rfl rfl (by decide +kernel)
set_option maxRecDepth 65536 in
theorem w_c8 : (Jvm.Cond.code ({ cls := "java/lang/StringBuilder", name := "<init>", desc := "()V" } : Jvm.MethodName) jdk_67_method_1_code (1 : Nat) (Option.none : Option Jvm.ClassFile.FieldType)).before args0 about1 = true := code_word (m := ⟨12, 0⟩) (meth := k12m0) (c := k12c0) (by decide +kernel) rfl rfl rfl (by decide +kernel)
set_option maxRecDepth 65536 in
theorem w_c9 : (Jvm.Cond.code ({ cls := "java/lang/AbstractStringBuilder", name := "<init>", desc := "(I)V" } : Jvm.MethodName) jdk_68_method_2_code (2 : Nat) (Option.none : Option Jvm.ClassFile.FieldType)).before args0 about1 = true := code_word (m := ⟨11, 1⟩) (meth := k11m1) (c := k11c1) (by decide +kernel) rfl rfl rfl (by decide +kernel)
set_option maxRecDepth 65536 in
theorem w_c10 : (Jvm.Cond.code ({ cls := "java/lang/StringBuilder", name := "append", desc := "(Ljava/lang/String;)Ljava/lang/StringBuilder;" } : Jvm.MethodName) jdk_67_method_7_code (2 : Nat) (Option.some (Jvm.ClassFile.FieldType.object "java/lang/StringBuilder"))).before args0 about1 = true := code_word (m := ⟨12, 1⟩) (meth := k12m1) (c := k12c1) (by decide +kernel) rfl rfl rfl (by decide +kernel)
set_option maxRecDepth 65536 in
theorem w_c11 : (Jvm.Cond.code ({ cls := "java/lang/AbstractStringBuilder", name := "append", desc := "(Ljava/lang/String;)Ljava/lang/AbstractStringBuilder;" } : Jvm.MethodName) jdk_68_method_22_code (3 : Nat) (Option.some (Jvm.ClassFile.FieldType.object "java/lang/AbstractStringBuilder"))).before args0 about1 = true := code_word (m := ⟨11, 4⟩) (meth := k11m4) (c := k11c4) (by decide +kernel) rfl rfl rfl (by decide +kernel)
set_option maxRecDepth 65536 in
theorem w_c12 : (Jvm.Cond.code ({ cls := "java/lang/String", name := "length", desc := "()I" } : Jvm.MethodName) jdk_42_method_54_code (1 : Nat) (Option.some Jvm.ClassFile.FieldType.int)).before args0 about1 = true := code_word (m := ⟨7, 3⟩) (meth := k7m3) (c := k7c3) (by decide +kernel) rfl rfl rfl (by decide +kernel)
set_option maxRecDepth 65536 in
theorem w_c13 : (Jvm.Cond.code ({ cls := "java/lang/String", name := "coder", desc := "()B" } : Jvm.MethodName) jdk_42_method_152_code (1 : Nat) (Option.some Jvm.ClassFile.FieldType.byte)).before args0 about1 = true := code_word (m := ⟨7, 8⟩) (meth := k7m8) (c := k7c8) (by decide +kernel) rfl rfl rfl (by decide +kernel)
set_option maxRecDepth 65536 in
theorem w_c14 : (Jvm.Cond.code ({ cls := "java/lang/AbstractStringBuilder", name := "ensureCapacityInternal", desc := "(I)V" } : Jvm.MethodName) jdk_68_method_9_code (3 : Nat) (Option.none : Option Jvm.ClassFile.FieldType)).before args0 about1 = true := code_word (m := ⟨11, 3⟩) (meth := k11m3) (c := k11c3) (by decide +kernel) rfl rfl rfl (by decide +kernel)
set_option maxRecDepth 65536 in
theorem w_c15 : (Jvm.Cond.code ({ cls := "java/lang/AbstractStringBuilder", name := "putStringAt", desc := "(ILjava/lang/String;)V" } : Jvm.MethodName) jdk_68_method_73_code (3 : Nat) (Option.none : Option Jvm.ClassFile.FieldType)).before args0 about1 = true := code_word (m := ⟨11, 8⟩) (meth := k11m8) (c := k11c8) (by decide +kernel) rfl rfl rfl (by decide +kernel)
set_option maxRecDepth 65536 in
theorem w_c16 : (Jvm.Cond.code ({ cls := "java/lang/AbstractStringBuilder", name := "inflateIfNeededFor", desc := "(Ljava/lang/String;)V" } : Jvm.MethodName) jdk_68_method_71_code (2 : Nat) (Option.none : Option Jvm.ClassFile.FieldType)).before args0 about1 = true := code_word (m := ⟨11, 7⟩) (meth := k11m7) (c := k11c7) (by decide +kernel) rfl rfl rfl (by decide +kernel)
set_option maxRecDepth 65536 in
theorem w_c17 : (Jvm.Cond.code ({ cls := "java/lang/String", name := "getBytes", desc := "([BIB)V" } : Jvm.MethodName) jdk_42_method_147_code (4 : Nat) (Option.none : Option Jvm.ClassFile.FieldType)).before args0 about1 = true := code_word (m := ⟨7, 5⟩) (meth := k7m5) (c := k7c5) (by decide +kernel) rfl rfl rfl (by decide +kernel)
set_option maxRecDepth 65536 in
theorem w_c18 : (Jvm.Cond.code ({ cls := "java/lang/StringBuilder", name := "toString", desc := "()Ljava/lang/String;" } : Jvm.MethodName) jdk_67_method_42_code (1 : Nat) (Option.some (Jvm.ClassFile.FieldType.object "java/lang/String"))).before args0 about1 = true := code_word (m := ⟨12, 2⟩) (meth := k12m2) (c := k12c2) (by decide +kernel) rfl rfl rfl (by decide +kernel)
set_option maxRecDepth 65536 in
theorem w_c19 : (Jvm.Cond.code ({ cls := "java/lang/String", name := "<init>", desc := "(Ljava/lang/StringBuilder;)V" } : Jvm.MethodName) jdk_42_method_53_code (2 : Nat) (Option.none : Option Jvm.ClassFile.FieldType)).before args0 about1 = true := code_word (m := ⟨7, 2⟩) (meth := k7m2) (c := k7c2) (by decide +kernel) rfl rfl rfl (by decide +kernel)
set_option maxRecDepth 65536 in
theorem w_c20 : (Jvm.Cond.code ({ cls := "java/lang/String", name := "<init>", desc := "(Ljava/lang/AbstractStringBuilder;Ljava/lang/Void;)V" } : Jvm.MethodName) jdk_42_method_150_code (5 : Nat) (Option.none : Option Jvm.ClassFile.FieldType)).before args0 about1 = true := code_word (m := ⟨7, 7⟩) (meth := k7m7) (c := k7c7) (by decide +kernel) rfl rfl rfl (by decide +kernel)
set_option maxRecDepth 65536 in
theorem w_c21 : (Jvm.Cond.code ({ cls := "java/lang/AbstractStringBuilder", name := "getValue", desc := "()[B" } : Jvm.MethodName) jdk_68_method_64_code (1 : Nat) (Option.some (Jvm.ClassFile.FieldType.array Jvm.ClassFile.FieldType.byte))).before args0 about1 = true := code_word (m := ⟨11, 5⟩) (meth := k11m5) (c := k11c5) (by decide +kernel) rfl rfl rfl (by decide +kernel)
set_option maxRecDepth 65536 in
theorem w_c22 : (Jvm.Cond.code ({ cls := "java/lang/StringBuilder", name := "length", desc := "()I" } : Jvm.MethodName) jdk_67_method_93_code (1 : Nat) (Option.some Jvm.ClassFile.FieldType.int)).before args0 about1 = true := code_word (m := ⟨12, 3⟩) (meth := k12m3) (c := k12c3) (by decide +kernel) rfl rfl rfl (by decide +kernel)
set_option maxRecDepth 65536 in
theorem w_c23 : (Jvm.Cond.code ({ cls := "java/lang/AbstractStringBuilder", name := "length", desc := "()I" } : Jvm.MethodName) jdk_68_method_6_code (1 : Nat) (Option.some Jvm.ClassFile.FieldType.int)).before args0 about1 = true := code_word (m := ⟨11, 2⟩) (meth := k11m2) (c := k11c2) (by decide +kernel) rfl rfl rfl (by decide +kernel)
set_option maxRecDepth 65536 in
theorem w_c24 : (Jvm.Cond.code ({ cls := "java/lang/AbstractStringBuilder", name := "isLatin1", desc := "()Z" } : Jvm.MethodName) jdk_68_method_68_code (1 : Nat) (Option.some Jvm.ClassFile.FieldType.boolean)).before args0 about1 = true := code_word (m := ⟨11, 6⟩) (meth := k11m6) (c := k11c6) (by decide +kernel) rfl rfl rfl (by decide +kernel)
set_option maxRecDepth 65536 in
theorem w_c25 : (Jvm.Cond.code ({ cls := "java/util/Arrays", name := "copyOfRange", desc := "([BII)[B" } : Jvm.MethodName) jdk_65_method_132_code (3 : Nat) (Option.some (Jvm.ClassFile.FieldType.array Jvm.ClassFile.FieldType.byte))).before args0 about1 = true := code_word (m := ⟨14, 2⟩) (meth := k14m2) (c := k14c2) (by decide +kernel) rfl rfl rfl (by decide +kernel)
set_option maxRecDepth 65536 in
theorem w_c26 : (Jvm.Cond.code ({ cls := "java/util/Arrays", name := "copyOfRangeByte", desc := "([BII)[B" } : Jvm.MethodName) jdk_65_method_133_code (5 : Nat) (Option.some (Jvm.ClassFile.FieldType.array Jvm.ClassFile.FieldType.byte))).before args0 about1 = true := code_word (m := ⟨14, 3⟩) (meth := k14m3) (c := k14c3) (by decide +kernel) rfl rfl rfl (by decide +kernel)
set_option maxRecDepth 65536 in
theorem w_c27 : (Jvm.Cond.code ({ cls := "java/util/Arrays", name := "checkLength", desc := "(II)V" } : Jvm.MethodName) jdk_65_method_131_code (2 : Nat) (Option.none : Option Jvm.ClassFile.FieldType)).before args0 about1 = true := code_word (m := ⟨14, 1⟩) (meth := k14m1) (c := k14c1) (by decide +kernel) rfl rfl rfl (by decide +kernel)
set_option maxRecDepth 65536 in
theorem w_c28 : (Jvm.Cond.code ({ cls := "java/lang/Math", name := "min", desc := "(II)I" } : Jvm.MethodName) jdk_29_method_69_code (2 : Nat) (Option.some Jvm.ClassFile.FieldType.int)).before args0 about1 = true := code_word (m := ⟨15, 1⟩) (meth := k15m1) (c := k15c1) (by decide +kernel) rfl rfl rfl (by decide +kernel)
set_option maxRecDepth 65536 in
theorem w_c29 : (Jvm.Cond.code ({ cls := "com/example/relayout/relayout/plan/TransferToStringPinLaw", name := "same", desc := "(Ljava/lang/String;ILjava/lang/String;)Z" } : Jvm.MethodName) method_4_code (4 : Nat) (Option.some Jvm.ClassFile.FieldType.boolean)).before args0 about1 = true := code_word (m := ⟨1, 3⟩) (meth := k1m3) (c := k1c3) (by decide +kernel) rfl rfl rfl (by decide +kernel)
set_option maxRecDepth 65536 in
theorem w_c30 : (Jvm.Cond.code ({ cls := "java/lang/String", name := "charAt", desc := "(I)C" } : Jvm.MethodName) jdk_42_method_56_code (2 : Nat) (Option.some Jvm.ClassFile.FieldType.char)).before args0 about1 = true := code_word (m := ⟨7, 4⟩) (meth := k7m4) (c := k7c4) (by decide +kernel) rfl rfl rfl (by decide +kernel)
set_option maxRecDepth 65536 in
theorem w_c31 : (Jvm.Cond.code ({ cls := "java/lang/String", name := "isLatin1", desc := "()Z" } : Jvm.MethodName) jdk_42_method_154_code (1 : Nat) (Option.some Jvm.ClassFile.FieldType.boolean)).before args0 about1 = true := code_word (m := ⟨7, 9⟩) (meth := k7m9) (c := k7c9) (by decide +kernel) rfl rfl rfl (by decide +kernel)
set_option maxRecDepth 65536 in
theorem w_c32 : (Jvm.Cond.code ({ cls := "java/lang/StringLatin1", name := "charAt", desc := "([BI)C" } : Jvm.MethodName) jdk_43_method_2_code (2 : Nat) (Option.some Jvm.ClassFile.FieldType.char)).before args0 about1 = true := code_word (m := ⟨16, 1⟩) (meth := k16m1) (c := k16c1) (by decide +kernel) rfl rfl rfl (by decide +kernel)
set_option maxRecDepth 65536 in
theorem w_c33 : (Jvm.Cond.code ({ cls := "java/lang/String", name := "checkIndex", desc := "(II)V" } : Jvm.MethodName) jdk_42_method_155_code (2 : Nat) (Option.none : Option Jvm.ClassFile.FieldType)).before args0 about1 = true := code_word (m := ⟨7, 10⟩) (meth := k7m10) (c := k7c10) (by decide +kernel) rfl rfl rfl (by decide +kernel)
set_option maxRecDepth 65536 in
theorem w_c34 : (Jvm.Cond.code ({ cls := "jdk/internal/util/Preconditions", name := "checkIndex", desc := "(IILjava/util/function/BiFunction;)I" } : Jvm.MethodName) jdk_41_method_11_code (3 : Nat) (Option.some Jvm.ClassFile.FieldType.int)).before args0 about1 = true := code_word (m := ⟨17, 1⟩) (meth := k17m1) (c := k17c1) (by decide +kernel) rfl rfl rfl (by decide +kernel)
set_option maxRecDepth 65536 in
theorem w_c35 : (Jvm.Cond.code ({ cls := "java/lang/StringUTF16", name := "compress", desc := "([CII)[B" } : Jvm.MethodName) jdk_52_method_16_code (6 : Nat) (Option.some (Jvm.ClassFile.FieldType.array Jvm.ClassFile.FieldType.byte))).before args0 about1 = true := code_word (m := ⟨18, 2⟩) (meth := k18m2) (c := k18c2) (by decide +kernel) rfl rfl rfl (by decide +kernel)
set_option maxRecDepth 65536 in
theorem w_c36 : (Jvm.Cond.code ({ cls := "java/lang/StringUTF16", name := "compress", desc := "([CI[BII)I" } : Jvm.MethodName) jdk_52_method_21_code (7 : Nat) (Option.some Jvm.ClassFile.FieldType.int)).before args0 about1 = true := code_word (m := ⟨18, 3⟩) (meth := k18m3) (c := k18c3) (by decide +kernel) rfl rfl rfl (by decide +kernel)
set_option maxRecDepth 65536 in
theorem w_c37 : (Jvm.Cond.code ({ cls := "java/lang/StringUTF16", name := "coderFromArrayLen", desc := "([BI)B" } : Jvm.MethodName) jdk_52_method_15_code (2 : Nat) (Option.some Jvm.ClassFile.FieldType.byte)).before args0 about1 = true := code_word (m := ⟨18, 1⟩) (meth := k18m1) (c := k18c1) (by decide +kernel) rfl rfl rfl (by decide +kernel)
def codes1 : List Jvm.Cond := [Jvm.Cond.code x code maxLocals ret, Jvm.Cond.code ({ cls := "com/example/relayout/relayout/plan/TransferToStringPinLaw", name := "mk", desc := "(I)Ljava/lang/String;" } : Jvm.MethodName) method_3_code (4 : Nat) (Option.some (Jvm.ClassFile.FieldType.object "java/lang/String")), Jvm.Cond.code ({ cls := "java/lang/String", name := "<init>", desc := "([C)V" } : Jvm.MethodName) jdk_42_method_3_code (2 : Nat) (Option.none : Option Jvm.ClassFile.FieldType), Jvm.Cond.code ({ cls := "java/lang/String", name := "<init>", desc := "([CIILjava/lang/Void;)V" } : Jvm.MethodName) jdk_42_method_149_code (6 : Nat) (Option.none : Option Jvm.ClassFile.FieldType), Jvm.Cond.code ({ cls := "java/lang/Object", name := "<init>", desc := "()V" } : Jvm.MethodName) object_method_1_code (1 : Nat) (Option.none : Option Jvm.ClassFile.FieldType), Jvm.Cond.code ({ cls := "com/example/relayout/relayout/plan/Transfer", name := "<init>", desc := "(Ljava/lang/String;Ljava/lang/String;Ljava/lang/String;)V" } : Jvm.MethodName) prog_11_method_1_code (4 : Nat) (Option.none : Option Jvm.ClassFile.FieldType), Jvm.Cond.code ({ cls := "java/util/Objects", name := "requireNonNull", desc := "(Ljava/lang/Object;Ljava/lang/String;)Ljava/lang/Object;" } : Jvm.MethodName) jdk_31_method_11_code (2 : Nat) (Option.some (Jvm.ClassFile.FieldType.object "java/lang/Object")), Jvm.Cond.code ({ cls := "com/example/relayout/relayout/plan/Transfer", name := "toString", desc := "()Ljava/lang/String;" } : Jvm.MethodName) prog_11_method_7_code (1 : Nat) (Option.some (Jvm.ClassFile.FieldType.object "java/lang/String")), Jvm.Cond.code ({ cls := "java/lang/StringBuilder", name := "<init>", desc := "()V" } : Jvm.MethodName) jdk_67_method_1_code (1 : Nat) (Option.none : Option Jvm.ClassFile.FieldType), Jvm.Cond.code ({ cls := "java/lang/AbstractStringBuilder", name := "<init>", desc := "(I)V" } : Jvm.MethodName) jdk_68_method_2_code (2 : Nat) (Option.none : Option Jvm.ClassFile.FieldType), Jvm.Cond.code ({ cls := "java/lang/StringBuilder", name := "append", desc := "(Ljava/lang/String;)Ljava/lang/StringBuilder;" } : Jvm.MethodName) jdk_67_method_7_code (2 : Nat) (Option.some (Jvm.ClassFile.FieldType.object "java/lang/StringBuilder")), Jvm.Cond.code ({ cls := "java/lang/AbstractStringBuilder", name := "append", desc := "(Ljava/lang/String;)Ljava/lang/AbstractStringBuilder;" } : Jvm.MethodName) jdk_68_method_22_code (3 : Nat) (Option.some (Jvm.ClassFile.FieldType.object "java/lang/AbstractStringBuilder")), Jvm.Cond.code ({ cls := "java/lang/String", name := "length", desc := "()I" } : Jvm.MethodName) jdk_42_method_54_code (1 : Nat) (Option.some Jvm.ClassFile.FieldType.int), Jvm.Cond.code ({ cls := "java/lang/String", name := "coder", desc := "()B" } : Jvm.MethodName) jdk_42_method_152_code (1 : Nat) (Option.some Jvm.ClassFile.FieldType.byte), Jvm.Cond.code ({ cls := "java/lang/AbstractStringBuilder", name := "ensureCapacityInternal", desc := "(I)V" } : Jvm.MethodName) jdk_68_method_9_code (3 : Nat) (Option.none : Option Jvm.ClassFile.FieldType), Jvm.Cond.code ({ cls := "java/lang/AbstractStringBuilder", name := "putStringAt", desc := "(ILjava/lang/String;)V" } : Jvm.MethodName) jdk_68_method_73_code (3 : Nat) (Option.none : Option Jvm.ClassFile.FieldType), Jvm.Cond.code ({ cls := "java/lang/AbstractStringBuilder", name := "inflateIfNeededFor", desc := "(Ljava/lang/String;)V" } : Jvm.MethodName) jdk_68_method_71_code (2 : Nat) (Option.none : Option Jvm.ClassFile.FieldType), Jvm.Cond.code ({ cls := "java/lang/String", name := "getBytes", desc := "([BIB)V" } : Jvm.MethodName) jdk_42_method_147_code (4 : Nat) (Option.none : Option Jvm.ClassFile.FieldType), Jvm.Cond.code ({ cls := "java/lang/StringBuilder", name := "toString", desc := "()Ljava/lang/String;" } : Jvm.MethodName) jdk_67_method_42_code (1 : Nat) (Option.some (Jvm.ClassFile.FieldType.object "java/lang/String")), Jvm.Cond.code ({ cls := "java/lang/String", name := "<init>", desc := "(Ljava/lang/StringBuilder;)V" } : Jvm.MethodName) jdk_42_method_53_code (2 : Nat) (Option.none : Option Jvm.ClassFile.FieldType), Jvm.Cond.code ({ cls := "java/lang/String", name := "<init>", desc := "(Ljava/lang/AbstractStringBuilder;Ljava/lang/Void;)V" } : Jvm.MethodName) jdk_42_method_150_code (5 : Nat) (Option.none : Option Jvm.ClassFile.FieldType), Jvm.Cond.code ({ cls := "java/lang/AbstractStringBuilder", name := "getValue", desc := "()[B" } : Jvm.MethodName) jdk_68_method_64_code (1 : Nat) (Option.some (Jvm.ClassFile.FieldType.array Jvm.ClassFile.FieldType.byte)), Jvm.Cond.code ({ cls := "java/lang/StringBuilder", name := "length", desc := "()I" } : Jvm.MethodName) jdk_67_method_93_code (1 : Nat) (Option.some Jvm.ClassFile.FieldType.int), Jvm.Cond.code ({ cls := "java/lang/AbstractStringBuilder", name := "length", desc := "()I" } : Jvm.MethodName) jdk_68_method_6_code (1 : Nat) (Option.some Jvm.ClassFile.FieldType.int), Jvm.Cond.code ({ cls := "java/lang/AbstractStringBuilder", name := "isLatin1", desc := "()Z" } : Jvm.MethodName) jdk_68_method_68_code (1 : Nat) (Option.some Jvm.ClassFile.FieldType.boolean), Jvm.Cond.code ({ cls := "java/util/Arrays", name := "copyOfRange", desc := "([BII)[B" } : Jvm.MethodName) jdk_65_method_132_code (3 : Nat) (Option.some (Jvm.ClassFile.FieldType.array Jvm.ClassFile.FieldType.byte)), Jvm.Cond.code ({ cls := "java/util/Arrays", name := "copyOfRangeByte", desc := "([BII)[B" } : Jvm.MethodName) jdk_65_method_133_code (5 : Nat) (Option.some (Jvm.ClassFile.FieldType.array Jvm.ClassFile.FieldType.byte)), Jvm.Cond.code ({ cls := "java/util/Arrays", name := "checkLength", desc := "(II)V" } : Jvm.MethodName) jdk_65_method_131_code (2 : Nat) (Option.none : Option Jvm.ClassFile.FieldType), Jvm.Cond.code ({ cls := "java/lang/Math", name := "min", desc := "(II)I" } : Jvm.MethodName) jdk_29_method_69_code (2 : Nat) (Option.some Jvm.ClassFile.FieldType.int), Jvm.Cond.code ({ cls := "com/example/relayout/relayout/plan/TransferToStringPinLaw", name := "same", desc := "(Ljava/lang/String;ILjava/lang/String;)Z" } : Jvm.MethodName) method_4_code (4 : Nat) (Option.some Jvm.ClassFile.FieldType.boolean), Jvm.Cond.code ({ cls := "java/lang/String", name := "charAt", desc := "(I)C" } : Jvm.MethodName) jdk_42_method_56_code (2 : Nat) (Option.some Jvm.ClassFile.FieldType.char), Jvm.Cond.code ({ cls := "java/lang/String", name := "isLatin1", desc := "()Z" } : Jvm.MethodName) jdk_42_method_154_code (1 : Nat) (Option.some Jvm.ClassFile.FieldType.boolean), Jvm.Cond.code ({ cls := "java/lang/StringLatin1", name := "charAt", desc := "([BI)C" } : Jvm.MethodName) jdk_43_method_2_code (2 : Nat) (Option.some Jvm.ClassFile.FieldType.char), Jvm.Cond.code ({ cls := "java/lang/String", name := "checkIndex", desc := "(II)V" } : Jvm.MethodName) jdk_42_method_155_code (2 : Nat) (Option.none : Option Jvm.ClassFile.FieldType), Jvm.Cond.code ({ cls := "jdk/internal/util/Preconditions", name := "checkIndex", desc := "(IILjava/util/function/BiFunction;)I" } : Jvm.MethodName) jdk_41_method_11_code (3 : Nat) (Option.some Jvm.ClassFile.FieldType.int), Jvm.Cond.code ({ cls := "java/lang/StringUTF16", name := "compress", desc := "([CII)[B" } : Jvm.MethodName) jdk_52_method_16_code (6 : Nat) (Option.some (Jvm.ClassFile.FieldType.array Jvm.ClassFile.FieldType.byte)), Jvm.Cond.code ({ cls := "java/lang/StringUTF16", name := "compress", desc := "([CI[BII)I" } : Jvm.MethodName) jdk_52_method_21_code (7 : Nat) (Option.some Jvm.ClassFile.FieldType.int), Jvm.Cond.code ({ cls := "java/lang/StringUTF16", name := "coderFromArrayLen", desc := "([BI)B" } : Jvm.MethodName) jdk_52_method_15_code (2 : Nat) (Option.some Jvm.ClassFile.FieldType.byte)]
set_option maxRecDepth 65536 in
theorem codes_eq : words1.filter isCode = codes1 := rfl
theorem w_codes : ∀ c ∈ words1.filter isCode, c.before args0 about1 = true := by
  rw [codes_eq]
  intro c hc
  simp only [codes1, List.mem_cons, List.not_mem_nil, or_false] at hc
  rcases hc with rfl | rfl | rfl | rfl | rfl | rfl | rfl | rfl | rfl | rfl | rfl | rfl | rfl | rfl | rfl | rfl | rfl | rfl | rfl | rfl | rfl | rfl | rfl | rfl | rfl | rfl | rfl | rfl | rfl | rfl | rfl | rfl | rfl | rfl | rfl | rfl | rfl | rfl
  · exact w_c0
  · exact w_c1
  · exact w_c2
  · exact w_c3
  · exact w_c4
  · exact w_c5
  · exact w_c6
  · exact w_c7
  · exact w_c8
  · exact w_c9
  · exact w_c10
  · exact w_c11
  · exact w_c12
  · exact w_c13
  · exact w_c14
  · exact w_c15
  · exact w_c16
  · exact w_c17
  · exact w_c18
  · exact w_c19
  · exact w_c20
  · exact w_c21
  · exact w_c22
  · exact w_c23
  · exact w_c24
  · exact w_c25
  · exact w_c26
  · exact w_c27
  · exact w_c28
  · exact w_c29
  · exact w_c30
  · exact w_c31
  · exact w_c32
  · exact w_c33
  · exact w_c34
  · exact w_c35
  · exact w_c36
  · exact w_c37
set_option maxRecDepth 65536 in
theorem w_t1 : (words1.take 24).all (fun c => isCode c || c.before args0 about1) = true := by decide +kernel
set_option maxRecDepth 65536 in
theorem w_t2 : ((words1.drop 24).take 24).all (fun c => isCode c || c.before args0 about1) = true := by decide +kernel
set_option maxRecDepth 65536 in
theorem w_t3 : (((words1.drop 24).drop 24).take 24).all (fun c => isCode c || c.before args0 about1) = true := by decide +kernel
set_option maxRecDepth 65536 in
theorem w_t4 : ((((words1.drop 24).drop 24).drop 24).take 24).all (fun c => isCode c || c.before args0 about1) = true := by decide +kernel
set_option maxRecDepth 65536 in
theorem w_t5 : (((((words1.drop 24).drop 24).drop 24).drop 24).take 24).all (fun c => isCode c || c.before args0 about1) = true := by decide +kernel
set_option maxRecDepth 65536 in
theorem w_t6 : ((((((words1.drop 24).drop 24).drop 24).drop 24).drop 24).take 24).all (fun c => isCode c || c.before args0 about1) = true := by decide +kernel
set_option maxRecDepth 65536 in
theorem w_t7 : (((((((words1.drop 24).drop 24).drop 24).drop 24).drop 24).drop 24).take 24).all (fun c => isCode c || c.before args0 about1) = true := by decide +kernel
set_option maxRecDepth 65536 in
theorem w_t8 : ((((((((words1.drop 24).drop 24).drop 24).drop 24).drop 24).drop 24).drop 24).take 24).all (fun c => isCode c || c.before args0 about1) = true := by decide +kernel
set_option maxRecDepth 65536 in
theorem w_t9 : ((((((((words1.drop 24).drop 24).drop 24).drop 24).drop 24).drop 24).drop 24).drop 24).all (fun c => isCode c || c.before args0 about1) = true := by decide +kernel
theorem w_tables : (allAtoms (Jvm.Cond.code x code maxLocals ret :: tables_1)).before args0 about1 = true := by
  rw [allAtoms_all]
  show words1.all (fun c => c.before args0 about1) = true
  refine all_split ?_ w_codes
  rw [← List.take_append_drop 24 words1, List.all_append, w_t1, ← List.take_append_drop 24 (words1.drop 24), List.all_append, w_t2, ← List.take_append_drop 24 ((words1.drop 24).drop 24), List.all_append, w_t3, ← List.take_append_drop 24 (((words1.drop 24).drop 24).drop 24), List.all_append, w_t4, ← List.take_append_drop 24 ((((words1.drop 24).drop 24).drop 24).drop 24), List.all_append, w_t5, ← List.take_append_drop 24 (((((words1.drop 24).drop 24).drop 24).drop 24).drop 24), List.all_append, w_t6, ← List.take_append_drop 24 ((((((words1.drop 24).drop 24).drop 24).drop 24).drop 24).drop 24), List.all_append, w_t7, ← List.take_append_drop 24 (((((((words1.drop 24).drop 24).drop 24).drop 24).drop 24).drop 24).drop 24), List.all_append, w_t8, w_t9]
  rfl
set_option maxRecDepth 65536 in
theorem w_rest : rest_1_c.before args0 about1 = true := by decide +kernel
set_option maxRecDepth 65536 in
theorem w_case : (Jvm.Cond.and given_1 narrow_1).before args0 about1 = true := by decide +kernel
set_option maxRecDepth 65536 in
theorem w_consts : constsHeld consts_1 about1 := Jvm.Lit.constsHeldB_iff.mp (by decide +kernel)
theorem w_applies : (headSpec (Jvm.Cond.code x code maxLocals ret :: tables_1) room_1).applies x e0.platform about1 = true :=
  (Spec.applies_iff w_frames).mpr ⟨w_running, w_runnable, w_alone, w_named, w_hears, w_ripe, w_room, w_tables⟩
theorem atStart : AtStart classFile x code maxLocals ret World_1 tables_1 room_1 Calls_1 rest_1 Pre_1 launch0 p0 e0 about1 theMethod args0 below0 :=
  ⟨lists_1, trivial, launch0.admits_env _ _ _, launch0.least_env, fairChoices_fair.cas, fairChoices_fair.clock, w_frames, w_args, w_heap, w_applies, ⟨w_consts, trivial⟩, w_rest, w_case⟩
end start1
theorem witness_1 : WitnessClaimed_1 := ⟨start1.p0, start1.e0, start1.about1, start1.theMethod, start1.args0, start1.below0, start1.atStart⟩
end Jvm.Pilot.@@N@@
