import JvmDerived
import JvmDerived.Pilot.@@N@@Statement
import JvmDerived.Pilot.@@N@@Code
set_option linter.unusedVariables false
set_option linter.unusedSimpArgs false
/- laws to paste: Road.backV (cut by pick.py; bodies as the Statement names them) -/
namespace Jvm.Pilot.@@N@@
namespace StrChars
open Jvm Sem ClassFile Op Lib Jvm.Stand Jvm.Free.XT Jvm.Free.ALB Jvm.Free.JM Jvm.Free
open Jvm.Lib.Cold (StaticIs)
/-- a char array whose places are chars -/
def Ch (a : Addr) (A : Cell) (U : State) : Prop := Arr .char a A U ∧ Typed .char A
theorem Ch.mv {a : Addr} {A : Cell} {U U' : State} (h : Ch a A U) (hal : U.vm.Alike U'.vm) (hh : U'.heap = U.heap) : Ch a A U' := ⟨h.1.mv hal hh, h.2⟩
theorem Ch.keep {a : Addr} {A : Cell} {U U' : State} (h : Ch a A U) (hal : U.vm.Alike U'.vm) (hk : U'.heap[a]? = some A) : Ch a A U' := ⟨h.1.keep hal hk, h.2⟩
/-- what place i of a char[]'s cell holds -/
def cv (A : Cell) (i : Nat) : Int32 := match A.slots[i]? with | some (.int x) => x | _ => 0
theorem Ch.get {a : Addr} {A : Cell} {U : State} (h : Ch a A U) {i : Nat} (hi : i < A.slots.size) : A.slots[i]? = some (.int (cv A i)) := by
  have e := Array.getElem?_eq_getElem hi
  have f := h.2 i _ e
  unfold cv; rw [e]
  generalize A.slots[i] = v at f
  cases v <;> simp [fits] at f ⊢
/-- the byte that i2b leaves of a char -/
def lo8 (x : Int32) : Int32 := x.toInt8.toInt32
theorem fits_lo8 (y : Int32) : fits .byte (.int (lo8 y)) = true := by
  have h1 := y.toInt8.le_toInt
  have h2 := y.toInt8.toInt_lt
  simp only [lo8, fits, Bool.and_eq_true, decide_eq_true_eq, Int32.le_iff_toInt_le, Int8.toInt_toInt32, show (-128 : Int32).toInt = -128 from by decide, show (127 : Int32).toInt = 127 from by decide]
  omega
/-- A' is A but that each place j of lo .. hi - 1 holds f j -/
def Laid (A A' : Cell) (lo hi : Nat) (f : Nat → Value) : Prop := A'.cls = A.cls ∧ A'.vm = A.vm ∧ A'.slots.size = A.slots.size ∧ ∀ i, A'.slots[i]? = if lo ≤ i ∧ i < hi then some (f i) else A.slots[i]?
theorem Laid.zero (A : Cell) (lo : Nat) (f : Nat → Value) : Laid A A lo (lo + 0) f := ⟨rfl, rfl, rfl, fun i => by rw [if_neg (by omega)]⟩
theorem Laid.step {A Ak : Cell} {lo k : Nat} {f : Nat → Value} {v : Value} (h : Laid A Ak lo k f) (hlo : lo ≤ k) (hk : k < Ak.slots.size) (hv : v = f k) : Laid A (Ak.setSlot k v) lo (k + 1) f := by
  refine ⟨h.1, h.2.1, by simpa [Cell.setSlot] using h.2.2.1, fun i => ?_⟩
  by_cases e : k = i
  · subst e; rw [Cell.slots_setSlot_self v hk, if_pos (by omega), hv]
  · rw [Cell.slots_setSlot_ne v e, h.2.2.2 i]
    by_cases q : lo ≤ i ∧ i < k
    · rw [if_pos q, if_pos (by omega)]
    · rw [if_neg q, if_neg (by omega)]
def U16 : String := "java/lang/StringUTF16"
namespace Cmp5
def yN : MethodName := ⟨"java/lang/StringUTF16", "compress", "([CI[BII)I"⟩
abbrev yB : ByteArray := jdk_52_method_21_code
theorem d0 : decode yB 0 = .ok (.iconst 0, 1) := by decide +kernel
theorem d1 : decode yB 1 = .ok (.istore 5, 2) := by decide +kernel
theorem d3 : decode yB 3 = .ok (.iload 5, 2) := by decide +kernel
theorem d5 : decode yB 5 = .ok (.iload 4, 2) := by decide +kernel
theorem d7 : decode yB 7 = .ok (.if_icmp (.ge) 37, 3) := by decide +kernel
theorem d10 : decode yB 10 = .ok (.aload_n 0, 1) := by decide +kernel
theorem d11 : decode yB 11 = .ok (.iload_n 1, 1) := by decide +kernel
theorem d12 : decode yB 12 = .ok (.caload, 1) := by decide +kernel
theorem d13 : decode yB 13 = .ok (.istore 6, 2) := by decide +kernel
theorem d15 : decode yB 15 = .ok (.iload 6, 2) := by decide +kernel
theorem d17 : decode yB 17 = .ok (.sipush 255, 3) := by decide +kernel
theorem d20 : decode yB 20 = .ok (.if_icmp (.le) 6, 3) := by decide +kernel
theorem d26 : decode yB 26 = .ok (.aload_n 2, 1) := by decide +kernel
theorem d27 : decode yB 27 = .ok (.iload_n 3, 1) := by decide +kernel
theorem d28 : decode yB 28 = .ok (.iload 6, 2) := by decide +kernel
theorem d30 : decode yB 30 = .ok (.i2b, 1) := by decide +kernel
theorem d31 : decode yB 31 = .ok (.bastore, 1) := by decide +kernel
theorem d32 : decode yB 32 = .ok (.iinc 1 1, 3) := by decide +kernel
theorem d35 : decode yB 35 = .ok (.iinc 3 1, 3) := by decide +kernel
theorem d38 : decode yB 38 = .ok (.iinc 5 1, 3) := by decide +kernel
theorem d41 : decode yB 41 = .ok (.goto (-38), 3) := by decide +kernel
theorem d44 : decode yB 44 = .ok (.iload 4, 2) := by decide +kernel
theorem d46 : decode yB 46 = .ok (.ireturn, 1) := by decide +kernel
def site : List Cond := []
def tab : Cond := tabOf yN yB 7 (some .int) site
def P (b : Addr) (A : Cell) (d : Addr) (B : Cell) (o q len : Nat) (args : Array Value) (s : State) : Prop := args = #[.ref b, .int (Int32.ofNat o), .ref d, .int (Int32.ofNat q), .int (Int32.ofNat len)] ∧ Ch b A s ∧ Arr .byte d B s ∧ b ≠ d ∧ o + len ≤ A.slots.size ∧ q + len ≤ B.slots.size ∧ ∀ i, i < len → ¬ 255 < cv A (o + i)
def E (b : Addr) (A : Cell) (d : Addr) (B : Cell) (o q len : Nat) (r : Option Value) (s u : State) : Prop := r = some (.int (Int32.ofNat len)) ∧ ∃ B', Put d B' s u ∧ Laid B B' q (q + len) (fun j => Value.int (lo8 (cv A (o + (j - q)))))
/-- no char of the range above 255: len; the places written hold each char's low byte -/
theorem law (l : Launch) (b : Addr) (A : Cell) (d : Addr) (B : Cell) (o q len : Nat) : Law l yN 5 5 0 0 yB 7 (some .int) site (P b A d B o q len) (E b A d B o q len) (copyLocs d q len) 0 0 := by
  refine Law.of_walk (plainFor_of_name (by decide +kernel)) (by decide +kernel) (by decide +kernel) (by decide) (fun _ _ h => by rw [h.1]; rfl) (fun _ U U' hal hh h => ⟨h.1, h.2.1.mv hal hh, h.2.2.1.mv hal hh, h.2.2.2⟩) (fun r U U' V V' h1 hal h2 h => ⟨h.1, h.2.elim fun B' q => ⟨B', q.1.mv h1 h2, q.2⟩⟩) ?_
  intro p e s m args below meth c s₁ X0 hexec hbytes hml hret hlk hnm hown hh0 W hP
  obtain ⟨rfl, hA, hB, hne, l1, l2, hp⟩ := hP
  have c1 : Steps p.tables e below (s₁.setTop (entryFrame m #[.ref b, .int (Int32.ofNat o), .ref d, .int (Int32.ofNat q), .int (Int32.ofNat len)] 7)) (s₁.setTop (mkF m 0 #[.val (.ref b), .val (.int (Int32.ofNat o)), .val (.ref d), .val (.int (Int32.ofNat q)), .val (.int (Int32.ofNat len)), .unset, .unset] [])) := entry rfl
  have hA0 := hA.1.mv X0.warmed.alike hh0
  have hB0 := hB.mv X0.warmed.alike hh0
  have a31 := hA.1.2.2.2
  have c2 : Steps p.tables e below (s₁.setTop (entryFrame m #[.ref b, .int (Int32.ofNat o), .ref d, .int (Int32.ofNat q), .int (Int32.ofNat len)] 7)) (s₁.setTop (mkF m 3 #[.val (.ref b), .val (.int (Int32.ofNat o)), .val (.ref d), .val (.int (Int32.ofNat q)), .val (.int (Int32.ofNat len)), .val (.int 0), .unset] [])) := c1.trans (by
    refine iconstV X0.here hexec rfl 0 (hb hbytes d0) (by decide) ?_
    refine XS.istore X0.here hexec rfl (hb hbytes d1) rfl rfl ?_
    exact Steps.refl _)
  have loop : ∀ (r i : Nat), i + r = len → ∀ (z : Slot), (z = .unset ∨ ∃ w, z = .val w ∧ w.category = 1) → ∀ (Tl : State) (Bk : Cell), Stand p l e { frames := 0, locals := 0, cells := 0, slots := 0 } s m #[.ref b, .int (Int32.ofNat o), .ref d, .int (Int32.ofNat q), .int (Int32.ofNat len)] below meth c Tl ([] ++ copyLocs d q i) 0 0 → Put d Bk s₁ Tl → Laid B Bk q (q + i) (fun j => Value.int (lo8 (cv A (o + (j - q))))) →
      Steps p.tables e below (s₁.setTop (entryFrame m #[.ref b, .int (Int32.ofNat o), .ref d, .int (Int32.ofNat q), .int (Int32.ofNat len)] 7)) (Tl.setTop (mkF m 3 #[.val (.ref b), .val (.int (Int32.ofNat (o + i))), .val (.ref d), .val (.int (Int32.ofNat (q + i))), .val (.int (Int32.ofNat len)), .val (.int (Int32.ofNat i)), z] [])) → ∃ (T' : State) (B' : Cell) (z' : Slot), Stand p l e { frames := 0, locals := 0, cells := 0, slots := 0 } s m #[.ref b, .int (Int32.ofNat o), .ref d, .int (Int32.ofNat q), .int (Int32.ofNat len)] below meth c T' ([] ++ copyLocs d q len) 0 0 ∧ Put d B' s₁ T' ∧ Laid B B' q (q + len) (fun j => Value.int (lo8 (cv A (o + (j - q))))) ∧
      Steps p.tables e below (s₁.setTop (entryFrame m #[.ref b, .int (Int32.ofNat o), .ref d, .int (Int32.ofNat q), .int (Int32.ofNat len)] 7)) (T'.setTop (mkF m 3 #[.val (.ref b), .val (.int (Int32.ofNat (o + len))), .val (.ref d), .val (.int (Int32.ofNat (q + len))), .val (.int (Int32.ofNat len)), .val (.int (Int32.ofNat len)), z'] [])) := by
    intro r
    induction r with
    | zero =>
      intro i hi z hz Tl Bk Xl pl fl cl
      have hil : i = len := by omega
      rw [hil] at Xl fl cl
      exact ⟨Tl, Bk, z, Xl, pl, fl, cl⟩
    | succ r ih =>
      intro i hi z hz Tl Bk Xl pl fl cl
      have all := X0.warmed.alike.symm.trans Xl.warmed.alike
      have hAl := hA0.keep all (pl.other hne hA0.1)
      have hBk := hB0.like all pl.1 fl.1 fl.2.1 fl.2.2.1
      have hlt : q + i < Bk.slots.size := by rw [fl.2.2.1]; omega
      have c3 : Steps p.tables e below (s₁.setTop (entryFrame m #[.ref b, .int (Int32.ofNat o), .ref d, .int (Int32.ofNat q), .int (Int32.ofNat len)] 7)) (Tl.setTop (mkF m 12 #[.val (.ref b), .val (.int (Int32.ofNat (o + i))), .val (.ref d), .val (.int (Int32.ofNat (q + i))), .val (.int (Int32.ofNat len)), .val (.int (Int32.ofNat i)), z] [.int (Int32.ofNat (o + i)), .ref b])) := cl.trans (by
        refine XS.iload Xl.here hexec rfl (hb hbytes d3) rfl ?_
        refine XS.iload Xl.here hexec rfl (hb hbytes d5) rfl ?_
        refine XS.icmpNo Xl.here hexec rfl (hb hbytes d7) rfl (ii_ge_f (lt32 (by omega) (by omega))) ?_
        refine XS.aloadN Xl.here hexec rfl (hb hbytes d10) rfl rfl ?_
        refine XS.iloadN Xl.here hexec rfl (hb hbytes d11) rfl ?_
        exact Steps.refl _)
      have c4 : Steps p.tables e below (s₁.setTop (entryFrame m #[.ref b, .int (Int32.ofNat o), .ref d, .int (Int32.ofNat q), .int (Int32.ofNat len)] 7)) (Tl.setTop (mkF m 13 #[.val (.ref b), .val (.int (Int32.ofNat (o + i))), .val (.ref d), .val (.int (Int32.ofNat (q + i))), .val (.int (Int32.ofNat len)), .val (.int (Int32.ofNat i)), z] [.int (cv A (o + i))])) := c3.trans (by
        refine Xl.aget hexec hAl rfl (hA.get (i := o + i) (by omega)) rfl rfl (hb hbytes d12) ?_
        exact Steps.refl _)
      have c5 : Steps p.tables e below (s₁.setTop (entryFrame m #[.ref b, .int (Int32.ofNat o), .ref d, .int (Int32.ofNat q), .int (Int32.ofNat len)] 7)) (Tl.setTop (mkF m 15 #[.val (.ref b), .val (.int (Int32.ofNat (o + i))), .val (.ref d), .val (.int (Int32.ofNat (q + i))), .val (.int (Int32.ofNat len)), .val (.int (Int32.ofNat i)), .val (.int (cv A (o + i)))] [])) := c4.trans (by
        refine XS.istoreS Xl.here hexec rfl (hb hbytes d13) rfl rfl hz ?_
        exact Steps.refl _)
      have c6 : Steps p.tables e below (s₁.setTop (entryFrame m #[.ref b, .int (Int32.ofNat o), .ref d, .int (Int32.ofNat q), .int (Int32.ofNat len)] 7)) (Tl.setTop (mkF m 31 #[.val (.ref b), .val (.int (Int32.ofNat (o + i))), .val (.ref d), .val (.int (Int32.ofNat (q + i))), .val (.int (Int32.ofNat len)), .val (.int (Int32.ofNat i)), .val (.int (cv A (o + i)))] [.int (lo8 (cv A (o + i))), .int (Int32.ofNat (q + i)), .ref d])) := c5.trans (by
        refine XS.iload Xl.here hexec rfl (hb hbytes d15) rfl ?_
        refine sipushV Xl.here hexec rfl 255 (hb hbytes d17) (by decide) ?_
        refine XS.icmpYes Xl.here hexec rfl (pc0 := 20) rfl (hb hbytes d20) rfl (ii_le_t (hp i (by omega))) (by decide) rfl ?_
        refine XS.aloadN Xl.here hexec rfl (hb hbytes d26) rfl rfl ?_
        refine XS.iloadN Xl.here hexec rfl (hb hbytes d27) rfl ?_
        refine XS.iload Xl.here hexec rfl (hb hbytes d28) rfl ?_
        refine i2b Xl.here hexec rfl (hb hbytes d30) rfl ?_
        exact Steps.refl _)
      obtain ⟨T7, X7, p7, st7⟩ := Xl.aput hexec hBk rfl hlt rfl (fits_lo8 (cv A (o + i))) (g := (mkF m 31 #[.val (.ref b), .val (.int (Int32.ofNat (o + i))), .val (.ref d), .val (.int (Int32.ofNat (q + i))), .val (.int (Int32.ofNat len)), .val (.int (Int32.ofNat i)), .val (.int (cv A (o + i)))] [.int (lo8 (cv A (o + i))), .int (Int32.ofNat (q + i)), .ref d])) rfl (rest := []) rfl (hb hbytes d31)
      have c8 : Steps p.tables e below (s₁.setTop (entryFrame m #[.ref b, .int (Int32.ofNat o), .ref d, .int (Int32.ofNat q), .int (Int32.ofNat len)] 7)) (T7.setTop (mkF m 32 #[.val (.ref b), .val (.int (Int32.ofNat (o + i))), .val (.ref d), .val (.int (Int32.ofNat (q + i))), .val (.int (Int32.ofNat len)), .val (.int (Int32.ofNat i)), .val (.int (cv A (o + i)))] [])) := c6.trans (st7 _ (Steps.refl _))
      have c9 : Steps p.tables e below (s₁.setTop (entryFrame m #[.ref b, .int (Int32.ofNat o), .ref d, .int (Int32.ofNat q), .int (Int32.ofNat len)] 7)) (T7.setTop (mkF m 3 #[.val (.ref b), .val (.int (Int32.ofNat (o + i) + 1)), .val (.ref d), .val (.int (Int32.ofNat (q + i) + 1)), .val (.int (Int32.ofNat len)), .val (.int (Int32.ofNat i + 1)), .val (.int (cv A (o + i)))] [])) := c8.trans (by
        refine iincV X7.here hexec rfl 1 (hb hbytes d32) (by decide) rfl rfl ?_
        refine iincV X7.here hexec rfl 1 (hb hbytes d35) (by decide) rfl rfl ?_
        refine iincV X7.here hexec rfl 1 (hb hbytes d38) (by decide) rfl rfl ?_
        refine XS.goto X7.here hexec rfl (pc0 := 41) rfl (hb hbytes d41) (by decide) rfl ?_
        exact Steps.refl _)
      have c10 : Steps p.tables e below (s₁.setTop (entryFrame m #[.ref b, .int (Int32.ofNat o), .ref d, .int (Int32.ofNat q), .int (Int32.ofNat len)] 7)) (T7.setTop (mkF m 3 #[.val (.ref b), .val (.int (Int32.ofNat (o + (i + 1)))), .val (.ref d), .val (.int (Int32.ofNat (q + (i + 1)))), .val (.int (Int32.ofNat len)), .val (.int (Int32.ofNat (i + 1))), .val (.int (cv A (o + i)))] [])) := by
        have := c9
        rw [succ32, succ32, succ32] at this
        exact this
      exact ih (i + 1) (by omega) _ (Or.inr ⟨_, rfl, rfl⟩) T7 _ (by rw [copyLocs_step, ← List.append_assoc]; exact X7) (pl.trans p7) (fl.step (by omega) hlt (by simp)) c10
  obtain ⟨T9, B9, z9, X9, p9, f9, g9⟩ := loop len 0 (by omega) .unset (Or.inl rfl) s₁ B (by simpa [copyLocs] using X0) ⟨hB0.1, fun _ _ => rfl, rfl⟩ (Laid.zero _ _ _) c2
  have c11 : Steps p.tables e below (s₁.setTop (entryFrame m #[.ref b, .int (Int32.ofNat o), .ref d, .int (Int32.ofNat q), .int (Int32.ofNat len)] 7)) (T9.setTop (mkF m 46 #[.val (.ref b), .val (.int (Int32.ofNat (o + len))), .val (.ref d), .val (.int (Int32.ofNat (q + len))), .val (.int (Int32.ofNat len)), .val (.int (Int32.ofNat len)), z9] [.int (Int32.ofNat len)])) := g9.trans (by
    refine XS.iload X9.here hexec rfl (hb hbytes d3) rfl ?_
    refine XS.iload X9.here hexec rfl (hb hbytes d5) rfl ?_
    refine XS.icmpYes X9.here hexec rfl (pc0 := 7) rfl (hb hbytes d7) rfl (ii_ge_t (nlt32 (by omega) (Nat.le_refl _))) (by decide) rfl ?_
    refine XS.iload X9.here hexec rfl (hb hbytes d44) rfl ?_
    exact Steps.refl _)
  exact ⟨T9, some (.int (Int32.ofNat len)), _, _, _, X9, by simp, rfl, rfl, (fun h => by cases h), ⟨rfl, B9, p9.from hh0, f9⟩, fun fs hl => c11.trans (X9.ireturnOut hexec hret rfl (Or.inl rfl) (hb hbytes d46) hl)⟩
end Cmp5
namespace Cmp3
def yN : MethodName := ⟨"java/lang/StringUTF16", "compress", "([CII)[B"⟩
abbrev yB : ByteArray := jdk_52_method_16_code
theorem d0 : decode yB 0 = .ok (.iload_n 2, 1) := by decide +kernel
theorem d1 : decode yB 1 = .ok (.newarray .byte, 2) := by decide +kernel
theorem d3 : decode yB 3 = .ok (.astore_n 3, 1) := by decide +kernel
theorem d4 : decode yB 4 = .ok (.aload_n 0, 1) := by decide +kernel
theorem d5 : decode yB 5 = .ok (.iload_n 1, 1) := by decide +kernel
theorem d6 : decode yB 6 = .ok (.aload_n 3, 1) := by decide +kernel
theorem d7 : decode yB 7 = .ok (.iconst 0, 1) := by decide +kernel
theorem d8 : decode yB 8 = .ok (.iload_n 2, 1) := by decide +kernel
theorem d9 : decode yB 9 = .ok (.invokestatic 115, 3) := by decide +kernel
theorem d12 : decode yB 12 = .ok (.istore 4, 2) := by decide +kernel
theorem d14 : decode yB 14 = .ok (.iload 4, 2) := by decide +kernel
theorem d16 : decode yB 16 = .ok (.iload_n 2, 1) := by decide +kernel
theorem d17 : decode yB 17 = .ok (.if_icmp (.eq) 40, 3) := by decide +kernel
theorem d57 : decode yB 57 = .ok (.aload_n 3, 1) := by decide +kernel
theorem d58 : decode yB 58 = .ok (.areturn, 1) := by decide +kernel
def site : List Cond := [.arrayClass .byte, Cmp5.tab] ++ staticW U16 115 Cmp5.yN
def tab : Cond := tabOf yN yB 6 (some (.array .byte)) site
def P (b : Addr) (A : Cell) (o len : Nat) (args : Array Value) (s : State) : Prop := args = #[.ref b, .int (Int32.ofNat o), .int (Int32.ofNat len)] ∧ Ch b A s ∧ o + len ≤ A.slots.size ∧ len ≤ 536870912 ∧ ∀ i, i < len → ¬ 255 < cv A (o + i)
def E (b : Addr) (A : Cell) (o len : Nat) (r : Option Value) (s u : State) : Prop := NewArr .byte "[B" len (fun j => .int (lo8 (cv A (o + j)))) r s u ∧ u.heap.size = s.heap.size + 1
/-- no char of the range above 255: a new byte[] of their low bytes -/
theorem law (l : Launch) (b : Addr) (A : Cell) (o len : Nat) : Law l yN 3 3 1 18 yB 6 (some (.array .byte)) site (P b A o len) (E b A o len) [] 1 len := by
  refine Law.of_walk (plainFor_of_name (by decide +kernel)) (by decide +kernel) (by decide +kernel) (by decide) (fun _ _ h => by rw [h.1]; rfl) (fun _ U U' hal hh h => ⟨h.1, h.2.1.mv hal hh, h.2.2⟩) (fun r U U' V V' h1 hal h2 h => ⟨NewArr.mv r U U' V V' h1 hal h2 h.1, by rw [h1, h2]; exact h.2⟩) ?_
  intro p e s m args below meth c s₁ X0 hexec hbytes hml hret hlk hnm hown hh0 W hP
  obtain ⟨rfl, hA, l1, l2, hp⟩ := hP
  have a31 := hA.1.2.2.2
  have c1 : Steps p.tables e below (s₁.setTop (entryFrame m #[.ref b, .int (Int32.ofNat o), .int (Int32.ofNat len)] 6)) (s₁.setTop (mkF m 0 #[.val (.ref b), .val (.int (Int32.ofNat o)), .val (.int (Int32.ofNat len)), .unset, .unset, .unset] [])) := entry rfl
  have c2 : Steps p.tables e below (s₁.setTop (entryFrame m #[.ref b, .int (Int32.ofNat o), .int (Int32.ofNat len)] 6)) (s₁.setTop (mkF m 1 #[.val (.ref b), .val (.int (Int32.ofNat o)), .val (.int (Int32.ofNat len)), .unset, .unset, .unset] [.int (Int32.ofNat len)])) := c1.trans (by
    refine XS.iloadN X0.here hexec rfl (hb hbytes d0) rfl ?_
    exact Steps.refl _)
  obtain ⟨T3, B3, X3, ba3, bs3, bv3, bh3, bf3, st3⟩ := X0.anew hexec (atype := .byte) (wk W (.arrayClass .byte)) rfl (by show len * 1 ≤ _; omega) (by omega) (g := (mkF m 1 #[.val (.ref b), .val (.int (Int32.ofNat o)), .val (.int (Int32.ofNat len)), .unset, .unset, .unset] [.int (Int32.ofNat len)])) rfl (hb hbytes d1) (rest := []) rfl (Nat.le_refl _) (by show 0 + len ≤ len; omega)
  rw [hh0] at ba3 st3
  have kp3 : XT.Kept s T3 := (XT.Kept.of_eq hh0).push bh3
  have hA3 := hA.keep X3.warmed.alike (kp3 _ _ hA.1.1)
  have hne : b ≠ s.heap.size := hA.1.ne
  have c4 : Steps p.tables e below (s₁.setTop (entryFrame m #[.ref b, .int (Int32.ofNat o), .int (Int32.ofNat len)] 6)) (T3.setTop (mkF m 3 #[.val (.ref b), .val (.int (Int32.ofNat o)), .val (.int (Int32.ofNat len)), .unset, .unset, .unset] [.ref s.heap.size])) := c2.trans (st3 _ (Steps.refl _))
  have c5 : Steps p.tables e below (s₁.setTop (entryFrame m #[.ref b, .int (Int32.ofNat o), .int (Int32.ofNat len)] 6)) (T3.setTop (mkF m 9 #[.val (.ref b), .val (.int (Int32.ofNat o)), .val (.int (Int32.ofNat len)), .val (.ref s.heap.size), .unset, .unset] [.int (Int32.ofNat len), .int 0, .ref s.heap.size, .int (Int32.ofNat o), .ref b])) := c4.trans (by
    refine XS.astoreN X3.here hexec rfl (hb hbytes d3) rfl rfl rfl ?_
    refine XS.aloadN X3.here hexec rfl (hb hbytes d4) rfl rfl ?_
    refine XS.iloadN X3.here hexec rfl (hb hbytes d5) rfl ?_
    refine XS.aloadN X3.here hexec rfl (hb hbytes d6) rfl rfl ?_
    refine iconstV X3.here hexec rfl 0 (hb hbytes d7) (by decide) ?_
    refine XS.iloadN X3.here hexec rfl (hb hbytes d8) rfl ?_
    exact Steps.refl _)
  obtain ⟨v6, T6, X6, E6, g6⟩ := X3.callS hexec (Cmp5.law l b A s.heap.size B3 o 0 len) hown (wks W (staticW U16 115 Cmp5.yN)) (wk W Cmp5.tab) (W := 0) (Nat.le_of_ble_eq_true rfl) (Nat.le_of_ble_eq_true rfl) (Nat.le_refl _) (by show 0 + len + 0 ≤ len; omega) (g := (mkF m 9 #[.val (.ref b), .val (.int (Int32.ofNat o)), .val (.int (Int32.ofNat len)), .val (.ref s.heap.size), .unset, .unset] [.int (Int32.ofNat len), .int (Int32.ofNat 0), .ref s.heap.size, .int (Int32.ofNat o), .ref b])) rfl (by rw [hml]; rfl) c5 (argsL := [.ref b, .int (Int32.ofNat o), .ref s.heap.size, .int (Int32.ofNat 0), .int (Int32.ofNat len)]) (rest := []) rfl rfl (by show 2 * 0 + 0 ≤ _; decide) (hb hbytes d9) (⟨rfl, hA3, ba3, hne, l1, by rw [bs3]; simp, hp⟩)
  obtain ⟨rfl, B6, p6, f6⟩ := E6
  have c7 : Steps p.tables e below (s₁.setTop (entryFrame m #[.ref b, .int (Int32.ofNat o), .int (Int32.ofNat len)] 6)) (T6.setTop (mkF m 12 #[.val (.ref b), .val (.int (Int32.ofNat o)), .val (.int (Int32.ofNat len)), .val (.ref s.heap.size), .unset, .unset] [.int (Int32.ofNat len)])) := g6
  have c8 : Steps p.tables e below (s₁.setTop (entryFrame m #[.ref b, .int (Int32.ofNat o), .int (Int32.ofNat len)] 6)) (T6.setTop (mkF m 58 #[.val (.ref b), .val (.int (Int32.ofNat o)), .val (.int (Int32.ofNat len)), .val (.ref s.heap.size), .val (.int (Int32.ofNat len)), .unset] [.ref s.heap.size])) := c7.trans (by
    refine XS.istore X6.here hexec rfl (hb hbytes d12) rfl rfl ?_
    refine XS.iload X6.here hexec rfl (hb hbytes d14) rfl ?_
    refine XS.iloadN X6.here hexec rfl (hb hbytes d16) rfl ?_
    refine XS.icmpYes X6.here hexec rfl (pc0 := 17) rfl (hb hbytes d17) rfl (ii_eq_t rfl) (by decide) rfl ?_
    refine XS.aloadN X6.here hexec rfl (hb hbytes d57) rfl rfl ?_
    exact Steps.refl _)
  have X8 := X6.wide (L' := []) (cells' := 1) (slots' := len) (fun x hx hlt => by
    simp only [List.nil_append, copyLocs, List.mem_map, List.mem_range] at hx
    obtain ⟨i, -, rfl⟩ := hx
    exact absurd hlt (Nat.lt_irrefl _)) (Nat.le_refl _) (by omega)
  exact ⟨T6, some (.ref s.heap.size), _, _, _, X8, rfl, rfl, rfl, (fun h => by cases h), ⟨⟨rfl, B6, ba3.like (X3.warmed.alike.symm.trans X6.warmed.alike) p6.1 f6.1 f6.2.1 f6.2.2.1, f6.2.1.trans bv3, by rw [X6.warmed.alike.findClass, f6.1]; exact bf3, by rw [f6.2.2.1, bs3]; simp, fun j hj => by rw [f6.2.2.2 j, if_pos (by omega)]; rfl, kp3.put p6 (Nat.le_refl _)⟩, by rw [p6.2.2, bh3, hh0]; simp⟩, fun fs hl => c8.trans (X8.areturnOut hexec rfl hret rfl (hb hbytes d58) hl)⟩
end Cmp3
namespace CodL
def yN : MethodName := ⟨"java/lang/StringUTF16", "coderFromArrayLen", "([BI)B"⟩
abbrev yB : ByteArray := jdk_52_method_15_code
theorem d0 : decode yB 0 = .ok (.iload_n 1, 1) := by decide +kernel
theorem d1 : decode yB 1 = .ok (.aload_n 0, 1) := by decide +kernel
theorem d2 : decode yB 2 = .ok (.arraylength, 1) := by decide +kernel
theorem d3 : decode yB 3 = .ok (.isub, 1) := by decide +kernel
theorem d4 : decode yB 4 = .ok (.bipush 31, 2) := by decide +kernel
theorem d6 : decode yB 6 = .ok (.iushr, 1) := by decide +kernel
theorem d7 : decode yB 7 = .ok (.i2b, 1) := by decide +kernel
theorem d8 : decode yB 8 = .ok (.ireturn, 1) := by decide +kernel
def site : List Cond := []
def tab : Cond := tabOf yN yB 2 (some .byte) site
def P (d : Addr) (B : Cell) (args : Array Value) (s : State) : Prop := args = #[.ref d, .int (Int32.ofNat B.slots.size)] ∧ Arr .byte d B s
def E (r : Option Value) (s u : State) : Prop := XT.PureE (some (.int 0)) r s u
/-- an array as long as the number of chars: LATIN1 -/
theorem law (l : Launch) (d : Addr) (B : Cell) : Law l yN 2 2 0 0 yB 2 (some .byte) site (P d B) E [] 0 0 := by
  refine Law.of_walk (plainFor_of_name (by decide +kernel)) (by decide +kernel) (by decide +kernel) (by decide) (fun _ _ h => by rw [h.1]; rfl) (fun _ U U' hal hh h => ⟨h.1, h.2.mv hal hh⟩) (fun r U U' V V' h1 hal h2 h => XT.PureE.mv r U U' V V' h1 hal h2 h) ?_
  intro p e s m args below meth c s₁ X0 hexec hbytes hml hret hlk hnm hown hh0 W hP
  obtain ⟨rfl, hB⟩ := hP
  have hB0 := hB.mv X0.warmed.alike hh0
  have c1 : Steps p.tables e below (s₁.setTop (entryFrame m #[.ref d, .int (Int32.ofNat B.slots.size)] 2)) (s₁.setTop (mkF m 0 #[.val (.ref d), .val (.int (Int32.ofNat B.slots.size))] [])) := entry rfl
  have c2 : Steps p.tables e below (s₁.setTop (entryFrame m #[.ref d, .int (Int32.ofNat B.slots.size)] 2)) (s₁.setTop (mkF m 2 #[.val (.ref d), .val (.int (Int32.ofNat B.slots.size))] [.ref d, .int (Int32.ofNat B.slots.size)])) := c1.trans (by
    refine XS.iloadN X0.here hexec rfl (hb hbytes d0) rfl ?_
    refine XS.aloadN X0.here hexec rfl (hb hbytes d1) rfl rfl ?_
    exact Steps.refl _)
  have c3 : Steps p.tables e below (s₁.setTop (entryFrame m #[.ref d, .int (Int32.ofNat B.slots.size)] 2)) (s₁.setTop (mkF m 8 #[.val (.ref d), .val (.int (Int32.ofNat B.slots.size))] [.int (lo8 (ushr (Int32.ofNat B.slots.size - Int32.ofNat B.slots.size) 31))])) := c2.trans (by
    refine X0.alen hexec hB0 rfl rfl (hb hbytes d2) ?_
    refine XS.isub X0.here hexec rfl (hb hbytes d3) rfl ?_
    refine bipushV X0.here hexec rfl 31 (hb hbytes d4) (by decide) ?_
    refine iushr X0.here hexec rfl (hb hbytes d6) rfl ?_
    refine i2b X0.here hexec rfl (hb hbytes d7) rfl ?_
    exact Steps.refl _)
  have e0 : lo8 (ushr (Int32.ofNat B.slots.size - Int32.ofNat B.slots.size) 31) = 0 := by rw [Int32.sub_self]; decide
  rw [e0] at c3
  exact ⟨s₁, some (.int 0), _, _, _, X0, rfl, rfl, rfl, (fun h => by cases h), ⟨rfl, hh0⟩, fun fs hl => c3.trans (X0.ireturnOut hexec hret rfl (Or.inr (Or.inr (Or.inl rfl))) (hb hbytes d8) hl)⟩
end CodL
/-- the String at a is Latin-1 over a new byte[] (the heap's one new cell): the low bytes of the len chars of A from o on; every cell but a is kept -/
def Got (a : Addr) (D : Cell) (fV fC : Field) (A : Cell) (o len : Nat) (r : Option Value) (s u : State) : Prop := r = none ∧ ∃ D' V : Cell, Blank "java/lang/String" a D' u ∧ Same D D' [fV.slot, fC.slot] ∧ D'.slots[fV.slot]? = some (.ref s.heap.size) ∧ D'.slots[fC.slot]? = some (.int 0) ∧ Arr .byte s.heap.size V u ∧ V.vm = .none ∧ u.vm.findClass "[B" = some V.cls ∧ V.slots.size = len ∧ (∀ j, j < len → V.slots[j]? = some (.int (lo8 (cv A (o + j))))) ∧ (∀ (y : Addr) (c : Cell), y ≠ a → s.heap[y]? = some c → u.heap[y]? = some c) ∧ u.heap.size = s.heap.size + 1
theorem Got.mv {a : Addr} {D A : Cell} {fV fC : Field} {o len : Nat} : ∀ r (U U' V V' : State), U'.heap = U.heap → V.vm.Alike V'.vm → V'.heap = V.heap → Got a D fV fC A o len r U V → Got a D fV fC A o len r U' V' :=
  fun r U U' V V' h1 hal h2 ⟨e0, D', X, a1, a2, a3, a4, a5, a6, a7, a8, a9, a10, a11⟩ => ⟨e0, D', X, a1.mv hal h2, a2, by rw [h1]; exact a3, a4, by rw [h1]; exact a5.mv hal h2, a6, by rw [hal.findClass]; exact a7, a8, a9, by rw [h1, h2]; exact a10, by rw [h1, h2]; exact a11⟩
namespace New4
def yN : MethodName := ⟨"java/lang/String", "<init>", "([CIILjava/lang/Void;)V"⟩
abbrev yB : ByteArray := jdk_42_method_149_code
theorem d0 : decode yB 0 = .ok (.aload_n 0, 1) := by decide +kernel
theorem d1 : decode yB 1 = .ok (.invokespecial 1, 3) := by decide +kernel
theorem d4 : decode yB 4 = .ok (.iload_n 3, 1) := by decide +kernel
theorem d5 : decode yB 5 = .ok (.ifCond (.ne) 22, 3) := by decide +kernel
theorem d27 : decode yB 27 = .ok (.getstatic 38, 3) := by decide +kernel
theorem d30 : decode yB 30 = .ok (.ifCond (.eq) 28, 3) := by decide +kernel
theorem d33 : decode yB 33 = .ok (.aload_n 1, 1) := by decide +kernel
theorem d34 : decode yB 34 = .ok (.iload_n 2, 1) := by decide +kernel
theorem d35 : decode yB 35 = .ok (.iload_n 3, 1) := by decide +kernel
theorem d36 : decode yB 36 = .ok (.invokestatic 177, 3) := by decide +kernel
theorem d39 : decode yB 39 = .ok (.astore 5, 2) := by decide +kernel
theorem d41 : decode yB 41 = .ok (.aload_n 0, 1) := by decide +kernel
theorem d42 : decode yB 42 = .ok (.aload 5, 2) := by decide +kernel
theorem d44 : decode yB 44 = .ok (.iload_n 3, 1) := by decide +kernel
theorem d45 : decode yB 45 = .ok (.invokestatic 47, 3) := by decide +kernel
theorem d48 : decode yB 48 = .ok (.putfield 15, 3) := by decide +kernel
theorem d51 : decode yB 51 = .ok (.aload_n 0, 1) := by decide +kernel
theorem d52 : decode yB 52 = .ok (.aload 5, 2) := by decide +kernel
theorem d54 : decode yB 54 = .ok (.putfield 9, 3) := by decide +kernel
theorem d57 : decode yB 57 = .ok (.return_, 1) := by decide +kernel
def site : List Cond := [.fieldLink "java/lang/String" 38 "java/lang/String" "COMPACT_STRINGS" "Z", Cmp3.tab, CodL.tab, .laysFinal "java/lang/String" "java/lang/String" "value" "[B", .fieldLink "java/lang/String" 9 "java/lang/String" "value" "[B", .laysFinal "java/lang/String" "java/lang/String" "coder" "B", .fieldLink "java/lang/String" 15 "java/lang/String" "coder" "B"] ++ objW "java/lang/String" 1 ++ staticW "java/lang/String" 177 Cmp3.yN ++ staticW "java/lang/String" 47 CodL.yN
def tab : Cond := tabOf yN yB 6 none site
def P (a : Addr) (D : Cell) (fV fC : Field) (b : Addr) (A : Cell) (z : Int32) (o len : Nat) (args : Array Value) (s : State) : Prop := args = #[.ref a, .ref b, .int (Int32.ofNat o), .int (Int32.ofNat len), .null] ∧ Blank "java/lang/String" a D s ∧ Found "java/lang/String" "value" "[B" fV s ∧ Found "java/lang/String" "coder" "B" fC s ∧ Ch b A s ∧ StaticIs s "java/lang/String" "COMPACT_STRINGS" "Z" (.int z) ∧ ¬ z = 0 ∧ 0 < len ∧ o + len ≤ A.slots.size ∧ len ≤ 536870912 ∧ ∀ i, i < len → ¬ 255 < cv A (o + i)
def E (a : Addr) (D : Cell) (fV fC : Field) (A : Cell) (o len : Nat) (r : Option Value) (s u : State) : Prop := Got a D fV fC A o len r s u
/-- len > 0, no char of the range above 255: a Latin-1 String of their low bytes -/
theorem law (l : Launch) (a : Addr) (D : Cell) (fV fC : Field) (b : Addr) (A : Cell) (z : Int32) (o len : Nat) : Law l yN 5 4 2 35 yB 6 none site (P a D fV fC b A z o len) (E a D fV fC A o len) [⟨a, fC.slot⟩, ⟨a, fV.slot⟩] 1 len := by
  refine Law.of_walk (plainFor_of_name (by decide +kernel)) (by decide +kernel) (by decide +kernel) (by decide) (fun _ _ h => by rw [h.1]; rfl) (fun _ U U' hal hh h => ⟨h.1, h.2.1.mv hal hh, h.2.2.1.al hal, h.2.2.2.1.al hal, h.2.2.2.2.1.mv hal hh, h.2.2.2.2.2.1.there hal hh, h.2.2.2.2.2.2⟩) (fun r U U' V V' h1 hal h2 h => Got.mv r U U' V V' h1 hal h2 h) ?_
  intro p e s m args below meth c s₁ X0 hexec hbytes hml hret hlk hnm hown hh0 W hP
  obtain ⟨rfl, hB, f1, f2, hA, s1, hz, l0, l1, l2, hp⟩ := hP
  have a31 := hA.1.2.2.2
  have c1 : Steps p.tables e below (s₁.setTop (entryFrame m #[.ref a, .ref b, .int (Int32.ofNat o), .int (Int32.ofNat len), .null] 6)) (s₁.setTop (mkF m 0 #[.val (.ref a), .val (.ref b), .val (.int (Int32.ofNat o)), .val (.int (Int32.ofNat len)), .val .null, .unset] [])) := entry rfl
  have c2 : Steps p.tables e below (s₁.setTop (entryFrame m #[.ref a, .ref b, .int (Int32.ofNat o), .int (Int32.ofNat len), .null] 6)) (s₁.setTop (mkF m 1 #[.val (.ref a), .val (.ref b), .val (.int (Int32.ofNat o)), .val (.int (Int32.ofNat len)), .val .null, .unset] [.ref a])) := c1.trans (by
    refine XS.aloadN X0.here hexec rfl (hb hbytes d0) rfl rfl ?_
    exact Steps.refl _)
  obtain ⟨T3, X3, q3, st3⟩ := X0.oinit hexec hown (wks W (objW "java/lang/String" 1)) (g := (mkF m 1 #[.val (.ref a), .val (.ref b), .val (.int (Int32.ofNat o)), .val (.int (Int32.ofNat len)), .val .null, .unset] [.ref a])) rfl (by rw [hml]; rfl) (rest := []) rfl (hb hbytes d1) (W := 0) (by show 2 * 0 + 0 ≤ _; decide) (Nat.le_of_ble_eq_true rfl) (Nat.le_of_ble_eq_true rfl)
  have hh3 := q3.trans hh0
  have c4 : Steps p.tables e below (s₁.setTop (entryFrame m #[.ref a, .ref b, .int (Int32.ofNat o), .int (Int32.ofNat len), .null] 6)) (T3.setTop (mkF m 27 #[.val (.ref a), .val (.ref b), .val (.int (Int32.ofNat o)), .val (.int (Int32.ofNat len)), .val .null, .unset] [])) := (c2.trans (st3 _ (Steps.refl _))).trans (by
    refine XS.iloadN X3.here hexec rfl (hb hbytes d4) rfl ?_
    refine XS.ifYes X3.here hexec rfl (pc0 := 5) rfl (hb hbytes d5) rfl (i0_ne_t (nz32 (by omega) l0)) (by decide) rfl ?_
    exact Steps.refl _)
  obtain ⟨T5, X5, q5, st5⟩ := X3.sget hexec hown (wk W (.fieldLink "java/lang/String" 38 "java/lang/String" "COMPACT_STRINGS" "Z")) s1 (fun _ _ h => by rw [hh3]; exact h) (g := (mkF m 27 #[.val (.ref a), .val (.ref b), .val (.int (Int32.ofNat o)), .val (.int (Int32.ofNat len)), .val .null, .unset] [])) rfl (hb hbytes d27)
  have hh5 := q5.trans hh3
  have c6 : Steps p.tables e below (s₁.setTop (entryFrame m #[.ref a, .ref b, .int (Int32.ofNat o), .int (Int32.ofNat len), .null] 6)) (T5.setTop (mkF m 30 #[.val (.ref a), .val (.ref b), .val (.int (Int32.ofNat o)), .val (.int (Int32.ofNat len)), .val .null, .unset] [.int z])) := c4.trans (st5 _ (Steps.refl _))
  have c7 : Steps p.tables e below (s₁.setTop (entryFrame m #[.ref a, .ref b, .int (Int32.ofNat o), .int (Int32.ofNat len), .null] 6)) (T5.setTop (mkF m 36 #[.val (.ref a), .val (.ref b), .val (.int (Int32.ofNat o)), .val (.int (Int32.ofNat len)), .val .null, .unset] [.int (Int32.ofNat len), .int (Int32.ofNat o), .ref b])) := c6.trans (by
    refine XS.ifNo X5.here hexec rfl (hb hbytes d30) rfl (i0_eq_f hz) ?_
    refine XS.aloadN X5.here hexec rfl (hb hbytes d33) rfl rfl ?_
    refine XS.iloadN X5.here hexec rfl (hb hbytes d34) rfl ?_
    refine XS.iloadN X5.here hexec rfl (hb hbytes d35) rfl ?_
    exact Steps.refl _)
  obtain ⟨v8, T8, X8, E8, g8⟩ := X5.callS hexec (Cmp3.law l b A o len) hown (wks W (staticW "java/lang/String" 177 Cmp3.yN)) (wk W Cmp3.tab) (W := 0) (Nat.le_of_ble_eq_true rfl) (Nat.le_of_ble_eq_true rfl) (Nat.le_refl _) (by show 0 + len ≤ len; omega) (g := (mkF m 36 #[.val (.ref a), .val (.ref b), .val (.int (Int32.ofNat o)), .val (.int (Int32.ofNat len)), .val .null, .unset] [.int (Int32.ofNat len), .int (Int32.ofNat o), .ref b])) rfl (by rw [hml]; rfl) c7 (argsL := [.ref b, .int (Int32.ofNat o), .int (Int32.ofNat len)]) (rest := []) rfl rfl (by show 2 * 0 + 0 ≤ _; decide) (hb hbytes d36) (⟨rfl, hA.mv X5.warmed.alike hh5, l1, l2, hp⟩)
  obtain ⟨e8, z8⟩ := E8
  obtain ⟨rfl, N, n1, n2, n3, n4, n5, n6⟩ := NewArr.mv _ T5 s _ _ hh5.symm (Vm.Alike.refl _) rfl e8
  rw [hh5] at z8
  have hB1 := hB.keep X8.warmed.alike (n6 _ _ hB.1)
  have hne : s.heap.size ≠ a := (Nat.ne_of_lt (Array.getElem?_eq_some_iff.mp hB.1).1).symm
  have c9 : Steps p.tables e below (s₁.setTop (entryFrame m #[.ref a, .ref b, .int (Int32.ofNat o), .int (Int32.ofNat len), .null] 6)) (T8.setTop (mkF m 39 #[.val (.ref a), .val (.ref b), .val (.int (Int32.ofNat o)), .val (.int (Int32.ofNat len)), .val .null, .unset] [.ref s.heap.size])) := g8
  have c10 : Steps p.tables e below (s₁.setTop (entryFrame m #[.ref a, .ref b, .int (Int32.ofNat o), .int (Int32.ofNat len), .null] 6)) (T8.setTop (mkF m 45 #[.val (.ref a), .val (.ref b), .val (.int (Int32.ofNat o)), .val (.int (Int32.ofNat len)), .val .null, .val (.ref s.heap.size)] [.int (Int32.ofNat N.slots.size), .ref s.heap.size, .ref a])) := by
    have hc : Steps p.tables e below (s₁.setTop (entryFrame m #[.ref a, .ref b, .int (Int32.ofNat o), .int (Int32.ofNat len), .null] 6)) (T8.setTop (mkF m 45 #[.val (.ref a), .val (.ref b), .val (.int (Int32.ofNat o)), .val (.int (Int32.ofNat len)), .val .null, .val (.ref s.heap.size)] [.int (Int32.ofNat len), .ref s.heap.size, .ref a])) := c9.trans (by
      refine XS.astore X8.here hexec rfl (hb hbytes d39) rfl rfl rfl ?_
      refine XS.aloadN X8.here hexec rfl (hb hbytes d41) rfl rfl ?_
      refine XS.aload X8.here hexec rfl (hb hbytes d42) rfl rfl ?_
      refine XS.iloadN X8.here hexec rfl (hb hbytes d44) rfl ?_
      exact Steps.refl _)
    rw [n4]; exact hc
  obtain ⟨v11, T11, X11, E11, g11⟩ := X8.callS hexec (CodL.law l s.heap.size N) hown (wks W (staticW "java/lang/String" 47 CodL.yN)) (wk W CodL.tab) (W := 1) (Nat.le_of_ble_eq_true rfl) (Nat.le_of_ble_eq_true rfl) (Nat.le_refl _) (by show 0 + len + 0 ≤ len; omega) (g := (mkF m 45 #[.val (.ref a), .val (.ref b), .val (.int (Int32.ofNat o)), .val (.int (Int32.ofNat len)), .val .null, .val (.ref s.heap.size)] [.int (Int32.ofNat N.slots.size), .ref s.heap.size, .ref a])) rfl (by rw [hml]; rfl) c10 (argsL := [.ref s.heap.size, .int (Int32.ofNat N.slots.size)]) (rest := [.ref a]) rfl rfl (by show 2 * 0 + (1 + 0) ≤ _; decide) (hb hbytes d45) (⟨rfl, n1⟩)
  obtain ⟨rfl, q11⟩ := E11
  have hB11 := hB1.mv (X8.warmed.alike.symm.trans X11.warmed.alike) q11
  have c12 : Steps p.tables e below (s₁.setTop (entryFrame m #[.ref a, .ref b, .int (Int32.ofNat o), .int (Int32.ofNat len), .null] 6)) (T11.setTop (mkF m 48 #[.val (.ref a), .val (.ref b), .val (.int (Int32.ofNat o)), .val (.int (Int32.ofNat len)), .val .null, .val (.ref s.heap.size)] [.int 0, .ref a])) := g11
  obtain ⟨T13, X13, p13, bl13, sl13, st13⟩ := X11.finit hexec hown (wk W (.fieldLink "java/lang/String" 15 "java/lang/String" "coder" "B")) (Or.inr ⟨_, (wk W (.laysFinal "java/lang/String" "java/lang/String" "coder" "B"))⟩) (Or.inl ⟨rfl, hnm⟩) f2 (Or.inl rfl) hB11 (t := .byte) (by decide +kernel) rfl (g := (mkF m 48 #[.val (.ref a), .val (.ref b), .val (.int (Int32.ofNat o)), .val (.int (Int32.ofNat len)), .val .null, .val (.ref s.heap.size)] [.int 0, .ref a])) rfl (rest := []) rfl (hb hbytes d48)
  have c14 : Steps p.tables e below (s₁.setTop (entryFrame m #[.ref a, .ref b, .int (Int32.ofNat o), .int (Int32.ofNat len), .null] 6)) (T13.setTop (mkF m 54 #[.val (.ref a), .val (.ref b), .val (.int (Int32.ofNat o)), .val (.int (Int32.ofNat len)), .val .null, .val (.ref s.heap.size)] [.ref s.heap.size, .ref a])) := (c12.trans (st13 _ (Steps.refl _))).trans (by
    refine XS.aloadN X13.here hexec rfl (hb hbytes d51) rfl rfl ?_
    refine XS.aload X13.here hexec rfl (hb hbytes d52) rfl rfl ?_
    exact Steps.refl _)
  obtain ⟨T15, X15, p15, bl15, sl15, st15⟩ := X13.finit hexec hown (wk W (.fieldLink "java/lang/String" 9 "java/lang/String" "value" "[B")) (Or.inr ⟨_, (wk W (.laysFinal "java/lang/String" "java/lang/String" "value" "[B"))⟩) (Or.inl ⟨rfl, hnm⟩) f1 (Or.inl rfl) bl13 (t := (.array .byte)) (by decide +kernel) rfl (g := (mkF m 54 #[.val (.ref a), .val (.ref b), .val (.int (Int32.ofNat o)), .val (.int (Int32.ofNat len)), .val .null, .val (.ref s.heap.size)] [.ref s.heap.size, .ref a])) rfl (rest := []) rfl (hb hbytes d54)
  have c16 : Steps p.tables e below (s₁.setTop (entryFrame m #[.ref a, .ref b, .int (Int32.ofNat o), .int (Int32.ofNat len), .null] 6)) (T15.setTop (mkF m 57 #[.val (.ref a), .val (.ref b), .val (.int (Int32.ofNat o)), .val (.int (Int32.ofNat len)), .val .null, .val (.ref s.heap.size)] [])) := c14.trans (st15 _ (Steps.refl _))
  have ap := apart (Or.inr ⟨_, (wk W (.laysFinal "java/lang/String" "java/lang/String" "value" "[B"))⟩) (Or.inr ⟨_, (wk W (.laysFinal "java/lang/String" "java/lang/String" "coder" "B"))⟩) f1 f2 (t₁ := .array .byte) (t₂ := .byte) (by decide +kernel) (by decide +kernel) (by decide)
  have al := X8.warmed.alike.symm.trans X15.warmed.alike
  have n7 : T11.heap[s.heap.size]? = some N := by rw [q11]; exact n1.1
  exact ⟨T15, none, _, _, _, X15, by simp, rfl, by omega, (fun _ => rfl), ⟨rfl, _, N, bl15, ((Same.refl D _).set _ (by simp)).set _ (by simp), sl15, (Cell.slots_setSlot_ne _ ap).trans sl13, n1.keep al (p15.other hne (p13.other hne n7)), n2, by rw [al.findClass]; exact n3, n4, n5, fun y c h1 h2 => p15.other h1 (p13.other h1 (by rw [q11]; exact n6 y c h2)), by rw [p15.2.2, p13.2.2, q11]; exact z8⟩, fun fs hl => c16.trans (X15.returnOut hexec hret (hb hbytes d57) hl)⟩
end New4
namespace New1
def yN : MethodName := ⟨"java/lang/String", "<init>", "([C)V"⟩
abbrev yB : ByteArray := jdk_42_method_3_code
theorem d0 : decode yB 0 = .ok (.aload_n 0, 1) := by decide +kernel
theorem d1 : decode yB 1 = .ok (.aload_n 1, 1) := by decide +kernel
theorem d2 : decode yB 2 = .ok (.iconst 0, 1) := by decide +kernel
theorem d3 : decode yB 3 = .ok (.aload_n 1, 1) := by decide +kernel
theorem d4 : decode yB 4 = .ok (.arraylength, 1) := by decide +kernel
theorem d5 : decode yB 5 = .ok (.aconst_null, 1) := by decide +kernel
theorem d6 : decode yB 6 = .ok (.invokespecial 27, 3) := by decide +kernel
theorem d9 : decode yB 9 = .ok (.return_, 1) := by decide +kernel
def site : List Cond := [New4.tab] ++ initW "java/lang/String" 27 New4.yN
def tab : Cond := tabOf yN yB 2 none site
def P (a : Addr) (D : Cell) (fV fC : Field) (b : Addr) (A : Cell) (z : Int32) (args : Array Value) (s : State) : Prop := args = #[.ref a, .ref b] ∧ Blank "java/lang/String" a D s ∧ Found "java/lang/String" "value" "[B" fV s ∧ Found "java/lang/String" "coder" "B" fC s ∧ Ch b A s ∧ StaticIs s "java/lang/String" "COMPACT_STRINGS" "Z" (.int z) ∧ ¬ z = 0 ∧ 0 < A.slots.size ∧ A.slots.size ≤ 536870912 ∧ ∀ i, i < A.slots.size → ¬ 255 < cv A i
def E (a : Addr) (D : Cell) (fV fC : Field) (A : Cell) (r : Option Value) (s u : State) : Prop := Got a D fV fC A 0 A.slots.size r s u
/-- new String(chars), not empty, no char above 255: a Latin-1 String of their low bytes -/
theorem law (l : Launch) (a : Addr) (D : Cell) (fV fC : Field) (b : Addr) (A : Cell) (z : Int32) : Law l yN 2 1 3 52 yB 2 none site (P a D fV fC b A z) (E a D fV fC A) [⟨a, fC.slot⟩, ⟨a, fV.slot⟩] 1 A.slots.size := by
  refine Law.of_walk (plainFor_of_name (by decide +kernel)) (by decide +kernel) (by decide +kernel) (by decide) (fun _ _ h => by rw [h.1]; rfl) (fun _ U U' hal hh h => ⟨h.1, h.2.1.mv hal hh, h.2.2.1.al hal, h.2.2.2.1.al hal, h.2.2.2.2.1.mv hal hh, h.2.2.2.2.2.1.there hal hh, h.2.2.2.2.2.2⟩) (fun r U U' V V' h1 hal h2 h => Got.mv r U U' V V' h1 hal h2 h) ?_
  intro p e s m args below meth c s₁ X0 hexec hbytes hml hret hlk hnm hown hh0 W hP
  obtain ⟨rfl, hB, f1, f2, hA, s1, hz, l0, l2, hp⟩ := hP
  have c1 : Steps p.tables e below (s₁.setTop (entryFrame m #[.ref a, .ref b] 2)) (s₁.setTop (mkF m 0 #[.val (.ref a), .val (.ref b)] [])) := entry rfl
  have c2 : Steps p.tables e below (s₁.setTop (entryFrame m #[.ref a, .ref b] 2)) (s₁.setTop (mkF m 6 #[.val (.ref a), .val (.ref b)] [.null, .int (Int32.ofNat A.slots.size), .int 0, .ref b, .ref a])) := c1.trans (by
    refine XS.aloadN X0.here hexec rfl (hb hbytes d0) rfl rfl ?_
    refine XS.aloadN X0.here hexec rfl (hb hbytes d1) rfl rfl ?_
    refine iconstV X0.here hexec rfl 0 (hb hbytes d2) (by decide) ?_
    refine XS.aloadN X0.here hexec rfl (hb hbytes d3) rfl rfl ?_
    refine X0.alen hexec (hA.1.mv X0.warmed.alike hh0) rfl rfl (hb hbytes d4) ?_
    refine XS.aconstNull X0.here hexec rfl (hb hbytes d5) ?_
    exact Steps.refl _)
  obtain ⟨v3, T3, X3, E3, g3⟩ := X0.callN hexec (New4.law l a D fV fC b A z 0 A.slots.size) rfl hown (wks W (initW "java/lang/String" 27 New4.yN)) (W New4.tab (by simp only [site, List.mem_cons, List.mem_append, true_or, or_true])) (W := 0) (Nat.le_of_ble_eq_true rfl) (Nat.le_of_ble_eq_true rfl) (Nat.le_refl _) (by show 0 + A.slots.size ≤ A.slots.size; omega) (g := (mkF m 6 #[.val (.ref a), .val (.ref b)] [.null, .int (Int32.ofNat A.slots.size), .int (Int32.ofNat 0), .ref b, .ref a])) rfl (by rw [hml]; rfl) c2 (argsL := [.ref b, .int (Int32.ofNat 0), .int (Int32.ofNat A.slots.size), .null]) (rest := []) rfl rfl (by show 2 * 0 + 0 ≤ _; decide) (hb hbytes d6) (⟨rfl, hB.mv X0.warmed.alike hh0, f1.al X0.warmed.alike, f2.al X0.warmed.alike, hA.mv X0.warmed.alike hh0, s1.there X0.warmed.alike hh0, hz, l0, by omega, l2, fun i hi => by rw [Nat.zero_add]; exact hp i hi⟩)
  have e0 := Got.mv _ s₁ s _ _ hh0.symm (Vm.Alike.refl _) rfl E3
  obtain rfl := e0.1
  have c4 : Steps p.tables e below (s₁.setTop (entryFrame m #[.ref a, .ref b] 2)) (T3.setTop (mkF m 9 #[.val (.ref a), .val (.ref b)] [])) := g3
  exact ⟨T3, none, _, _, _, X3, by simp, rfl, by omega, (fun _ => rfl), e0, fun fs hl => c4.trans (X3.returnOut hexec hret (hb hbytes d9) hl)⟩
theorem pays {l : Launch} {R : Room} {p : Program} {e : Env} {below : List Frame} {s : State} {sargs : Array Value} {len W : Nat} (a : Addr) (D : Cell) (fV fC : Field) (b : Addr) (A : Cell) (z : Int32) (htab : tab.before sargs s = true) (hfr : 4 ≤ R.frames) (hlo : W + 65 ≤ R.locals) :
    Back l R p e below s sargs yN len W (fun A₁ a₁ => A₁.cells + 1 ≤ R.cells ∧ A₁.slots + A.slots.size ≤ R.slots ∧ P a D fV fC b A z a₁ A₁.U) (fun A₁ _ v₁ B₁ => E a D fV fC A v₁ A₁.U B₁.U ∧ B₁.locs = A₁.locs ++ [⟨a, fC.slot⟩, ⟨a, fV.slot⟩] ∧ B₁.cells = A₁.cells + 1 ∧ B₁.slots = A₁.slots + A.slots.size) :=
  (law l a D fV fC b A z).pays htab hfr (by omega)
end New1
end StrChars
namespace StrChars.Road
open Jvm Sem ClassFile Op Lib Jvm.Stand Jvm.Free Jvm.Free.XT
open Jvm.Lib.Cold (StaticIs)
abbrev ST : String := "java/lang/String"
/-- every table word that New1's law asks, flat -/
abbrev words : List Jvm.Cond := [.code New1.yN New1.yB 2 none, .initialized ST, .methodLink ST 27 New4.yN, .instanceMethod New4.yN,
  .code New4.yN New4.yB 6 none, .fieldLink ST 38 ST "COMPACT_STRINGS" "Z", .laysFinal ST ST "value" "[B", .fieldLink ST 9 ST "value" "[B", .laysFinal ST ST "coder" "B", .fieldLink ST 15 ST "coder" "B",
  .methodLink ST 1 Lib.objectInit, .instanceMethod Lib.objectInit, .code Lib.objectInit ⟨#[0xb1]⟩ 1 none, .methodLink ST 177 Cmp3.yN, .static Cmp3.yN, .methodLink ST 47 CodL.yN, .static CodL.yN,
  .code Cmp3.yN Cmp3.yB 6 (some (.array .byte)), .initialized U16, .arrayClass .byte, .methodLink U16 115 Cmp5.yN, .static Cmp5.yN, .code Cmp5.yN Cmp5.yB 7 (some .int), .code CodL.yN CodL.yB 2 (some .byte)]
theorem tab_of {a : Array Value} {s : State} (h : ∀ w ∈ words, w.before a s = true) : New1.tab.before a s = true := by
  have h5 : Cmp5.tab.before a s = true := unparts (wk h (.code Cmp5.yN Cmp5.yB 7 (some .int))) (wks h (.initialized Cmp5.yN.cls :: Cmp5.site))
  have hc : CodL.tab.before a s = true := unparts (wk h (.code CodL.yN CodL.yB 2 (some .byte))) (wks h (.initialized CodL.yN.cls :: CodL.site))
  have q5 : ∀ w ∈ Cmp5.tab :: words, w.before a s = true := fun w hw => (List.mem_cons.mp hw).elim (fun e => e ▸ h5) (h w)
  have h3 : Cmp3.tab.before a s = true := unparts (wk q5 (.code Cmp3.yN Cmp3.yB 6 (some (.array .byte)))) (wks q5 (.initialized Cmp3.yN.cls :: Cmp3.site))
  have q3 : ∀ w ∈ Cmp3.tab :: CodL.tab :: words, w.before a s = true := fun w hw => (List.mem_cons.mp hw).elim (fun e => e ▸ h3) fun hw => (List.mem_cons.mp hw).elim (fun e => e ▸ hc) (h w)
  have h4 : New4.tab.before a s = true := unparts (wk q3 (.code New4.yN New4.yB 6 none)) (wks q3 (.initialized New4.yN.cls :: New4.site))
  have q4 : ∀ w ∈ New4.tab :: words, w.before a s = true := fun w hw => (List.mem_cons.mp hw).elim (fun e => e ▸ h4) (h w)
  exact unparts (wk q4 (.code New1.yN New1.yB 2 none)) (wks q4 (.initialized New1.yN.cls :: New1.site))
/-- the words ride from the start Z to the walk's own state -/
theorem moved {Z s : State} {a0 args : Array Value} (hZ : Z.Warmed39 s.vm) (hw : ∀ d ∈ words, d.before a0 Z = true) : ∀ d ∈ words, d.before args s = true := fun d hd => by
  have q := hw d hd
  have t : ∀ d ∈ words, d = .arrayClass .byte ∨ (d.onTables && d.keepsFace) = true := by decide +kernel
  rcases t d hd with rfl | t
  · exact RoadKit.mvA hZ q
  · exact RoadKit.mv hZ q t
/-- WHAT COMES BACK, over the tables of the start Z: h the heap at the call, h' behind it -/
def Q (Z : State) (x : Addr) (A : Cell) (h : Heap) (v : Option Value) (h' : Heap) (L : List Loc) : Prop := v = none ∧ (∀ y ∈ L, y.base = x) ∧ RoadKit.Keep h h' [x] ∧ h'.size = h.size + 1 ∧ RoadKit.Exa Z h' x ST ∧ RoadKit.Fld Z h' x ST "value" "[B" (.ref h.size) ∧ RoadKit.Fld Z h' x ST "coder" "B" (.int 0) ∧
  (∃ V : Cell, RoadKit.Arr Z h' h.size V .byte ∧ V.vm = .none ∧ Z.vm.findClass "[B" = some V.cls ∧ V.slots.size = A.slots.size ∧ ∀ j, j < A.slots.size → V.slots[j]? = some (.int (lo8 (cv A j)))) ∧
  ∀ (O n d : String) (w : Value), RoadKit.Fld Z h x O n d w → RoadKit.slotOf Z O n d ≠ RoadKit.slotOf Z ST "value" "[B" → RoadKit.slotOf Z O n d ≠ RoadKit.slotOf Z ST "coder" "B" → RoadKit.Fld Z h' x O n d w
/-- **new String(chars) AT A CALL, IN THE ROAD'S FORM**: for specialBack behind newO: x the fresh String, b the char[] with the cell A -/
theorem back {p : Program} {l : Launch} {e : Env} {R : Room} {s : State} {args : Array Value} {below : List Frame} {len W : Nat} {Z : State} {a0 : Array Value} {h : Heap} (hZ : Z.Warmed39 s.vm) (hw : ∀ d ∈ words, d.before a0 Z = true) {kI : Nat} (wi : (Jvm.Cond.instantiable ST kI).before a0 Z = true)
    {x b : Addr} {A : Cell} {z : Int32} {v0 c0 : Value} (E : RoadKit.Exa Z h x ST) (V : RoadKit.Fld Z h x ST "value" "[B" v0) (C : RoadKit.Fld Z h x ST "coder" "B" c0) (K : RoadKit.Arr Z h b A .char) (hty : Typed .char A) (S : RoadKit.Sta Z h ST "COMPACT_STRINGS" "Z" (.int z)) (hz : ¬ z = 0)
    (l0 : 0 < A.slots.size) (l2 : A.slots.size ≤ 536870912) (hp : ∀ i, i < A.slots.size → ¬ 255 < cv A i) (hfr : 4 ≤ R.frames) (hlo : W + 65 ≤ R.locals) :
    Back l R p e below s args New1.yN len W (fun P a => a = #[.ref x, .ref b] ∧ P.U.heap = h ∧ P.cells + 1 ≤ R.cells ∧ P.slots + A.slots.size ≤ R.slots)
      (fun P _ v B => ∃ L, Q Z x A h v B.U.heap L ∧ B.locs = P.locs ++ L ∧ B.cells = P.cells + 1 ∧ B.slots = P.slots + A.slots.size) := by
  intro m meth c P g ig mk a X hg hsize hdg hW hn hp'
  obtain ⟨rfl, rfl, r1, r2⟩ := hp'
  have al : Z.vm.Alike P.U.vm := hZ.alike.trans X.warmed.alike
  obtain ⟨D, cfV, kV, iV, fV, hD, gV, stV, knV, obV, asV, slV⟩ := id V
  obtain ⟨D', cfC, kC, iC, fC, hD', gC, stC, -, -, asC, slC⟩ := id C
  cases hD.symm.trans hD'
  obtain ⟨D2, kD, e1, e2, e3, e4, e5⟩ := id E
  cases hD.symm.trans e1
  obtain ⟨c2, k2, i1, i2, i3, -⟩ := Cond.instantiable_spec wi
  cases e2.symm.trans i1
  cases e3.symm.trans i2
  obtain ⟨kU, u1, u2⟩ := al.2.2 _ _ e3
  have hB : Blank ST x D P.U := ⟨hD, ⟨knV, fun q hq => by rw [hq] at obV; cases obV⟩, by rw [al.findClass]; exact e2, kU, u1, by rw [u2]; exact i3, by rw [u2]; exact e5 i3⟩
  have F1 : Found ST "value" "[B" fV P.U := ⟨SBG.found_only al ⟨cfV, kV, iV, gV⟩, stV⟩
  have F2 : Found ST "coder" "B" fC P.U := ⟨SBG.found_only al ⟨cfC, kC, iC, gC⟩, stC⟩
  have hA : Ch b A P.U := ⟨⟨K.1, State.isArrayOf_alike al K.2.1, K.2.2, by omega⟩, hty⟩
  have hS : StaticIs P.U ST "COMPACT_STRINGS" "Z" (.int z) := by
    obtain ⟨cfS, iS, kS, fS, st, cS, t1, t2, t3, t4, t5, t6, t7⟩ := S
    exact StaticIs.there (s := { Z with heap := P.U.heap }) ⟨cfS, iS, kS, fS, st, cS, t1, t2, t3, t4, t5, (fun q => by rw [q] at t6; cases t6), t7⟩ al rfl
  obtain ⟨v, B, X', ⟨⟨hv, E', V', q1, q2, q3, q4, q5, q6, q7, q8, q9, q10, q11⟩, hl, hc, hs⟩, st⟩ := New1.pays x D fV fC b A z (tab_of (moved hZ hw)) hfr hlo m meth c P g ig mk _ X hg hsize hdg hW hn ⟨r1, r2, rfl, hB, F1, F2, hA, hS, hz, l0, l2, hp⟩
  have al' : Z.vm.Alike B.U.vm := hZ.alike.trans X'.warmed.alike
  have hsz : E'.slots.size = D.slots.size := by
    obtain ⟨-, -, -, kB, w1, w2, w3⟩ := q1
    obtain ⟨kB', y1, y2⟩ := al'.2.2 _ _ e3
    rw [q2.2.1] at w1
    cases w1.symm.trans y1
    rw [w3, e5 i3, y2]
  refine ⟨v, B, X', ⟨_, ⟨hv, ?_, ⟨by omega, fun y cy hy hn' => q10 y cy (by simpa using hn') hy, fun y cy hy => ?_⟩, q11, ⟨E', _, q1.1, by rw [q2.2.1]; exact e2, by rw [q2.2.1]; exact e3, by rw [q2.1]; exact obV, fun _ => by rw [hsz]; exact e5 i3⟩,
    ⟨E', cfV, kV, iV, fV, q1.1, gV, stV, by rw [q2.1]; exact knV, by rw [q2.1]; exact obV, by rw [q2.2.1]; exact asV, q3⟩, ⟨E', cfC, kC, iC, fC, q1.1, gC, stC, by rw [q2.1]; exact knV, by rw [q2.1]; exact obV, by rw [q2.2.1]; exact asC, q4⟩,
    ⟨V', ⟨q5.1, State.isArrayOf_alike al'.symm q5.2.1, q5.2.2.1⟩, q6, by rw [← al'.findClass]; exact q7, q8, fun j hj => by have := q9 j hj; rwa [Nat.zero_add] at this⟩, fun O n d w F n1 n2 => ?_⟩, hl, hc, hs⟩, st⟩
  · intro y hy
    simp only [List.mem_cons, List.not_mem_nil, or_false] at hy
    rcases hy with rfl | rfl <;> rfl
  · by_cases q : y = x
    · subst q
      cases hD.symm.trans hy
      exact ⟨E', q1.1, q2.2.1, q2.1, hsz⟩
    · exact ⟨cy, q10 y cy q hy, rfl, rfl, rfl⟩
  · obtain ⟨D3, cf, k, i, f, g1, g2, g3, g4, g5, g6, g7⟩ := F
    cases hD.symm.trans g1
    simp only [RoadKit.slotOf, g2, gV, gC, Option.map_some, Option.getD_some] at n1 n2
    exact ⟨E', cf, k, i, f, q1.1, g2, g3, by rw [q2.1]; exact g4, by rw [q2.1]; exact g5, by rw [q2.2.1]; exact g6, by rw [q2.2.2 f.slot (by simp [n1, n2])]; exact g7⟩
end StrChars.Road
namespace StrChars.Road
open Jvm Sem ClassFile Op Lib Jvm.Stand Jvm.Free Jvm.Free.XT
/-- WHAT COMES BACK, the byte[] as a list of values -/
def QA (Z : State) (x : Addr) (zn : Int32) (cs : List Int32) (h : Heap) (v : Option Value) (h' : Heap) (L : List Loc) : Prop := v = none ∧ (∀ y ∈ L, y.base = x) ∧ RoadKit.Keep h h' [x] ∧ h'.size = h.size + 1 ∧ RoadKit.Exa Z h' x ST ∧ RoadKit.Fld Z h' x ST "value" "[B" (.ref h.size) ∧ RoadKit.Fld Z h' x ST "coder" "B" (.int 0) ∧
  (∃ kb, Z.vm.findClass "[B" = some kb ∧ RoadKit.Arv Z h' h.size kb .byte zn (cs.map fun c => .int (lo8 c)) (.int 0)) ∧
  ∀ (O n d : String) (w : Value), RoadKit.Fld Z h x O n d w → RoadKit.slotOf Z O n d ≠ RoadKit.slotOf Z ST "value" "[B" → RoadKit.slotOf Z O n d ≠ RoadKit.slotOf Z ST "coder" "B" → RoadKit.Fld Z h' x O n d w
/-- **new String(chars) AT A CALL, THE ARRAYS AS LISTS**: the char[] at b holds cs, not empty, no char above 255 -/
theorem backArv {p : Program} {l : Launch} {e : Env} {R : Room} {s : State} {args : Array Value} {below : List Frame} {len W : Nat} {Z : State} {a0 : Array Value} {h : Heap} (hZ : Z.Warmed39 s.vm) (hw : ∀ d ∈ words, d.before a0 Z = true) {kI : Nat} (wi : (Jvm.Cond.instantiable ST kI).before a0 Z = true)
    {x b : Addr} {k : ClassId} {zn z : Int32} {cs : List Int32} {dv v0 c0 : Value} (E : RoadKit.Exa Z h x ST) (V : RoadKit.Fld Z h x ST "value" "[B" v0) (C : RoadKit.Fld Z h x ST "coder" "B" c0) (K : RoadKit.Arv Z h b k .char zn (cs.map Value.int) dv) (S : RoadKit.Sta Z h ST "COMPACT_STRINGS" "Z" (.int z)) (hz : ¬ z = 0)
    (hlen : zn.toNatClampNeg = cs.length) (h0 : 0 < cs.length) (hbig : cs.length ≤ 536870912) (hall : ∀ c ∈ cs, ¬ 255 < c) (hfr : 4 ≤ R.frames) (hlo : W + 65 ≤ R.locals) :
    Back l R p e below s args New1.yN len W (fun P a => a = #[.ref x, .ref b] ∧ P.U.heap = h ∧ P.cells + 1 ≤ R.cells ∧ P.slots + cs.length ≤ R.slots)
      (fun P _ v B => ∃ L, QA Z x zn cs h v B.U.heap L ∧ B.locs = P.locs ++ L ∧ B.cells = P.cells + 1 ∧ B.slots = P.slots + cs.length) := by
  obtain ⟨A, K1, K2, K3, K4, K5, K6⟩ := K
  have e : A.slots.size = cs.length := K3.trans hlen
  have hat : ∀ (i : Nat) (hi : i < cs.length), A.slots[i]? = some (.int cs[i]) := fun i hi => by rw [K5 i (by omega)]; simp [List.getD_eq_getElem?_getD, hi]
  have hcv : ∀ (i : Nat) (hi : i < cs.length), cv A i = cs[i] := fun i hi => by unfold cv; rw [hat i hi]
  have hty : Typed .char A := fun i v hv => by
    have hi : i < A.slots.size := (Array.getElem?_eq_some_iff.mp hv).1
    have q := K5 i hi
    rw [hv] at q
    rw [Option.some.inj q]
    exact K6 i hi
  refine Back.mono (back hZ hw wi E V C K1 hty S hz (by omega) (by omega) (fun i hi => by rw [hcv i (by omega)]; exact hall _ (List.getElem_mem _)) hfr hlo) (fun P a hp => ⟨hp.1, hp.2.1, hp.2.2.1, by rw [e]; exact hp.2.2.2⟩) (fun P a v B hp hq => ?_)
  obtain ⟨L, ⟨q1, q2, q3, q4, q5, q6, q7, ⟨V', v1, v2, v3, v4, v5⟩, q9⟩, hl, hc, hs⟩ := hq
  refine ⟨L, ⟨q1, q2, q3, q4, q5, q6, q7, ⟨V'.cls, v3, V', v1, rfl, by rw [v4, e, hlen], K4, fun i hi => ?_, fun i hi => ?_⟩, q9⟩, hl, hc, by rw [hs, e]⟩
  · have hi' : i < cs.length := by omega
    rw [v5 i (by omega), hcv i hi']; simp [List.getD_eq_getElem?_getD, hi']
  · have hi' : i < cs.length := by omega
    simp only [List.getD_eq_getElem?_getD, List.getElem?_map, List.getElem?_eq_getElem hi', Option.map_some, Option.getD_some]
    exact fits_lo8 _
end StrChars.Road
namespace StrChars.Road
open Jvm Sem ClassFile Op Lib Jvm.Stand Jvm.Free Jvm.Free.XT
/-- WHAT COMES BACK, in the writer's own shape -/
def QV (Z : State) (x : Addr) (N : Int32) (bs : List Int32) (h : Heap) (n0 : Nat) (v : Option Value) (h' : Heap) (L : List Loc) : Prop := v = none ∧ RoadKit.Fr n0 L ∧ RoadKit.Keep h h' [x] ∧ RoadKit.Exa Z h' x ST ∧ RoadKit.Fld Z h' x ST "coder" "B" (.int 0) ∧
  ∃ (t : Addr) (kb : ClassId), n0 ≤ t ∧ h.size ≤ t ∧ ¬ t = x ∧ RoadKit.Fld Z h' x ST "value" "[B" (.ref t) ∧ RoadKit.Arv Z h' t kb .byte N (bs.map Value.int) (.int 0)
/-- **new String(chars) AT A CALL, FOR THE WRITER**: a char[] of n known ints, each 0 to 255 -/
theorem backV {p : Program} {l : Launch} {e : Env} {R : Room} {s : State} {args : Array Value} {below : List Frame} {len W : Nat} {Z : State} {a0 : Array Value} {h : Heap} (hZ : Z.Warmed39 s.vm) (hw : ∀ d ∈ words, d.before a0 Z = true) {kI : Nat} (wi : (Jvm.Cond.instantiable ST kI).before a0 Z = true)
    {x b : Addr} {kC : ClassId} {cs bs : List Int32} {d v0 c0 : Value} {z N : Int32} {n n0 : Nat} (hx0 : n0 ≤ x) (hh0 : n0 ≤ h.size) (E : RoadKit.Exa Z h x ST) (V : RoadKit.Fld Z h x ST "value" "[B" v0) (C : RoadKit.Fld Z h x ST "coder" "B" c0) (K : RoadKit.Arv Z h b kC .char N (cs.map Value.int) d) (S : RoadKit.Sta Z h ST "COMPACT_STRINGS" "Z" (.int z)) (hz : ¬ z = 0)
    (hn : cs.length = n) (hN : N = Int32.ofNat n) (l0 : 0 < n) (l2 : n ≤ 4000) (hp : ∀ c ∈ cs, ¬ c < 0 ∧ ¬ (255 : Int32) < c) (hb : bs = cs.map (fun c => c.toInt8.toInt32)) (hfr : 4 ≤ R.frames) (hlo : W + 65 ≤ R.locals) :
    Back l R p e below s args (⟨"java/lang/String", "<init>", "([C)V"⟩ : MethodName) len W (fun P a => a = #[.ref x, .ref b] ∧ P.U.heap = h ∧ P.cells + 1 ≤ R.cells ∧ P.slots + n ≤ R.slots)
      (fun P _ v B => ∃ L, QV Z x N bs h n0 v B.U.heap L ∧ B.locs = P.locs ++ L ∧ B.cells = P.cells + 1 ∧ B.slots = P.slots + n) := by
  subst hn hN hb
  refine Back.mono (backArv hZ hw wi E V C K S hz (n32 (by omega)) l0 (by omega) (fun c hc => (hp c hc).2) hfr hlo) (fun P a hp => hp) (fun P a v B hp hq => ?_)
  obtain ⟨L, ⟨q1, q2, q3, q4, q5, q6, q7, ⟨kb, v1, v2⟩, q9⟩, hl, hc, hs⟩ := hq
  exact ⟨L, ⟨q1, fun y hy => by rw [q2 y hy]; exact hx0, q3, q5, q7, h.size, kb, hh0, Nat.le_refl _, Nat.ne_of_gt E.lt, q6, by rw [List.map_map]; exact v2⟩, hl, hc, hs⟩
end StrChars.Road
end Jvm.Pilot.@@N@@
namespace Jvm.Pilot.@@N@@
open Jvm Jvm.ClassFile Sem Op Lib Jvm.Free Jvm.Stand Jvm.LawKit Jvm.RoadKit Bundle Jvm.Pilot.@@N@@.Jvm.D
theorem own_sta {s : State} {args : Array Value} {C n d K : String} (hx : (Jvm.Cond.exactly (Term.static C n d) K).value args s none s [] = some true) (wi : (Jvm.Cond.initialized C).before args s = true) (wl : (Jvm.Cond.laysStatic C n d).before args s = true) :
    ∃ w : Addr, (Term.static C n d).eval args s none [] s = some (.ref w) ∧ Sta s s.heap C n d (.ref w) ∧ Exa s s.heap w K := by
  obtain ⟨w, ew⟩ := exa_v hx
  exact ⟨w, ew, Sta.start ew (Or.inr ⟨wi, wl⟩), Exa.start ew hx⟩
theorem own_fld {s : State} {args : Array Value} {t : Term} {w : Addr} {C n d : String} {k : Int32} (ev : t.eval args s none [] s = some (.ref w)) (hx : (Jvm.Cond.eq (Term.field t C n d) (Term.int k)).value args s none s [] = some true) : Fld s s.heap w C n d (.int k) := by
  have e1 := fld_at (C := C) (n := n) (dd := d) ev
  refine Fld.start ?_
  cases hv : s.fieldOf? w C n d with
  | none => rw [hv] at e1; simp [Cond.value, e1] at hx
  | some v =>
    rw [hv] at e1
    have e2 : (Term.int k).eval args s none [] s = some (.int k) := Term.int_eval k
    cases v <;> simp [Cond.value, e1, e2] at hx ⊢
    exact hx
theorem own_fldR {s : State} {args : Array Value} {t u : Term} {w z : Addr} {C n d : String} (ev : t.eval args s none [] s = some (.ref w)) (eu : u.eval args s none [] s = some (.ref z)) (hx : (Jvm.Cond.eq (Term.field t C n d) u).value args s none s [] = some true) : Fld s s.heap w C n d (.ref z) := by
  have e1 := fld_at (C := C) (n := n) (dd := d) ev
  refine Fld.start ?_
  cases hv : s.fieldOf? w C n d with
  | none => rw [hv] at e1; simp [Cond.value, e1] at hx
  | some v =>
    rw [hv] at e1
    cases v <;> simp [Cond.value, e1, eu] at hx ⊢
    exact hx
theorem own_nsR {Z : State} {a0 : Array Value} {O K : String} {n : Nat} (w : (Jvm.Cond.noSuperclass O).before a0 Z = true) (wi : (Jvm.Cond.instantiable K n).before a0 Z = true) (hn : O ≠ K) : NS Z O K := by
  obtain ⟨c, k, h1, h2, h3, -⟩ := Cond.noSuperclass_spec w
  obtain ⟨t, kt, g1, -⟩ := Cond.instantiable_spec wi
  exact ⟨c, t, h1, g1, fun fuel => by cases fuel <;> simp [Vm.isSubclassAux, ids_ne h1 g1 hn, h2, h3]⟩
theorem own_nsN {Z : State} {a0 : Array Value} {C S K : String} {n : Nat} (w : (Jvm.Cond.superclass C S).before a0 Z = true) (wi : (Jvm.Cond.instantiable K n).before a0 Z = true) (nn : NS Z C K) (hn : C ≠ K) : ∃ c t, Z.vm.findClass C = some c ∧ Z.vm.findClass K = some t ∧ Z.vm.assignable c t = false := by
  obtain ⟨c, t, h0, g0, n3⟩ := nn
  obtain ⟨_, k, _, -, h2, -, -, h5, -⟩ := Cond.superclass_spec h0 w
  obtain ⟨t', kt, g1, g2, g3, g4, -⟩ := Cond.instantiable_spec wi
  cases g0.symm.trans g1
  have g5 : kt.isInterface = false := (Bool.or_eq_false_iff.mp g4).1
  exact ⟨c, t, h0, g0, by show Z.vm.assignableAux (255 + 1) c t = false; simp [Vm.assignableAux, ids_ne h0 g0 hn, h2, g2, h5, g3, g5, Vm.isSubclass, n3]⟩
theorem own_elem {s : State} {args : Array Value} {t u : Term} {a z : Addr} {cl : Cell} {j : Int32} (ev : t.eval args s none [] s = some (.ref a)) (eu : u.eval args s none [] s = some (.ref z)) (ha : s.arrayAt? a = some cl) (hn : ¬ j < 0) (hx : (Jvm.Cond.eq (Term.elem t (Term.int j)) u).value args s none s [] = some true) : cl.slots[j.toNatClampNeg]? = some (.ref z) := by
  have e1 := elem_f ev (Term.int_eval j) ha hn
  cases hv : cl.slots[j.toNatClampNeg]? with
  | none => rw [hv] at e1; simp [Cond.value, e1] at hx
  | some v =>
    rw [hv] at e1
    cases v <;> simp [Cond.value, e1, eu] at hx ⊢
    exact hx
theorem own_fldN {s : State} {args : Array Value} {t : Term} {w : Addr} {C n d : String} (ev : t.eval args s none [] s = some (.ref w)) (hx : (Jvm.Cond.eq (Term.field t C n d) Term.null).value args s none s [] = some true) : Fld s s.heap w C n d .null := by
  have e1 := fld_at (C := C) (n := n) (dd := d) ev
  have e2 := null_v hx
  rw [e1] at e2
  exact Fld.start e2
theorem refCat {v : Value} (h : v.isRef = true) : v.category = 1 := by rcases ref_cases h with rfl | ⟨a, rfl⟩ <;> rfl
theorem refNar {v : Value} {C : String} (h : v.isRef = true) : narrow (.object C) v = v := by rcases ref_cases h with rfl | ⟨a, rfl⟩ <;> rfl
theorem refFit {v : Value} {C : String} (h : v.isRef = true) : fits (.object C) v = true := by rcases ref_cases h with rfl | ⟨a, rfl⟩ <;> rfl
theorem own_c255 (x : Int32) : ¬ nar .char ((x &&& (255 : Int32)).toUInt32.toUInt16.toUInt32.toInt32) < 0 ∧ ¬ (255 : Int32) < nar .char ((x &&& (255 : Int32)).toUInt32.toUInt16.toUInt32.toInt32) := by
  have h1 := c_and x 255 (by decide)
  have h2 := c_i2c (x &&& 255)
  have h3 := c_i2c ((x &&& (255 : Int32)).toUInt32.toUInt16.toUInt32.toInt32)
  show ¬ ((x &&& (255 : Int32)).toUInt32.toUInt16.toUInt32.toInt32).toUInt32.toUInt16.toUInt32.toInt32 < 0 ∧ ¬ (255 : Int32) < ((x &&& (255 : Int32)).toUInt32.toUInt16.toUInt32.toInt32).toUInt32.toUInt16.toUInt32.toInt32
  simp only [Int32.lt_iff_toInt_lt, show (255 : Int32).toInt = 255 from by decide, show (0 : Int32).toInt = 0 from by decide] at *
  omega
theorem own_up (cs : List Int32) (h : ∀ c ∈ cs, ¬ c < 0 ∧ ¬ (255 : Int32) < c) : ∀ c ∈ cs, ¬ c < 0 ∧ ¬ (65535 : Int32) < c := fun c hc => ⟨(h c hc).1, fun q => (h c hc).2 (by
  simp only [Int32.lt_iff_toInt_lt, show (255 : Int32).toInt = 255 from by decide, show (65535 : Int32).toInt = 65535 from by decide] at *; omega)⟩
theorem own_p1 {a : Int32} (ha : ¬ a < 0 ∧ ¬ (255 : Int32) < a) : ∀ c ∈ ([a] : List Int32), ¬ c < 0 ∧ ¬ (255 : Int32) < c := fun c hc => by
  cases List.mem_singleton.mp hc; exact ha
theorem own_p2 {a b : Int32} {L : List Int32} (ha : ¬ a < 0 ∧ ¬ (255 : Int32) < a) (hL : ∀ c ∈ b :: L, ¬ c < 0 ∧ ¬ (255 : Int32) < c) : ∀ c ∈ a :: b :: L, ¬ c < 0 ∧ ¬ (255 : Int32) < c := fun c hc => by
  rcases List.mem_cons.mp hc with q | q
  · cases q; exact ha
  · exact hL c q
theorem own_words {Z : State} {a0 : Array Value} (hw : ∀ d ∈ tables_1, d.before a0 Z = true) : ∀ d ∈ StrChars.Road.words, d.before a0 Z = true := fun d hd => hw d ((by decide +kernel : ∀ d ∈ StrChars.Road.words, d ∈ tables_1) d hd)
section OwnLit
variable {p : Program} {l : Launch} {e : Env} {R : Room} {s : State} {m : MethodId} {args : Array Value} {below : List Frame} {meth : Method} {c : Code} {T : State} {locs : List Loc} {cells slots : Nat} {Z : State} {a0 : Array Value} {h h' : Heap} {vm0 vm1 : Vm} {own : String} {i N N' : Nat} {A : List String} {o : Addr} {sl : Nat} {v : Value} {ws : List Addr}
/-- no place of the start was written: the list of places is empty -/
theorem own_noL (X : Stand p l e R s m args below meth c T locs cells slots) (hold : ∀ (b : Addr) (cl : Cell), s.heap[b]? = some cl → T.heap[b]? = some cl) : Stand p l e R s m args below meth c T [] cells slots :=
  ⟨X.admits, X.cas, X.clock, X.frames, X.room, X.hears, X.method, X.code, X.here, X.tail, X.warmed, X.limits, X.bytes,
    ⟨X.same.1, X.same.2.1, X.same.2.2.1, X.same.2.2.2.1, X.same.2.2.2.2.1, fun a cc hc => ⟨cc, hold a cc hc, rfl, rfl, fun _ _ => rfl⟩⟩⟩
/-- the literal "" at the entry i of own: not loaded yet (only texts of A and "" may have come), or loaded: a String of no bytes, below N -/
def LS (Z : State) (own : String) (i : Nat) (A : List String) (vm : Vm) (h : Heap) (N : Nat) : Prop :=
  N ≤ h.size ∧ ∃ Ts, IB Z vm Ts ∧ (∀ t ∈ Ts, t = "" ∨ t ∈ A) ∧ ("" ∉ Ts ∨ ∃ (a b : Addr) (k : ClassId), Lit (Z.setVm vm) own i a ∧ a < N ∧ b < N ∧ Exa Z h a "java/lang/String" ∧ Fld Z h a "java/lang/String" "coder" "B" (.int 0) ∧ Fld Z h a "java/lang/String" "value" "[B" (.ref b) ∧ Arv Z h b k .byte 0 [] (.int 0))
theorem LS.start (hZ : IB Z vm0 []) : LS Z own i A vm0 h 0 := ⟨Nat.zero_le _, [], hZ, fun _ q => (nomatch q), Or.inl (fun q => nomatch q)⟩
theorem LS.ext (L : LS Z own i A vm0 h N) (E : Ext h h') : LS Z own i A vm0 h' N := by
  obtain ⟨q, Ts, I, ha, r⟩ := L
  refine ⟨Nat.le_trans q E.1, Ts, I, ha, r.imp id ?_⟩
  rintro ⟨a, b, k, r1, r2, r3, r4, r5, r6, r7⟩
  exact ⟨a, b, k, r1, r2, r3, r4.ext E, r5.ext E, r6.ext E, r7.ext E⟩
theorem LS.keep (L : LS Z own i A vm0 h N) (K : Keep h h' ws) (w : ∀ x ∈ ws, N ≤ x) : LS Z own i A vm0 h' N := by
  obtain ⟨q, Ts, I, ha, r⟩ := L
  refine ⟨Nat.le_trans q K.1, Ts, I, ha, r.imp id ?_⟩
  rintro ⟨a, b, k, r1, r2, r3, r4, r5, r6, r7⟩
  have na : a ∉ ws := fun z => absurd r2 (Nat.not_lt.mpr (w a z))
  have nb : b ∉ ws := fun z => absurd r3 (Nat.not_lt.mpr (w b z))
  exact ⟨a, b, k, r1, r2, r3, r4.keep K, r5.keep K na, r6.keep K na, r7.keep K nb⟩
theorem LS.wr (L : LS Z own i A vm0 h N) (W : Wr h h' o sl v) (q : N ≤ o) : LS Z own i A vm0 h' N := L.keep (Keep.of_wr W) (allS q all0)
theorem LS.keepC {C : String} {n : Nat} (L : LS Z own i A vm0 h N) (K : Keep h h' [o]) (E : Exa Z h o C) (hC : C ≠ "java/lang/String") (wi : (Jvm.Cond.instantiable C n).before a0 Z = true) : LS Z own i A vm0 h' N := by
  obtain ⟨q, Ts, I, ha, r⟩ := L
  refine ⟨Nat.le_trans q K.1, Ts, I, ha, r.imp id ?_⟩
  rintro ⟨a, b, k, r1, r2, r3, r4, r5, r6, r7⟩
  have na : a ∉ [o] := ninS (Ne.symm (E.ne r4 hC)) nin0
  have nb : b ∉ [o] := ninS (Ne.symm (E.neArv r7 wi)) nin0
  exact ⟨a, b, k, r1, r2, r3, r4.keep K, r5.keep K na, r6.keep K na, r7.keep K nb⟩
theorem own_fldU {a : Addr} {C n d : String} {u w : Value} (F : Fld Z h a C n d u) (G : Fld Z h a C n d w) : u = w := by
  obtain ⟨c1, f1, k1, i1, g1, a1, a2, -, -, -, -, a7⟩ := F
  obtain ⟨c2, f2, k2, i2, g2, b1, b2, -, -, -, -, b7⟩ := G
  cases a1.symm.trans b1
  cases a2.symm.trans b2
  exact Option.some.inj (a7.symm.trans b7)
theorem LS.keepX {a b : Addr} (L : LS Z own i A vm0 h N) (La : Lit (s.setVm vm0) own i a) (Va : Fld Z h a "java/lang/String" "value" "[B" (.ref b)) (K : Keep h h' ws) (na : a ∉ ws) (nb : b ∉ ws) : LS Z own i A vm0 h' N := by
  obtain ⟨q, Ts, I, ha, r⟩ := L
  refine ⟨Nat.le_trans q K.1, Ts, I, ha, r.imp id ?_⟩
  rintro ⟨a', b', k, r1, r2, r3, r4, r5, r6, r7⟩
  have e1 : (Z.setVm vm0).resolvedAt? own i = some (.string a') := r1
  have e2 : (Z.setVm vm0).resolvedAt? own i = some (.string a) := La
  obtain rfl : a' = a := by rw [e1] at e2; cases e2; rfl
  obtain rfl : b' = b := Value.ref.inj (own_fldU r6 Va)
  exact ⟨a', b', k, r1, r2, r3, r4.keep K, r5.keep K na, r6.keep K na, r7.keep K nb⟩
theorem LS.up (L : LS Z own i A vm0 h N) (q : N ≤ N') (q' : N' ≤ h.size) : LS Z own i A vm0 h N' := by
  obtain ⟨_, Ts, I, ha, r⟩ := L
  refine ⟨q', Ts, I, ha, r.imp id ?_⟩
  rintro ⟨a, b, k, r1, r2, r3, r4⟩
  exact ⟨a, b, k, r1, Nat.lt_of_lt_of_le r2 q, Nat.lt_of_lt_of_le r3 q, r4⟩
theorem IB.same {Ts : List String} (I : IB Z vm0 Ts) (q : vm1.interned = vm0.interned) : IB Z vm1 Ts := by
  obtain ⟨more, h1, h2⟩ := I
  exact ⟨more, q.trans h1, h2⟩
theorem LS.warm (L : LS Z own i A vm0 h N) (hW : (s.setVm vm0).WarmedH vm1) : LS Z own i A vm1 h N := by
  obtain ⟨q, Ts, I, ha, r⟩ := L
  refine ⟨q, Ts, IB.same I hW.interned_eq, ha, r.imp id ?_⟩
  rintro ⟨a, b, k, r1, r4⟩
  exact ⟨a, b, k, Lit.stays (s := s) (vm0 := vm0) r1 hW.wide, r4⟩
/-- 'ldc' of the literal "", its fields known, whether it is the first load or not -/
theorem own_ldcE (X : Stand p l e R (s.setVm vm0) m args below meth c T locs cells slots) (hx : p.tables.exec = Jvm.exec) (hZ : Z.Warmed39 (s.setVm vm0).vm) (hown : (s.setVm vm0).vm.findClass own = some m.cls) (w : (Jvm.Cond.stringLink own i "").before a0 Z = true) (wS : ∀ a ∈ Bundle.stringAtoms, a.before a0 Z = true)
    (eT : T.heap = h) {k0 : Nat} (hS : s.Since vm0 k0) (hk : k0 ≤ h.size) (hold : ∀ (b : Addr) (cl : Cell), s.heap[b]? = some cl → T.heap[b]? = some cl) (hkeep : ∀ (b : Addr) (cl : Cell), Z.heap[b]? = some cl → s.heap[b]? = some cl) (LL : LS Z own i A vm0 h N) (hh : Jvm.Lit.constHeld Z own i) (hcw : Jvm.Lit.compactW.before a0 Z = true)
    {g : JFrame} (hg : g.method = m) (hd : decode c.code g.pc = .ok (.ldc i, 2)) (hc : cells + 2 ≤ R.cells) (hl' : slots + 4 ≤ R.slots) :
    ∃ (a : Addr) (T' : State) (h' : Heap) (k1 : Nat) (b : Addr) (k : ClassId), Stand p l e R (s.setVm T'.vm) m args below meth c T' [] (cells + 2) (slots + 4) ∧ T'.heap = h' ∧ Ext h h' ∧ s.Since T'.vm k1 ∧ k1 ≤ h'.size ∧ Z.Warmed39 (s.setVm T'.vm).vm ∧ (s.setVm T'.vm).vm.findClass own = some m.cls ∧
      Exa Z h' a "java/lang/String" ∧ Fld Z h' a "java/lang/String" "coder" "B" (.int 0) ∧ Fld Z h' a "java/lang/String" "value" "[B" (.ref b) ∧ Arv Z h' b k .byte 0 [] (.int 0) ∧ a < h'.size ∧ b < h'.size ∧ LS Z own i A T'.vm h' h'.size ∧ Lit (s.setVm T'.vm) own i a ∧
      ∀ target, Steps p.tables e below (T'.setTop { g with pc := g.pc + 2, stack := .ref a :: g.stack }) target → Steps p.tables e below (T.setTop g) target := by
  have X0 : Stand p l e R (s.setVm vm0) m args below meth c T [] cells slots := own_noL X hold
  obtain ⟨q0, Ts, I, ha, r⟩ := LL
  by_cases hnot : "" ∈ Ts
  · rcases r with r | ⟨a, b, k, r1, r2, r3, r4, r5, r6, r7⟩
    · exact absurd hnot r
    · have hW := X0.warmed
      refine ⟨a, T, h, k0, b, k, ?_, eT, ⟨Nat.le_refl _, fun _ _ q => q⟩, ?_, hk, State.Warmed39.trans (t := s.setVm vm0) hZ hW.wide, ?_, r4, r5, r6, r7, Nat.lt_of_lt_of_le r2 q0, Nat.lt_of_lt_of_le r3 q0, ⟨Nat.le_refl _, Ts, IB.same I hW.interned_eq, ha, Or.inr ⟨a, b, k, Lit.stays (s := s) (vm0 := vm0) r1 hW.wide, Nat.lt_of_lt_of_le r2 q0, Nat.lt_of_lt_of_le r3 q0, r4, r5, r6, r7⟩⟩, Lit.stays (s := s) (vm0 := vm0) r1 hW.wide, ldcAgain X hx hZ hown w r1 hg hd⟩
      · have := (X0.retabled hW.wide).more (cells' := cells + 2) (slots' := slots + 4) (Nat.le_add_right _ _) (Nat.le_add_right _ _)
        exact this
      · exact hS.trans (hW.since k0) (Nat.le_refl _)
      · show T.vm.findClass own = _
        rw [hW.alike.findClass]; exact hown
  · obtain ⟨a, T', h', k1, b, k, r1, r2, r3, r4, r5, r6, r7, r8, r9, r10, r11, r12, r13, r14, r15, r16⟩ := ldcSVL X0 hx hZ hown w wS eT hS hk (Fr.nil _) hkeep I hnot hh hcw (vs := []) (z := 0) ⟨fun _ q => by simp at q, rfl⟩ (by decide) (by decide) hg hd (n := 0) (by decide) (by decide) hc hl'
    exact ⟨a, T', h', k1, b, k, r1, r2, r3, r4, r5, r6, r7, r8, r9, r10, r11, r12, r13, ⟨Nat.le_refl _, _, r14, fun t q => (List.mem_cons.mp q).elim Or.inl (ha t), Or.inr ⟨a, b, k, r15, r12, r13, r8, r9, r10, r11⟩⟩, r15, r16⟩
end OwnLit
section OwnBack
variable {p : Program} {l : Launch} {e : Env} {R : Room} {s : State} {args : Array Value} {below : List Frame} {Z : State} {a0 : Array Value} {h : Heap}
/-- a callee that may intern, whose contract speaks of the tables too (Pv at its start, Q at its end) -/
theorem own_backV {y : MethodName} {bytes : ByteArray} {maxL : Nat} {ret : Option FieldType} {rm : Room} {len W : Nat} {as' : Array Value} {Pv : Vm → Prop} {Q : Option Value → Heap → Vm → List Loc → Prop}
    (hM : MetFree l y (head1 [Jvm.Cond.code y bytes maxL ret] rm) (fun a U => a = as' ∧ (Z.Warmed39 U.vm ∧ Pv U.vm) ∧ U.heap = h) (fun _ _ _ _ _ => True) (fun _ U o U' => ∃ v L, o = .returned v ∧ Q v U'.heap U'.vm L ∧ ReturnedEndW U o U' L rm.cells rm.slots))
    (hZ : Z.Warmed39 s.vm) (hv : ∀ vm', s.WarmedH vm' → Pv vm') (wc : (Jvm.Cond.code y bytes maxL ret).before a0 Z = true) (wz : (Jvm.Cond.initialized y.cls).before a0 Z = true) (hf : rm.frames + 1 ≤ R.frames) (hl : W + (maxL + 11) + rm.locals ≤ R.locals) :
    BackS l R p e below s args y len W (fun A a => a = as' ∧ A.U.heap = h ∧ A.cells + rm.cells ≤ R.cells ∧ A.slots + rm.slots ≤ R.slots)
      (fun A _ v B => ∃ L, Q v B.U.heap B.U.vm L ∧ B.locs = A.locs ++ L ∧ B.cells = A.cells + rm.cells ∧ B.slots = A.slots + rm.slots) := by
  refine BackS.of_freeW (bytes := bytes) (maxL := maxL) (ret := ret) (E := fun _ _ o t L k n => k = rm.cells ∧ n = rm.slots ∧ ∃ v, o = .returned v ∧ Q v t.heap t.vm L) hM hf hl ?_ ?_ (fun _ _ _ _ _ _ _ _ _ => trivial) ?_ ?_
  · intro m meth c A a Y hp
    have hU : Z.Warmed39 A.U.vm := wtrans hZ Y.warmed
    refine ⟨?_, mv hU wc, mv hU wz, hp.2.2.1, hp.2.2.2⟩
    show (Jvm.Cond.and _ .tt).before a A.U = true
    rw [Cond.before_and, mv hU wc]; rfl
  · exact fun m meth c A a g mk Y hp => ⟨hp.1, ⟨wtrans hZ Y.warmed, hv _ Y.warmed⟩, hp.2.1⟩
  · exact fun _ _ _ _ ⟨v, L, h1, h2, h3⟩ => ⟨L, _, _, h3, rfl, rfl, v, h1, h2⟩
  · intro m meth c A a g mk v t L k n Y hp _ _ hE
    obtain ⟨e1, e2, v', e3, e4⟩ := hE
    cases e3; subst e1 e2
    exact ⟨L, e4, rfl, rfl, rfl⟩
end OwnBack
theorem own_sat {Z : State} {a0 : Array Value} (hw : ∀ d ∈ tables_1, d.before a0 Z = true) : ∀ d ∈ Bundle.stringAtoms, d.before a0 Z = true := fun d hd => hw d ((by decide +kernel : ∀ d ∈ Bundle.stringAtoms, d ∈ tables_1) d hd)
theorem own_5 (y : Int32) : ((y &&& (2147483647 : Int32)) % (5 : Int32)) = (0 : Int32) ∨ ((y &&& (2147483647 : Int32)) % (5 : Int32)) = (1 : Int32) ∨ ((y &&& (2147483647 : Int32)) % (5 : Int32)) = (2 : Int32) ∨ ((y &&& (2147483647 : Int32)) % (5 : Int32)) = (3 : Int32) ∨ ((y &&& (2147483647 : Int32)) % (5 : Int32)) = (4 : Int32) := by
  have h1 := (c_mask y (2147483647 : Int32) 31 (by decide) (by decide)); have h2 := (c_irem (y &&& (2147483647 : Int32)) (5 : Int32) 5 (by decide)).1
  simp only [← Int32.toInt_inj, show (0 : Int32).toInt = 0 from by decide, show (1 : Int32).toInt = 1 from by decide, show (2 : Int32).toInt = 2 from by decide, show (3 : Int32).toInt = 3 from by decide, show (4 : Int32).toInt = 4 from by decide]
  omega
theorem own_narC {z : Int32} (hz : ¬ z < 0 ∧ ¬ (255 : Int32) < z) : nar .char z = z := by
  have h3 := c_i2c z
  show z.toUInt32.toUInt16.toUInt32.toInt32 = z
  simp only [Int32.lt_iff_toInt_lt, ← Int32.toInt_inj, show (255 : Int32).toInt = 255 from by decide, show (0 : Int32).toInt = 0 from by decide] at *
  omega
theorem own_cb {z : Int32} (hz : ¬ z < 0 ∧ ¬ (255 : Int32) < z) : ¬ nar .char z < 0 ∧ ¬ (255 : Int32) < nar .char z := by rw [own_narC hz]; exact hz
theorem own_b46 {z : Int32} (hz : ¬ z < 0 ∧ ¬ (255 : Int32) < z) : ((nar .char z).toInt8.toInt32) = (46 : Int32) ↔ z = (46 : Int32) := by
  rw [own_narC hz]
  have h3 := c_i2b z
  simp only [Int32.lt_iff_toInt_lt, ← Int32.toInt_inj, show (255 : Int32).toInt = 255 from by decide, show (0 : Int32).toInt = 0 from by decide, show (46 : Int32).toInt = 46 from by decide] at *
  omega
theorem d1_0 : decode method_2_code 0 = .ok (.iload_n 0, 1) := by decide +kernel
theorem d1_1 : decode method_2_code 1 = .ok (.iconst 3, 1) := by decide +kernel
theorem d1_2 : decode method_2_code 2 = .ok (.iand, 1) := by decide +kernel
theorem d1_3 : decode method_2_code 3 = .ok (.ifCond .ne 6, 3) := by decide +kernel
theorem d1_6 : decode method_2_code 6 = .ok (.bipush 46, 2) := by decide +kernel
theorem d1_8 : decode method_2_code 8 = .ok (.ireturn, 1) := by decide +kernel
theorem d1_9 : decode method_2_code 9 = .ok (.iload_n 0, 1) := by decide +kernel
theorem d1_10 : decode method_2_code 10 = .ok (.iconst 2, 1) := by decide +kernel
theorem d1_11 : decode method_2_code 11 = .ok (.iushr, 1) := by decide +kernel
theorem d1_12 : decode method_2_code 12 = .ok (.sipush 255, 3) := by decide +kernel
theorem d1_15 : decode method_2_code 15 = .ok (.iand, 1) := by decide +kernel
theorem d1_16 : decode method_2_code 16 = .ok (.i2c, 1) := by decide +kernel
theorem d1_17 : decode method_2_code 17 = .ok (.ireturn, 1) := by decide +kernel
theorem pn_com_example_wiring_from_blueprints_wiringfromblueprints_internal_StaticFieldCheckedPinLaw : plainName "com/example/wiring_from_blueprints/wiringfromblueprints/internal/StaticFieldCheckedPinLaw" = true := by first | (simp [plainName, overriddenIn]; done) | decide +kernel
theorem ef_ch (m : MethodId) (q : Int32) : entryFrame m #[(.int q)] 1 = mkF m 0 #[.val (.int q)] [] := by first | (simp [entryFrame, mkF, argsToLocals, Value.category]; done) | rfl
def Q_ch (Z : State) (zCS : Int32) (q : Int32) (h0 : Heap) (n0 : Nat) (vv_ : Option Value) (hh_ : Heap) (LL_ : List Loc) : Prop := ∃ (z : Int32), vv_ = some (.int z) ∧ (Fr n0 LL_) ∧ (hh_ = h0) ∧ (¬ z < 0 ∧ ¬ (255 : Int32) < z)
set_option maxRecDepth 65536 in
set_option maxHeartbeats 40000000 in
theorem ch (l : Launch) (Z : State) (a0 : Array Value) (hw : ∀ d ∈ tables_1, d.before a0 Z = true) (ws : List Jvm.Cond) (zCS : Int32) (q : Int32) (h0 : Heap) (n0 : Nat) (O0 : Old Z n0 h0) (S_CS : Sta Z Z.heap "java/lang/String" "COMPACT_STRINGS" "Z" (.int zCS)) (hCS : ¬ (zCS = (0 : Int32))) (hcH : Jvm.Lit.constHeld Z "java/lang/String" 7) (hcW : Jvm.Lit.compactW.before a0 Z = true) :
    MetFree l (⟨"com/example/wiring_from_blueprints/wiringfromblueprints/internal/StaticFieldCheckedPinLaw", "ch", "(I)C"⟩ : MethodName) (head1 (Jvm.Cond.code (⟨"com/example/wiring_from_blueprints/wiringfromblueprints/internal/StaticFieldCheckedPinLaw", "ch", "(I)C"⟩ : MethodName) method_2_code 1 (some .char) :: ws) ({ frames := 0, cells := 0, slots := 0, locals := 0 } : Room)) (fun aa_ U_ => aa_ = #[(.int q)] ∧ Z.Warmed39 U_.vm ∧ U_.heap = h0) (fun _ _ _ _ _ => True) (fun _ U_ oo_ V_ => ∃ vv_ LL_, oo_ = .returned vv_ ∧ Q_ch Z zCS q h0 n0 vv_ V_.heap LL_ ∧ FrameEnd U_ oo_ V_ LL_ ({ frames := 0, cells := 0, slots := 0, locals := 0 } : Room).cells ({ frames := 0, cells := 0, slots := 0, locals := 0 } : Room).slots) := by
  refine MetFree.of_bodySF (plainFor_of_name pn_com_example_wiring_from_blueprints_wiringfromblueprints_internal_StaticFieldCheckedPinLaw) hisR ?_
  intro p e s m args below meth c s₁ Bd hml0 hP hK
  obtain ⟨rfl, hZ, hh⟩ := hP
  have hx := Bd.exec
  have hby := Bd.bytes
  have hml : c.maxLocals = 1 := hml0
  have hown : s.vm.findClass "com/example/wiring_from_blueprints/wiringfromblueprints/internal/StaticFieldCheckedPinLaw" = some m.cls := findClass_of_methodNamed Bd.named
  have hnm := (name_of_methodNamed Bd.named Bd.method).1
  have X0 : Stand p l e ({ frames := 0, cells := 0, slots := 0, locals := 0 } : Room) s m #[(.int q)] below meth c s₁ [] 0 0 := Stand.of_body Bd
  have e0 : s₁.heap = h0 := by rw [← hh, Bd.state]; rfl
  have N0 := Fr.nil n0
  have Z0 : n0 ≤ h0.size := O0.1 ▸ O0.2.1
  have hk0 := Nat.zero_le h0.size
  have K0 : Keep h0 h0 [] := Keep.refl _ _
  have R0 : ∀ t, Steps p.tables e below (s₁.setTop (mkF m 0 #[.val (.int q)] [])) t → Steps p.tables e below (s₁.setTop (entryFrame m #[(.int q)] 1)) t := fun t k => castTop (ef_ch m q) k
  have R1 : ∀ t, Steps p.tables e below (s₁.setTop (mkF m 3 #[.val (.int q)] [(.int (q &&& (3 : Int32)))])) t → Steps p.tables e below (s₁.setTop (entryFrame m #[(.int q)] 1)) t := by
    intro t k
    refine R0 t ?_
    show Steps p.tables e below (s₁.setTop (mkF m 0 #[.val (.int q)] [])) t
    refine XS.iloadN X0.here hx rfl (hb hby d1_0) rfl ?_
    show Steps p.tables e below (s₁.setTop (mkF m 1 #[.val (.int q)] [(.int q)])) t
    refine XS.iconst X0.here hx rfl (hb hby d1_1) ?_
    show Steps p.tables e below (s₁.setTop (mkF m 2 #[.val (.int q)] [(.int (3 : Int32)), (.int q)])) t
    refine XS.iand X0.here hx rfl (hb hby d1_2) rfl ?_
    exact k
  by_cases hd : (q &&& (3 : Int32)) = (0 : Int32)
  · have R2 : ∀ t, Steps p.tables e below (s₁.setTop (mkF m 8 #[.val (.int q)] [(.int (46 : Int32))])) t → Steps p.tables e below (s₁.setTop (entryFrame m #[(.int q)] 1)) t := by
      intro t k
      refine R1 t ?_
      show Steps p.tables e below (s₁.setTop (mkF m 3 #[.val (.int q)] [(.int (q &&& (3 : Int32)))])) t
      refine XS.ifNo X0.here hx rfl (hb hby d1_3) rfl ((if0 _ _).trans (teq (hd : (q &&& (3 : Int32)) = (0 : Int32))).2) ?_
      show Steps p.tables e below (s₁.setTop (mkF m 6 #[.val (.int q)] [])) t
      refine XS.bipush X0.here hx rfl (hb hby d1_6) ?_
      exact k
    obtain ⟨fs, hr, hrun, hended, hW, hsame⟩ := X0.leave (v := some (.int (46 : Int32))) (fun h => by rw [Bd.returns] at h; cases h)
    refine ⟨_, _, R2 _ ?_, hrun, hended, _, _, rfl, ?_, ⟨_, rfl⟩, hW, hsame.mono (by decide) (by decide)⟩
    · show Steps p.tables e below (s₁.setTop (mkF m 8 #[.val (.int q)] [(.int (46 : Int32))])) _
      exact retN X0 hx (t := .char) Bd.returns (by simp) (hb hby d1_8) hr
    · show Q_ch Z zCS q h0 n0 _ s₁.heap _
      rw [e0]
      exact ⟨(46 : Int32), rfl, N0, rfl, by decide⟩
  · have R3 : ∀ t, Steps p.tables e below (s₁.setTop (mkF m 17 #[.val (.int q)] [(.int ((((q.toUInt32 >>> ((2 : Int32) &&& 31).toUInt32).toInt32) &&& (255 : Int32)).toUInt32.toUInt16.toUInt32.toInt32))])) t → Steps p.tables e below (s₁.setTop (entryFrame m #[(.int q)] 1)) t := by
      intro t k
      refine R1 t ?_
      show Steps p.tables e below (s₁.setTop (mkF m 3 #[.val (.int q)] [(.int (q &&& (3 : Int32)))])) t
      refine XS.ifYes X0.here hx rfl (pc0 := 3) (pc' := 9) rfl (hb hby d1_3) rfl ((if0 _ _).trans (feq (hd : ¬ ((q &&& (3 : Int32)) = (0 : Int32)))).2) (by decide) (by decide) ?_
      show Steps p.tables e below (s₁.setTop (mkF m 9 #[.val (.int q)] [])) t
      refine XS.iloadN X0.here hx rfl (hb hby d1_9) rfl ?_
      show Steps p.tables e below (s₁.setTop (mkF m 10 #[.val (.int q)] [(.int q)])) t
      refine XS.iconst X0.here hx rfl (hb hby d1_10) ?_
      show Steps p.tables e below (s₁.setTop (mkF m 11 #[.val (.int q)] [(.int (2 : Int32)), (.int q)])) t
      refine XS.iushr X0.here hx rfl (hb hby d1_11) rfl ?_
      show Steps p.tables e below (s₁.setTop (mkF m 12 #[.val (.int q)] [(.int ((q.toUInt32 >>> ((2 : Int32) &&& 31).toUInt32).toInt32))])) t
      refine XS.sipush X0.here hx rfl (hb hby d1_12) ?_
      show Steps p.tables e below (s₁.setTop (mkF m 15 #[.val (.int q)] [(.int (255 : Int32)), (.int ((q.toUInt32 >>> ((2 : Int32) &&& 31).toUInt32).toInt32))])) t
      refine XS.iand X0.here hx rfl (hb hby d1_15) rfl ?_
      show Steps p.tables e below (s₁.setTop (mkF m 16 #[.val (.int q)] [(.int (((q.toUInt32 >>> ((2 : Int32) &&& 31).toUInt32).toInt32) &&& (255 : Int32)))])) t
      refine XS.i2c X0.here hx rfl (hb hby d1_16) rfl ?_
      exact k
    obtain ⟨fs, hr, hrun, hended, hW, hsame⟩ := X0.leave (v := some (.int (nar .char ((((q.toUInt32 >>> ((2 : Int32) &&& 31).toUInt32).toInt32) &&& (255 : Int32)).toUInt32.toUInt16.toUInt32.toInt32)))) (fun h => by rw [Bd.returns] at h; cases h)
    refine ⟨_, _, R3 _ ?_, hrun, hended, _, _, rfl, ?_, ⟨_, rfl⟩, hW, hsame.mono (by decide) (by decide)⟩
    · show Steps p.tables e below (s₁.setTop (mkF m 17 #[.val (.int q)] [(.int ((((q.toUInt32 >>> ((2 : Int32) &&& 31).toUInt32).toInt32) &&& (255 : Int32)).toUInt32.toUInt16.toUInt32.toInt32))])) _
      exact retN X0 hx (t := .char) Bd.returns (by simp) (hb hby d1_17) hr
    · show Q_ch Z zCS q h0 n0 _ s₁.heap _
      rw [e0]
      exact ⟨(nar .char ((((q.toUInt32 >>> ((2 : Int32) &&& 31).toUInt32).toInt32) &&& (255 : Int32)).toUInt32.toUInt16.toUInt32.toInt32)), rfl, N0, rfl, own_c255 _⟩
theorem d4_0 : decode jdk_42_method_149_code 0 = .ok (.aload_n 0, 1) := by decide +kernel
theorem d4_1 : decode jdk_42_method_149_code 1 = .ok (.invokespecial 1, 3) := by decide +kernel
theorem d4_4 : decode jdk_42_method_149_code 4 = .ok (.iload_n 3, 1) := by decide +kernel
theorem d4_5 : decode jdk_42_method_149_code 5 = .ok (.ifCond .ne 22, 3) := by decide +kernel
theorem d4_8 : decode jdk_42_method_149_code 8 = .ok (.aload_n 0, 1) := by decide +kernel
theorem d4_9 : decode jdk_42_method_149_code 9 = .ok (.ldc 7, 2) := by decide +kernel
theorem d4_11 : decode jdk_42_method_149_code 11 = .ok (.getfield 9, 3) := by decide +kernel
theorem d4_14 : decode jdk_42_method_149_code 14 = .ok (.putfield 9, 3) := by decide +kernel
theorem d4_17 : decode jdk_42_method_149_code 17 = .ok (.aload_n 0, 1) := by decide +kernel
theorem d4_18 : decode jdk_42_method_149_code 18 = .ok (.ldc 7, 2) := by decide +kernel
theorem d4_20 : decode jdk_42_method_149_code 20 = .ok (.getfield 15, 3) := by decide +kernel
theorem d4_23 : decode jdk_42_method_149_code 23 = .ok (.putfield 15, 3) := by decide +kernel
theorem d4_26 : decode jdk_42_method_149_code 26 = .ok (.return_, 1) := by decide +kernel
theorem pn_java_lang_String : plainName "java/lang/String" = true := by first | (simp [plainName, overriddenIn]; done) | decide +kernel
theorem ef_sinit2 (m : MethodId) (a : Addr) (ca : Addr) (u1 : Value) : entryFrame m #[(.ref a), (.ref ca), (.int (0 : Int32)), (.int (0 : Int32)), .null] 6 = mkF m 0 #[.val (.ref a), .val (.ref ca), .val (.int (0 : Int32)), .val (.int (0 : Int32)), .val .null, .unset] [] := by first | (simp [entryFrame, mkF, argsToLocals, Value.category]; done) | rfl
def Q_sinit2 (Z : State) (zCS : Int32) (a : Addr) (ca : Addr) (u1 : Value) (h0 : Heap) (n0 : Nat) (vv_ : Option Value) (hh_ : Heap) (vm_ : Vm) (LL_ : List Loc) : Prop := ∃ (b : Addr) (kb : ClassId), vv_ = none ∧ (Fr n0 LL_) ∧ (Keep h0 hh_ [a]) ∧ (Exa Z hh_ a "java/lang/String") ∧ (Fld Z hh_ a "java/lang/String" "coder" "B" (.int (0 : Int32))) ∧ (Fld Z hh_ a "java/lang/String" "value" "[B" (.ref b)) ∧ (Arv Z hh_ b kb .byte (0 : Int32) [] (.int 0)) ∧ (LS Z "java/lang/String" 7 [] vm_ hh_ hh_.size)
set_option maxRecDepth 65536 in
set_option maxHeartbeats 40000000 in
theorem sinit2 (l : Launch) (Z : State) (a0 : Array Value) (hw : ∀ d ∈ tables_1, d.before a0 Z = true) (ws : List Jvm.Cond) (zCS : Int32) (a : Addr) (ca : Addr) (u1 : Value) (NN : Nat) (h0 : Heap) (n0 : Nat) (O0 : Old Z n0 h0) (S_CS : Sta Z Z.heap "java/lang/String" "COMPACT_STRINGS" "Z" (.int zCS)) (hCS : ¬ (zCS = (0 : Int32))) (hcH : Jvm.Lit.constHeld Z "java/lang/String" 7) (hcW : Jvm.Lit.compactW.before a0 Z = true) (g_a : n0 ≤ a) (Ea : Exa Z h0 a "java/lang/String") (Fv : Fld Z h0 a "java/lang/String" "value" "[B" .null) (Fc : Fld Z h0 a "java/lang/String" "coder" "B" u1) :
    MetFree l (⟨"java/lang/String", "<init>", "([CIILjava/lang/Void;)V"⟩ : MethodName) (head1 (Jvm.Cond.code (⟨"java/lang/String", "<init>", "([CIILjava/lang/Void;)V"⟩ : MethodName) jdk_42_method_149_code 6 none :: ws) ({ frames := 1, cells := 2, slots := 4, locals := 12 } : Room)) (fun aa_ U_ => aa_ = #[(.ref a), (.ref ca), (.int (0 : Int32)), (.int (0 : Int32)), .null] ∧ (Z.Warmed39 U_.vm ∧ LS Z "java/lang/String" 7 [] U_.vm h0 NN) ∧ U_.heap = h0) (fun _ _ _ _ _ => True) (fun _ U_ oo_ V_ => ∃ vv_ LL_, oo_ = .returned vv_ ∧ Q_sinit2 Z zCS a ca u1 h0 n0 vv_ V_.heap V_.vm LL_ ∧ ReturnedEndW U_ oo_ V_ LL_ ({ frames := 1, cells := 2, slots := 4, locals := 12 } : Room).cells ({ frames := 1, cells := 2, slots := 4, locals := 12 } : Room).slots) := by
  refine MetFree.of_bodySF (plainFor_of_name pn_java_lang_String) hisR ?_
  intro p e s m args below meth c s₁ Bd hml0 hP hK
  obtain ⟨rfl, ⟨hZ, hL0⟩, hh⟩ := hP
  have hx := Bd.exec
  have hby := Bd.bytes
  have hml : c.maxLocals = 6 := hml0
  have hown : s.vm.findClass "java/lang/String" = some m.cls := findClass_of_methodNamed Bd.named
  have hnm := (name_of_methodNamed Bd.named Bd.method).1
  have hZ0 : Z.Warmed39 (s.setVm s.vm).vm := hZ
  have hown0 : (s.setVm s.vm).vm.findClass "java/lang/String" = some m.cls := hown
  have hS0 : s.Since s.vm 0 := ⟨State.Warmed39.refl s, fun j p h1 h2 => absurd (Array.getElem?_eq_some_iff.mp h2).1 (Nat.not_lt.mpr h1)⟩
  have X0 : Stand p l e ({ frames := 1, cells := 2, slots := 4, locals := 12 } : Room) (s.setVm s.vm) m #[(.ref a), (.ref ca), (.int (0 : Int32)), (.int (0 : Int32)), .null] below meth c s₁ [] 0 0 := Stand.of_body Bd
  have e0 : s₁.heap = h0 := by rw [← hh, Bd.state]; rfl
  have N0 := Fr.nil n0
  have Z0 : n0 ≤ h0.size := O0.1 ▸ O0.2.1
  have hk0 := Nat.zero_le h0.size
  have K0 : Keep h0 h0 [a] := Keep.refl _ _
  have R0 : ∀ t, Steps p.tables e below (s₁.setTop (mkF m 0 #[.val (.ref a), .val (.ref ca), .val (.int (0 : Int32)), .val (.int (0 : Int32)), .val .null, .unset] [])) t → Steps p.tables e below (s₁.setTop (entryFrame m #[(.ref a), (.ref ca), (.int (0 : Int32)), (.int (0 : Int32)), .null] 6)) t := fun t k => castTop (ef_sinit2 m a ca u1) k
  obtain ⟨T1, X1, e1, st1⟩ := initO X0 hx hZ0 hown0 (hw _ (List.mem_of_getElem? (i := 19) rfl)) (hw _ (List.mem_of_getElem? (i := 20) rfl)) (hw _ (List.mem_of_getElem? (i := 21) rfl)) e0 (g := (mkF m 1 #[.val (.ref a), .val (.ref ca), .val (.int (0 : Int32)), .val (.int (0 : Int32)), .val .null, .unset] [(.ref a)])) rfl (by rw [hml]; rfl) rfl (hb hby d4_1) (by decide) (W := 0) (by show 2 * 0 + _ ≤ _; exact Nat.le_of_eq rfl) (by decide)
  obtain ⟨a2, T2, h2, k2, b2, kb2, X2, e2, E2, hS2, hk2, hZ2, hown2, Ea2, Ca2, Va2, Aa2, la2, lb2, hL2, Li2, st2⟩ := own_ldcE X1 hx hZ0 hown0 (hw _ (List.mem_of_getElem? (i := 22) rfl)) (own_sat hw) e1 hS0 hk0 (fun b cl q => by rw [e1]; rw [← hh]; exact q) (fun b cl q => by rw [hh]; exact O0.2.2 b cl q) hL0 hcH hcW (g := (mkF m 9 #[.val (.ref a), .val (.ref ca), .val (.int (0 : Int32)), .val (.int (0 : Int32)), .val .null, .unset] [(.ref a)])) rfl (hb hby d4_9) (by decide) (by decide)
  have Z2 : n0 ≤ h2.size := Nat.le_trans Z0 E2.1
  have K2 : Keep h0 h2 [a] := K0.ext E2
  have O2 : Old Z n0 h2 := O0.ext E2
  have f3 : Fld Z h2 a "java/lang/String" "value" "[B" .null := (Fv.ext E2)
  have f4 : Exa Z h2 a "java/lang/String" := (Ea.ext E2)
  have ne_a_a2 : a ≠ a2 := f3.ne Va2 (by simp)
  have ne_a_b2 : a ≠ b2 := f4.neArv Aa2 (hw _ (List.mem_of_getElem? (i := 9) rfl))
  obtain ⟨T5, X5, e5, st5⟩ := getF X2 hx hZ2 hown2 (host := "") (Or.inl (hw _ (List.mem_of_getElem? (i := 28) rfl))) Via.refl e2 Va2 (g := (mkF m 11 #[.val (.ref a), .val (.ref ca), .val (.int (0 : Int32)), .val (.int (0 : Int32)), .val .null, .unset] [(.ref a2), (.ref a)])) rfl rfl (hb hby d4_11)
  obtain ⟨T6, h6, X6, e6, W6, st6⟩ := putF X5 hx hZ2 hown2 (host := "") (Or.inl (hw _ (List.mem_of_getElem? (i := 28) rfl))) Via.refl e5 f3 f4 (Or.inr ⟨(hw _ (List.mem_of_getElem? (i := 24) rfl)), rfl, hnm⟩) (hw _ (List.mem_of_getElem? (i := 9) rfl)) (ty := (.array .byte)) (by decide) rfl rfl (g := (mkF m 14 #[.val (.ref a), .val (.ref ca), .val (.int (0 : Int32)), .val (.int (0 : Int32)), .val .null, .unset] [(.ref b2), (.ref a)])) rfl rfl (hb hby d4_14)
  have Z6 : n0 ≤ h6.size := Nat.le_trans Z2 (Keep.of_wr W6).1
  have K6 : Keep h0 h6 [a] := K2.wr W6 (Or.inl (List.mem_of_getElem? (i := 0) rfl))
  have O6 : Old Z n0 h6 := O2.wr W6 g_a
  have N6 := Fr.snoc X6 N0 g_a
  have hL6 := LS.keepX (s := s) hL2 Li2 Va2 (Keep.of_wr W6) (ninS (Ne.symm ne_a_a2) nin0) (ninS (Ne.symm ne_a_b2) nin0)
  have hk6 := Nat.le_trans hk2 (Keep.of_wr W6).1
  have fw6 : Fld Z h6 a "java/lang/String" "value" "[B" (.ref b2) := f3.same W6
  have f9 : Fld Z h6 a2 "java/lang/String" "coder" "B" (.int (0 : Int32)) := (Ca2.other W6 (Or.inl (Ne.symm ne_a_a2)))
  obtain ⟨T8, X8, e8, st8⟩ := getF X6 hx hZ2 hown2 (host := "") (Or.inl (hw _ (List.mem_of_getElem? (i := 29) rfl))) Via.refl e6 f9 (g := (mkF m 20 #[.val (.ref a), .val (.ref ca), .val (.int (0 : Int32)), .val (.int (0 : Int32)), .val .null, .unset] [(.ref a2), (.ref a)])) rfl rfl (hb hby d4_20)
  have f11 : Exa Z h6 a "java/lang/String" := (f4.wr W6)
  have f12 : Fld Z h6 a "java/lang/String" "coder" "B" u1 := ((Fc.ext E2).other W6 (Or.inr (slot_ne (Or.inr (hw _ (List.mem_of_getElem? (i := 25) rfl))) (Or.inr (hw _ (List.mem_of_getElem? (i := 24) rfl))) (by decide) (t := .byte) (t' := (.array .byte)) (by decide) (by decide))))
  have f13 : Fld Z h6 a2 "java/lang/String" "value" "[B" (.ref b2) := (Va2.other W6 (Or.inl (Ne.symm ne_a_a2)))
  obtain ⟨T10, h10, X10, e10, W10, st10⟩ := putFN X8 hx hZ2 hown2 (hw _ (List.mem_of_getElem? (i := 29) rfl)) Via.refl e8 f12 f11 (Or.inr ⟨(hw _ (List.mem_of_getElem? (i := 25) rfl)), rfl, hnm⟩) (hw _ (List.mem_of_getElem? (i := 9) rfl)) (ty := .byte) (v' := (.int (0 : Int32))) (by decide) (by decide) (by decide) (g := (mkF m 23 #[.val (.ref a), .val (.ref ca), .val (.int (0 : Int32)), .val (.int (0 : Int32)), .val .null, .unset] [(.int (0 : Int32)), (.ref a)])) rfl rfl (hb hby d4_23)
  have Z10 : n0 ≤ h10.size := Nat.le_trans Z6 (Keep.of_wr W10).1
  have K10 : Keep h0 h10 [a] := K6.wr W10 (Or.inl (List.mem_of_getElem? (i := 0) rfl))
  have O10 : Old Z n0 h10 := O6.wr W10 g_a
  have N10 := Fr.snoc X10 N6 g_a
  have hL10 := LS.keepX (s := s) hL6 Li2 f13 (Keep.of_wr W10) (ninS (Ne.symm ne_a_a2) nin0) (ninS (Ne.symm ne_a_b2) nin0)
  have hk10 := Nat.le_trans hk6 (Keep.of_wr W10).1
  have fw10 : Fld Z h10 a "java/lang/String" "coder" "B" (.int (0 : Int32)) := f12.same W10
  have R14 : ∀ t, Steps p.tables e below (T10.setTop (mkF m 26 #[.val (.ref a), .val (.ref ca), .val (.int (0 : Int32)), .val (.int (0 : Int32)), .val .null, .unset] [])) t → Steps p.tables e below (s₁.setTop (entryFrame m #[(.ref a), (.ref ca), (.int (0 : Int32)), (.int (0 : Int32)), .null] 6)) t := by
    intro t k
    refine R0 t ?_
    show Steps p.tables e below (s₁.setTop (mkF m 0 #[.val (.ref a), .val (.ref ca), .val (.int (0 : Int32)), .val (.int (0 : Int32)), .val .null, .unset] [])) t
    refine XS.aloadN X0.here hx rfl (hb hby d4_0) rfl rfl ?_
    show Steps p.tables e below (s₁.setTop (mkF m 1 #[.val (.ref a), .val (.ref ca), .val (.int (0 : Int32)), .val (.int (0 : Int32)), .val .null, .unset] [(.ref a)])) t
    refine st1 _ ?_
    show Steps p.tables e below (T1.setTop (mkF m 4 #[.val (.ref a), .val (.ref ca), .val (.int (0 : Int32)), .val (.int (0 : Int32)), .val .null, .unset] [])) t
    refine XS.iloadN X1.here hx rfl (hb hby d4_4) rfl ?_
    show Steps p.tables e below (T1.setTop (mkF m 5 #[.val (.ref a), .val (.ref ca), .val (.int (0 : Int32)), .val (.int (0 : Int32)), .val .null, .unset] [(.int (0 : Int32))])) t
    refine XS.ifNo X1.here hx rfl (hb hby d4_5) rfl ((if0 _ _).trans (teq ((by decide) : (0 : Int32) = (0 : Int32))).2) ?_
    show Steps p.tables e below (T1.setTop (mkF m 8 #[.val (.ref a), .val (.ref ca), .val (.int (0 : Int32)), .val (.int (0 : Int32)), .val .null, .unset] [])) t
    refine XS.aloadN X1.here hx rfl (hb hby d4_8) rfl rfl ?_
    show Steps p.tables e below (T1.setTop (mkF m 9 #[.val (.ref a), .val (.ref ca), .val (.int (0 : Int32)), .val (.int (0 : Int32)), .val .null, .unset] [(.ref a)])) t
    refine st2 _ ?_
    show Steps p.tables e below (T2.setTop (mkF m 11 #[.val (.ref a), .val (.ref ca), .val (.int (0 : Int32)), .val (.int (0 : Int32)), .val .null, .unset] [(.ref a2), (.ref a)])) t
    refine st5 _ ?_
    show Steps p.tables e below (T5.setTop (mkF m 14 #[.val (.ref a), .val (.ref ca), .val (.int (0 : Int32)), .val (.int (0 : Int32)), .val .null, .unset] [(.ref b2), (.ref a)])) t
    refine st6 _ ?_
    show Steps p.tables e below (T6.setTop (mkF m 17 #[.val (.ref a), .val (.ref ca), .val (.int (0 : Int32)), .val (.int (0 : Int32)), .val .null, .unset] [])) t
    refine XS.aloadN X6.here hx rfl (hb hby d4_17) rfl rfl ?_
    show Steps p.tables e below (T6.setTop (mkF m 18 #[.val (.ref a), .val (.ref ca), .val (.int (0 : Int32)), .val (.int (0 : Int32)), .val .null, .unset] [(.ref a)])) t
    refine ldcAgain X6 hx hZ2 hown2 (hw _ (List.mem_of_getElem? (i := 22) rfl)) Li2 (g := (mkF m 18 #[.val (.ref a), .val (.ref ca), .val (.int (0 : Int32)), .val (.int (0 : Int32)), .val .null, .unset] [(.ref a)])) rfl (hb hby d4_18) _ ?_
    show Steps p.tables e below (T6.setTop (mkF m 20 #[.val (.ref a), .val (.ref ca), .val (.int (0 : Int32)), .val (.int (0 : Int32)), .val .null, .unset] [(.ref a2), (.ref a)])) t
    refine st8 _ ?_
    show Steps p.tables e below (T8.setTop (mkF m 23 #[.val (.ref a), .val (.ref ca), .val (.int (0 : Int32)), .val (.int (0 : Int32)), .val .null, .unset] [(.int (0 : Int32)), (.ref a)])) t
    refine st10 _ ?_
    exact k
  have f15 : Exa Z h10 a "java/lang/String" := (f11.wr W10)
  have f16 : Fld Z h10 a "java/lang/String" "value" "[B" (.ref b2) := (fw6.other W10 (Or.inr (slot_ne (Or.inr (hw _ (List.mem_of_getElem? (i := 24) rfl))) (Or.inr (hw _ (List.mem_of_getElem? (i := 25) rfl))) (by decide) (t := (.array .byte)) (t' := .byte) (by decide) (by decide))))
  have f17 : Arv Z h10 b2 kb2 .byte (0 : Int32) [] (.int 0) := ((Aa2.other W6 (Ne.symm ne_a_b2)).other W10 (Ne.symm ne_a_b2))
  obtain ⟨fs, hr, hrun, hended, hRW⟩ := X10.leaveW hS2 (by rw [e10]; exact hk10) (v := none) (fun _ => rfl)
  refine ⟨_, _, R14 _ ?_, hrun, hended, _, _, rfl, ?_, hRW.1, hRW.2.1, hRW.2.2.1, hRW.2.2.2.mono (by decide) (by decide)⟩
  · show Steps p.tables e below (T10.setTop (mkF m 26 #[.val (.ref a), .val (.ref ca), .val (.int (0 : Int32)), .val (.int (0 : Int32)), .val .null, .unset] [])) _
    exact X10.returnOut hx Bd.returns (hb hby d4_26) hr
  · show Q_sinit2 Z zCS a ca u1 h0 n0 _ T10.heap T10.vm _
    rw [e10]
    exact ⟨b2, kb2, rfl, N10, K10, f15, fw10, f16, f17, ((LS.warm (s := s) hL10 X10.warmed).up hL10.1 (Nat.le_refl _))⟩
theorem d3_0 : decode jdk_42_method_3_code 0 = .ok (.aload_n 0, 1) := by decide +kernel
theorem d3_1 : decode jdk_42_method_3_code 1 = .ok (.aload_n 1, 1) := by decide +kernel
theorem d3_2 : decode jdk_42_method_3_code 2 = .ok (.iconst 0, 1) := by decide +kernel
theorem d3_3 : decode jdk_42_method_3_code 3 = .ok (.aload_n 1, 1) := by decide +kernel
theorem d3_4 : decode jdk_42_method_3_code 4 = .ok (.arraylength, 1) := by decide +kernel
theorem d3_5 : decode jdk_42_method_3_code 5 = .ok (.aconst_null, 1) := by decide +kernel
theorem pd_0 : parseMethodDescriptor "([CIILjava/lang/Void;)V" = some ⟨[(.array .char), .int, .int, (.object "java/lang/Void")], none⟩ := by decide +kernel
theorem d3_6 : decode jdk_42_method_3_code 6 = .ok (.invokespecial 27, 3) := by decide +kernel
theorem d3_9 : decode jdk_42_method_3_code 9 = .ok (.return_, 1) := by decide +kernel
theorem ef_sinit1 (m : MethodId) (a : Addr) (ca : Addr) (kc : ClassId) (u1 : Value) : entryFrame m #[(.ref a), (.ref ca)] 2 = mkF m 0 #[.val (.ref a), .val (.ref ca)] [] := by first | (simp [entryFrame, mkF, argsToLocals, Value.category]; done) | rfl
def Q_sinit1 (Z : State) (zCS : Int32) (a : Addr) (ca : Addr) (kc : ClassId) (u1 : Value) (h0 : Heap) (n0 : Nat) (vv_ : Option Value) (hh_ : Heap) (vm_ : Vm) (LL_ : List Loc) : Prop := ∃ (b : Addr) (kb : ClassId), vv_ = none ∧ (Fr n0 LL_) ∧ (Keep h0 hh_ [a]) ∧ (Exa Z hh_ a "java/lang/String") ∧ (Fld Z hh_ a "java/lang/String" "coder" "B" (.int (0 : Int32))) ∧ (Fld Z hh_ a "java/lang/String" "value" "[B" (.ref b)) ∧ (Arv Z hh_ b kb .byte (0 : Int32) [] (.int 0)) ∧ (LS Z "java/lang/String" 7 [] vm_ hh_ hh_.size)
set_option maxRecDepth 65536 in
set_option maxHeartbeats 40000000 in
theorem sinit1 (l : Launch) (Z : State) (a0 : Array Value) (hw : ∀ d ∈ tables_1, d.before a0 Z = true) (ws : List Jvm.Cond) (zCS : Int32) (a : Addr) (ca : Addr) (kc : ClassId) (u1 : Value) (NN : Nat) (h0 : Heap) (n0 : Nat) (O0 : Old Z n0 h0) (S_CS : Sta Z Z.heap "java/lang/String" "COMPACT_STRINGS" "Z" (.int zCS)) (hCS : ¬ (zCS = (0 : Int32))) (hcH : Jvm.Lit.constHeld Z "java/lang/String" 7) (hcW : Jvm.Lit.compactW.before a0 Z = true) (g_a : n0 ≤ a) (Ea : Exa Z h0 a "java/lang/String") (Fv : Fld Z h0 a "java/lang/String" "value" "[B" .null) (Fc : Fld Z h0 a "java/lang/String" "coder" "B" u1) (Vc : Arv Z h0 ca kc .char (0 : Int32) [] (.int (0 : Int32))) :
    MetFree l (⟨"java/lang/String", "<init>", "([C)V"⟩ : MethodName) (head1 (Jvm.Cond.code (⟨"java/lang/String", "<init>", "([C)V"⟩ : MethodName) jdk_42_method_3_code 2 none :: ws) ({ frames := 2, cells := 2, slots := 4, locals := 29 } : Room)) (fun aa_ U_ => aa_ = #[(.ref a), (.ref ca)] ∧ (Z.Warmed39 U_.vm ∧ LS Z "java/lang/String" 7 [] U_.vm h0 NN) ∧ U_.heap = h0) (fun _ _ _ _ _ => True) (fun _ U_ oo_ V_ => ∃ vv_ LL_, oo_ = .returned vv_ ∧ Q_sinit1 Z zCS a ca kc u1 h0 n0 vv_ V_.heap V_.vm LL_ ∧ ReturnedEndW U_ oo_ V_ LL_ ({ frames := 2, cells := 2, slots := 4, locals := 29 } : Room).cells ({ frames := 2, cells := 2, slots := 4, locals := 29 } : Room).slots) := by
  refine MetFree.of_bodySF (plainFor_of_name pn_java_lang_String) hisR ?_
  intro p e s m args below meth c s₁ Bd hml0 hP hK
  obtain ⟨rfl, ⟨hZ, hL0⟩, hh⟩ := hP
  have hx := Bd.exec
  have hby := Bd.bytes
  have hml : c.maxLocals = 2 := hml0
  have hown : s.vm.findClass "java/lang/String" = some m.cls := findClass_of_methodNamed Bd.named
  have hnm := (name_of_methodNamed Bd.named Bd.method).1
  have hZ0 : Z.Warmed39 (s.setVm s.vm).vm := hZ
  have hown0 : (s.setVm s.vm).vm.findClass "java/lang/String" = some m.cls := hown
  have hS0 : s.Since s.vm 0 := ⟨State.Warmed39.refl s, fun j p h1 h2 => absurd (Array.getElem?_eq_some_iff.mp h2).1 (Nat.not_lt.mpr h1)⟩
  have X0 : Stand p l e ({ frames := 2, cells := 2, slots := 4, locals := 29 } : Room) (s.setVm s.vm) m #[(.ref a), (.ref ca)] below meth c s₁ [] 0 0 := Stand.of_body Bd
  have e0 : s₁.heap = h0 := by rw [← hh, Bd.state]; rfl
  have N0 := Fr.nil n0
  have Z0 : n0 ≤ h0.size := O0.1 ▸ O0.2.1
  have hk0 := Nat.zero_le h0.size
  have K0 : Keep h0 h0 [a] := Keep.refl _ _
  have R0 : ∀ t, Steps p.tables e below (s₁.setTop (mkF m 0 #[.val (.ref a), .val (.ref ca)] [])) t → Steps p.tables e below (s₁.setTop (entryFrame m #[(.ref a), (.ref ca)] 2)) t := fun t k => castTop (ef_sinit1 m a ca kc u1) k
  obtain ⟨cl1, Ar1, -, S1, M1, -, -⟩ := id Vc
  obtain ⟨_, _, ⟨T2, L2, k2, n2⟩, -, X2q, hS2q, hg2q, ⟨Lc2, hQ2, cl_2, cy_2, cz_2⟩, st2⟩ := X0.specialBackS hx (y := (⟨"java/lang/String", "<init>", "([CIILjava/lang/Void;)V"⟩ : MethodName)) rfl hown0 (mvT hZ0 (hw _ (List.mem_of_getElem? (i := 15) rfl))) (mvT hZ0 (hw _ (List.mem_of_getElem? (i := 16) rfl))) (mvT hZ0 (hw _ (List.mem_of_getElem? (i := 18) rfl))) (by decide) (own_backV (W := 0) (Pv := fun vm_ => LS Z "java/lang/String" 7 [] vm_ h0 NN) (sinit2 l Z a0 hw [] zCS a ca u1 NN h0 n0 O0 S_CS hCS hcH hcW g_a  Ea Fv Fc) hZ0 (fun vm_ hW_ => LS.warm (s := s) hL0 hW_) (hw _ (List.mem_of_getElem? (i := 18) rfl)) (hw _ (List.mem_of_getElem? (i := 10) rfl)) (by decide) (by decide)) (g := (mkF m 6 #[.val (.ref a), .val (.ref ca)] [.null, (.int (0 : Int32)), (.int (0 : Int32)), (.ref ca), (.ref a)])) rfl (by rw [hml]; rfl) (Steps.refl _) (a := a) (argsL := [(.ref ca), (.int (0 : Int32)), (.int (0 : Int32)), .null]) (rest := []) (lenOf pd_0 rfl) rfl (by show 2 * 0 + _ ≤ _; exact Nat.le_of_eq rfl) (hb hby d3_6) (fun _ _ => ⟨rfl, e0, (by decide : 0 + 2 ≤ _), (by decide : 0 + 4 ≤ _)⟩)
  dsimp only [Pt.U, Pt.locs, Pt.cells, Pt.slots] at X2q cl_2 cy_2 cz_2 st2 hQ2 hS2q hg2q
  rw [cl_2, cy_2, cz_2] at X2q
  obtain ⟨X2, hS2, hZ2, hown2⟩ := rebS hS0 (by rw [e0]; exact hk0) X2q hS2q hg2q hZ0 hown0
  have hk2 := Nat.le_refl T2.heap.size
  obtain ⟨b2, kb2, rfl, N2q, K2q, y2_0, y2_1, y2_2, y2_3, hL2⟩ := hQ2
  have N2 := Fr.app N0 N2q
  have Z2 : n0 ≤ T2.heap.size := Nat.le_trans Z0 K2q.1
  have K2 : Keep h0 T2.heap [a] := K0.trans K2q (allS (Or.inl (List.mem_of_getElem? (i := 0) rfl)) all0)
  have O2 : Old Z n0 T2.heap := O0.keep K2q (allS g_a all0)
  have ne_a_b2 : a ≠ b2 := y2_0.neArv y2_3 (hw _ (List.mem_of_getElem? (i := 9) rfl))
  have R3 : ∀ t, Steps p.tables e below (T2.setTop (mkF m 9 #[.val (.ref a), .val (.ref ca)] [])) t → Steps p.tables e below (s₁.setTop (entryFrame m #[(.ref a), (.ref ca)] 2)) t := by
    intro t k
    refine R0 t ?_
    show Steps p.tables e below (s₁.setTop (mkF m 0 #[.val (.ref a), .val (.ref ca)] [])) t
    refine XS.aloadN X0.here hx rfl (hb hby d3_0) rfl rfl ?_
    show Steps p.tables e below (s₁.setTop (mkF m 1 #[.val (.ref a), .val (.ref ca)] [(.ref a)])) t
    refine XS.aloadN X0.here hx rfl (hb hby d3_1) rfl rfl ?_
    show Steps p.tables e below (s₁.setTop (mkF m 2 #[.val (.ref a), .val (.ref ca)] [(.ref ca), (.ref a)])) t
    refine XS.iconst X0.here hx rfl (hb hby d3_2) ?_
    show Steps p.tables e below (s₁.setTop (mkF m 3 #[.val (.ref a), .val (.ref ca)] [(.int (0 : Int32)), (.ref ca), (.ref a)])) t
    refine XS.aloadN X0.here hx rfl (hb hby d3_3) rfl rfl ?_
    show Steps p.tables e below (s₁.setTop (mkF m 4 #[.val (.ref a), .val (.ref ca)] [(.ref ca), (.int (0 : Int32)), (.ref ca), (.ref a)])) t
    refine X0.arraylength hx (by rw [e0]; exact Ar1.1) (State.isArrayOf_alike hZ0.alike Ar1.2.1) (g := (mkF m 4 #[.val (.ref a), .val (.ref ca)] [(.ref ca), (.int (0 : Int32)), (.ref ca), (.ref a)])) rfl rfl (hb hby d3_4) _ ?_
    rw [len_of S1 M1]
    show Steps p.tables e below (s₁.setTop (mkF m 5 #[.val (.ref a), .val (.ref ca)] [(.int (0 : Int32)), (.int (0 : Int32)), (.ref ca), (.ref a)])) t
    refine XS.aconstNull X0.here hx rfl (hb hby d3_5) ?_
    show Steps p.tables e below (s₁.setTop (mkF m 6 #[.val (.ref a), .val (.ref ca)] [.null, (.int (0 : Int32)), (.int (0 : Int32)), (.ref ca), (.ref a)])) t
    refine st2.trans ?_
    exact k
  obtain ⟨fs, hr, hrun, hended, hRW⟩ := X2.leaveW hS2 hk2 (v := none) (fun _ => rfl)
  refine ⟨_, _, R3 _ ?_, hrun, hended, _, _, rfl, ?_, hRW.1, hRW.2.1, hRW.2.2.1, hRW.2.2.2.mono (by decide) (by decide)⟩
  · show Steps p.tables e below (T2.setTop (mkF m 9 #[.val (.ref a), .val (.ref ca)] [])) _
    exact X2.returnOut hx Bd.returns (hb hby d3_9) hr
  · show Q_sinit1 Z zCS a ca kc u1 h0 n0 _ T2.heap T2.vm _
    exact ⟨b2, kb2, rfl, N2, K2, y2_0, y2_1, y2_2, y2_3, ((LS.warm (s := s) hL2 X2.warmed).up hL2.1 (Nat.le_refl _))⟩
theorem d2_0 : decode method_4_code 0 = .ok (.iload_n 0, 1) := by decide +kernel
theorem d2_1 : decode method_4_code 1 = .ok (.ifCond .ne 14, 3) := by decide +kernel
theorem d2_4 : decode method_4_code 4 = .ok (.new 7, 3) := by decide +kernel
theorem d2_7 : decode method_4_code 7 = .ok (.dup, 1) := by decide +kernel
theorem d2_8 : decode method_4_code 8 = .ok (.iconst 0, 1) := by decide +kernel
theorem d2_9 : decode method_4_code 9 = .ok (.newarray .char, 2) := by decide +kernel
theorem pd_1 : parseMethodDescriptor "([C)V" = some ⟨[(.array .char)], none⟩ := by decide +kernel
theorem d2_11 : decode method_4_code 11 = .ok (.invokespecial 9, 3) := by decide +kernel
theorem d2_14 : decode method_4_code 14 = .ok (.areturn, 1) := by decide +kernel
theorem ef_build0 (m : MethodId) (x0 : Int32) (x1 : Int32) (x2 : Int32) (x3 : Int32) : entryFrame m #[(.int (0 : Int32)), (.int x0), (.int x1), (.int x2), (.int x3)] 5 = mkF m 0 #[.val (.int (0 : Int32)), .val (.int x0), .val (.int x1), .val (.int x2), .val (.int x3)] [] := by first | (simp [entryFrame, mkF, argsToLocals, Value.category]; done) | rfl
def Q_build0 (Z : State) (zCS : Int32) (x0 : Int32) (x1 : Int32) (x2 : Int32) (x3 : Int32) (h0 : Heap) (n0 : Nat) (vv_ : Option Value) (hh_ : Heap) (vm_ : Vm) (LL_ : List Loc) : Prop := ∃ (b : Addr) (tt : Addr) (kb : ClassId), vv_ = some (.ref b) ∧ (Fr n0 LL_) ∧ (Keep h0 hh_ []) ∧ (h0.size ≤ b) ∧ (Exa Z hh_ b "java/lang/String") ∧ (Fld Z hh_ b "java/lang/String" "coder" "B" (.int (0 : Int32))) ∧ (Fld Z hh_ b "java/lang/String" "value" "[B" (.ref tt)) ∧ (Arv Z hh_ tt kb .byte (0 : Int32) [] (.int 0)) ∧ (LS Z "java/lang/String" 7 [] vm_ hh_ hh_.size)
set_option maxRecDepth 65536 in
set_option maxHeartbeats 40000000 in
theorem build0 (l : Launch) (Z : State) (a0 : Array Value) (hw : ∀ d ∈ tables_1, d.before a0 Z = true) (ws : List Jvm.Cond) (zCS : Int32) (x0 : Int32) (x1 : Int32) (x2 : Int32) (x3 : Int32) (NN : Nat) (h0 : Heap) (n0 : Nat) (O0 : Old Z n0 h0) (S_CS : Sta Z Z.heap "java/lang/String" "COMPACT_STRINGS" "Z" (.int zCS)) (hCS : ¬ (zCS = (0 : Int32))) (hcH : Jvm.Lit.constHeld Z "java/lang/String" 7) (hcW : Jvm.Lit.compactW.before a0 Z = true) :
    MetFree l (⟨"com/example/wiring_from_blueprints/wiringfromblueprints/internal/StaticFieldCheckedPinLaw", "build", "(ICCCC)Ljava/lang/String;"⟩ : MethodName) (head1 (Jvm.Cond.code (⟨"com/example/wiring_from_blueprints/wiringfromblueprints/internal/StaticFieldCheckedPinLaw", "build", "(ICCCC)Ljava/lang/String;"⟩ : MethodName) method_4_code 5 (some (.object "java/lang/String")) :: ws) ({ frames := 3, cells := 4, slots := 8, locals := 43 } : Room)) (fun aa_ U_ => aa_ = #[(.int (0 : Int32)), (.int x0), (.int x1), (.int x2), (.int x3)] ∧ (Z.Warmed39 U_.vm ∧ LS Z "java/lang/String" 7 [] U_.vm h0 NN) ∧ U_.heap = h0) (fun _ _ _ _ _ => True) (fun _ U_ oo_ V_ => ∃ vv_ LL_, oo_ = .returned vv_ ∧ Q_build0 Z zCS x0 x1 x2 x3 h0 n0 vv_ V_.heap V_.vm LL_ ∧ ReturnedEndW U_ oo_ V_ LL_ ({ frames := 3, cells := 4, slots := 8, locals := 43 } : Room).cells ({ frames := 3, cells := 4, slots := 8, locals := 43 } : Room).slots) := by
  refine MetFree.of_bodySF (plainFor_of_name pn_com_example_wiring_from_blueprints_wiringfromblueprints_internal_StaticFieldCheckedPinLaw) hisR ?_
  intro p e s m args below meth c s₁ Bd hml0 hP hK
  obtain ⟨rfl, ⟨hZ, hL0⟩, hh⟩ := hP
  have hx := Bd.exec
  have hby := Bd.bytes
  have hml : c.maxLocals = 5 := hml0
  have hown : s.vm.findClass "com/example/wiring_from_blueprints/wiringfromblueprints/internal/StaticFieldCheckedPinLaw" = some m.cls := findClass_of_methodNamed Bd.named
  have hnm := (name_of_methodNamed Bd.named Bd.method).1
  have hZ0 : Z.Warmed39 (s.setVm s.vm).vm := hZ
  have hown0 : (s.setVm s.vm).vm.findClass "com/example/wiring_from_blueprints/wiringfromblueprints/internal/StaticFieldCheckedPinLaw" = some m.cls := hown
  have hS0 : s.Since s.vm 0 := ⟨State.Warmed39.refl s, fun j p h1 h2 => absurd (Array.getElem?_eq_some_iff.mp h2).1 (Nat.not_lt.mpr h1)⟩
  have X0 : Stand p l e ({ frames := 3, cells := 4, slots := 8, locals := 43 } : Room) (s.setVm s.vm) m #[(.int (0 : Int32)), (.int x0), (.int x1), (.int x2), (.int x3)] below meth c s₁ [] 0 0 := Stand.of_body Bd
  have e0 : s₁.heap = h0 := by rw [← hh, Bd.state]; rfl
  have N0 := Fr.nil n0
  have Z0 : n0 ≤ h0.size := O0.1 ▸ O0.2.1
  have hk0 := Nat.zero_le h0.size
  have K0 : Keep h0 h0 [] := Keep.refl _ _
  have R0 : ∀ t, Steps p.tables e below (s₁.setTop (mkF m 0 #[.val (.int (0 : Int32)), .val (.int x0), .val (.int x1), .val (.int x2), .val (.int x3)] [])) t → Steps p.tables e below (s₁.setTop (entryFrame m #[(.int (0 : Int32)), (.int x0), (.int x1), (.int x2), (.int x3)] 5)) t := fun t k => castTop (ef_build0 m x0 x1 x2 x3) k
  obtain ⟨T1, h1, X1, e1, E1, A1, D1, -, st1⟩ := newO X0 hx hZ0 hown0 (hw _ (List.mem_of_getElem? (i := 8) rfl)) (hw _ (List.mem_of_getElem? (i := 9) rfl)) (hw _ (List.mem_of_getElem? (i := 10) rfl)) e0 (g := (mkF m 4 #[.val (.int (0 : Int32)), .val (.int x0), .val (.int x1), .val (.int x2), .val (.int x3)] [])) rfl (hb hby d2_4) (by decide) (by decide)
  obtain ⟨b1, gg1⟩ : ∃ z, z = h0.size := ⟨_, rfl⟩
  rw [← gg1] at A1 D1 st1
  have g_b1 : n0 ≤ b1 := Nat.le_trans Z0 (Nat.le_of_eq gg1.symm)
  have sz_b1 : h0.size ≤ b1 := Nat.le_trans K0.1 (Nat.le_of_eq gg1.symm)
  have nl_b1 : NN ≤ b1 := Nat.le_trans hL0.1 (Nat.le_of_eq gg1.symm)
  have hL1 := hL0.ext E1
  have Z1 : n0 ≤ h1.size := Nat.le_trans Z0 E1.1
  have K1 : Keep h0 h1 [] := K0.ext E1
  have O1 : Old Z n0 h1 := O0.ext E1
  have hk1 := Nat.le_trans hk0 E1.1
  have F1_value : Fld Z h1 b1 "java/lang/String" "value" "[B" .null := D1 (Or.inr (hw _ (List.mem_of_getElem? (i := 24) rfl))) (ty := (.array .byte)) (by decide)
  have F1_coder : Fld Z h1 b1 "java/lang/String" "coder" "B" (.int (0 : Int32)) := D1 (Or.inr (hw _ (List.mem_of_getElem? (i := 25) rfl))) (ty := .byte) (by decide)
  obtain ⟨T2, h2, k2, X2, e2, E2, A2, st2⟩ := newP X1 hx hZ0 (hw _ (List.mem_of_getElem? (i := 11) rfl)) e1 (g := (mkF m 9 #[.val (.int (0 : Int32)), .val (.int x0), .val (.int x1), .val (.int x2), .val (.int x3)] [(.int (0 : Int32)), (.ref b1), (.ref b1)])) rfl (hb hby d2_9) rfl (by decide) (cap := 0) (by decide) (by decide) (by decide) (by decide)
  obtain ⟨b2, gg2⟩ : ∃ z, z = h1.size := ⟨_, rfl⟩
  rw [← gg2] at A2 st2
  have ne_b1_b2 : b1 ≠ b2 := Nat.ne_of_lt (Nat.lt_of_lt_of_le A1.lt (Nat.le_of_eq gg2.symm))
  have g_b2 : n0 ≤ b2 := Nat.le_trans Z1 (Nat.le_of_eq gg2.symm)
  have sz_b2 : h0.size ≤ b2 := Nat.le_trans K1.1 (Nat.le_of_eq gg2.symm)
  have nl_b2 : NN ≤ b2 := Nat.le_trans hL1.1 (Nat.le_of_eq gg2.symm)
  have hL2 := hL1.ext E2
  have Z2 : n0 ≤ h2.size := Nat.le_trans Z1 E2.1
  have K2 : Keep h0 h2 [] := K1.ext E2
  have O2 : Old Z n0 h2 := O1.ext E2
  have hk2 := Nat.le_trans hk1 E2.1
  have V2 : Arv Z h2 b2 k2 .char (0 : Int32) [] (.int (0 : Int32)) := (Arv.new A2 (by decide)).pad (pad_rep [] (.int (0 : Int32)) 0)
  have f4 : Exa Z h2 b1 "java/lang/String" := (A1.ext E2)
  have f5 : Fld Z h2 b1 "java/lang/String" "value" "[B" .null := (F1_value.ext E2)
  have f6 : Fld Z h2 b1 "java/lang/String" "coder" "B" (.int (0 : Int32)) := (F1_coder.ext E2)
  obtain ⟨_, _, ⟨T3, L3, k3, n3⟩, -, X3q, hS3q, hg3q, ⟨Lc3, hQ3, cl_3, cy_3, cz_3⟩, st3⟩ := X2.specialBackS hx (y := (⟨"java/lang/String", "<init>", "([C)V"⟩ : MethodName)) rfl hown0 (mvT hZ0 (hw _ (List.mem_of_getElem? (i := 12) rfl))) (mvT hZ0 (hw _ (List.mem_of_getElem? (i := 13) rfl))) (mvT hZ0 (hw _ (List.mem_of_getElem? (i := 14) rfl))) (by decide) (own_backV (W := 1) (Pv := fun vm_ => LS Z "java/lang/String" 7 [] vm_ h2 NN) (sinit1 l Z a0 hw [] zCS b1 b2 k2 (.int (0 : Int32)) NN h2 n0 O2 S_CS hCS hcH hcW g_b1  f4 f5 f6 V2) hZ0 (fun vm_ hW_ => LS.warm (s := s) hL2 hW_) (hw _ (List.mem_of_getElem? (i := 14) rfl)) (hw _ (List.mem_of_getElem? (i := 10) rfl)) (by decide) (by decide)) (g := (mkF m 11 #[.val (.int (0 : Int32)), .val (.int x0), .val (.int x1), .val (.int x2), .val (.int x3)] [(.ref b2), (.ref b1), (.ref b1)])) rfl (by rw [hml]; rfl) (Steps.refl _) (a := b1) (argsL := [(.ref b2)]) (rest := [(.ref b1)]) (lenOf pd_1 rfl) rfl (by show 2 * 0 + _ ≤ _; exact Nat.le_of_eq rfl) (hb hby d2_11) (fun _ _ => ⟨rfl, e2, (by decide : 2 + 2 ≤ _), (by decide : 4 + 4 ≤ _)⟩)
  dsimp only [Pt.U, Pt.locs, Pt.cells, Pt.slots] at X3q cl_3 cy_3 cz_3 st3 hQ3 hS3q hg3q
  rw [cl_3, cy_3, cz_3] at X3q
  obtain ⟨X3, hS3, hZ3, hown3⟩ := rebS hS0 (by rw [e2]; exact hk2) X3q hS3q hg3q hZ0 hown0
  have hk3 := Nat.le_refl T3.heap.size
  obtain ⟨b3, kb3, rfl, N3q, K3q, y3_0, y3_1, y3_2, y3_3, hL3⟩ := hQ3
  have N3 := Fr.app N0 N3q
  have Z3 : n0 ≤ T3.heap.size := Nat.le_trans Z2 K3q.1
  have K3 : Keep h0 T3.heap [] := K2.trans K3q (allS (Or.inr sz_b1) all0)
  have O3 : Old Z n0 T3.heap := O2.keep K3q (allS g_b1 all0)
  have ne_b1_b3 : b1 ≠ b3 := y3_0.neArv y3_3 (hw _ (List.mem_of_getElem? (i := 9) rfl))
  have R7 : ∀ t, Steps p.tables e below (T3.setTop (mkF m 14 #[.val (.int (0 : Int32)), .val (.int x0), .val (.int x1), .val (.int x2), .val (.int x3)] [(.ref b1)])) t → Steps p.tables e below (s₁.setTop (entryFrame m #[(.int (0 : Int32)), (.int x0), (.int x1), (.int x2), (.int x3)] 5)) t := by
    intro t k
    refine R0 t ?_
    show Steps p.tables e below (s₁.setTop (mkF m 0 #[.val (.int (0 : Int32)), .val (.int x0), .val (.int x1), .val (.int x2), .val (.int x3)] [])) t
    refine XS.iloadN X0.here hx rfl (hb hby d2_0) rfl ?_
    show Steps p.tables e below (s₁.setTop (mkF m 1 #[.val (.int (0 : Int32)), .val (.int x0), .val (.int x1), .val (.int x2), .val (.int x3)] [(.int (0 : Int32))])) t
    refine XS.ifNo X0.here hx rfl (hb hby d2_1) rfl ((if0 _ _).trans (teq ((by decide) : (0 : Int32) = (0 : Int32))).2) ?_
    show Steps p.tables e below (s₁.setTop (mkF m 4 #[.val (.int (0 : Int32)), .val (.int x0), .val (.int x1), .val (.int x2), .val (.int x3)] [])) t
    refine st1 _ ?_
    show Steps p.tables e below (T1.setTop (mkF m 7 #[.val (.int (0 : Int32)), .val (.int x0), .val (.int x1), .val (.int x2), .val (.int x3)] [(.ref b1)])) t
    refine XS.dup X1.here hx rfl (hb hby d2_7) rfl rfl ?_
    show Steps p.tables e below (T1.setTop (mkF m 8 #[.val (.int (0 : Int32)), .val (.int x0), .val (.int x1), .val (.int x2), .val (.int x3)] [(.ref b1), (.ref b1)])) t
    refine XS.iconst X1.here hx rfl (hb hby d2_8) ?_
    show Steps p.tables e below (T1.setTop (mkF m 9 #[.val (.int (0 : Int32)), .val (.int x0), .val (.int x1), .val (.int x2), .val (.int x3)] [(.int (0 : Int32)), (.ref b1), (.ref b1)])) t
    refine st2 _ ?_
    show Steps p.tables e below (T2.setTop (mkF m 11 #[.val (.int (0 : Int32)), .val (.int x0), .val (.int x1), .val (.int x2), .val (.int x3)] [(.ref b2), (.ref b1), (.ref b1)])) t
    refine st3.trans ?_
    exact k
  obtain ⟨fs, hr, hrun, hended, hRW⟩ := X3.leaveW hS3 hk3 (v := some (.ref b1)) (fun h => by rw [Bd.returns] at h; cases h)
  refine ⟨_, _, R7 _ ?_, hrun, hended, _, _, rfl, ?_, hRW.1, hRW.2.1, hRW.2.2.1, hRW.2.2.2.mono (by decide) (by decide)⟩
  · show Steps p.tables e below (T3.setTop (mkF m 14 #[.val (.int (0 : Int32)), .val (.int x0), .val (.int x1), .val (.int x2), .val (.int x3)] [(.ref b1)])) _
    exact retOut X3 hx Bd.returns rfl (Or.inr (Or.inr (Or.inr (Or.inr ⟨rfl, rfl, rfl⟩)))) (hb hby d2_14) hr
  · show Q_build0 Z zCS x0 x1 x2 x3 h0 n0 _ T3.heap T3.vm _
    exact ⟨b1, b3, kb3, rfl, N3, K3, sz_b1, y3_0, y3_1, y3_2, y3_3, ((LS.warm (s := s) hL3 X3.warmed).up hL3.1 (Nat.le_refl _))⟩
theorem d2_15 : decode method_4_code 15 = .ok (.iload_n 0, 1) := by decide +kernel
theorem d2_16 : decode method_4_code 16 = .ok (.iconst 1, 1) := by decide +kernel
theorem d2_17 : decode method_4_code 17 = .ok (.if_icmp .ne 18, 3) := by decide +kernel
theorem d2_20 : decode method_4_code 20 = .ok (.new 7, 3) := by decide +kernel
theorem d2_23 : decode method_4_code 23 = .ok (.dup, 1) := by decide +kernel
theorem d2_24 : decode method_4_code 24 = .ok (.iconst 1, 1) := by decide +kernel
theorem d2_25 : decode method_4_code 25 = .ok (.newarray .char, 2) := by decide +kernel
theorem d2_27 : decode method_4_code 27 = .ok (.dup, 1) := by decide +kernel
theorem d2_28 : decode method_4_code 28 = .ok (.iconst 0, 1) := by decide +kernel
theorem d2_29 : decode method_4_code 29 = .ok (.iload_n 1, 1) := by decide +kernel
theorem d2_30 : decode method_4_code 30 = .ok (.castore, 1) := by decide +kernel
theorem d2_31 : decode method_4_code 31 = .ok (.invokespecial 9, 3) := by decide +kernel
theorem d2_34 : decode method_4_code 34 = .ok (.areturn, 1) := by decide +kernel
theorem ef_build1 (m : MethodId) (x0 : Int32) (x1 : Int32) (x2 : Int32) (x3 : Int32) : entryFrame m #[(.int (1 : Int32)), (.int x0), (.int x1), (.int x2), (.int x3)] 5 = mkF m 0 #[.val (.int (1 : Int32)), .val (.int x0), .val (.int x1), .val (.int x2), .val (.int x3)] [] := by first | (simp [entryFrame, mkF, argsToLocals, Value.category]; done) | rfl
def Q_build1 (Z : State) (zCS : Int32) (x0 : Int32) (x1 : Int32) (x2 : Int32) (x3 : Int32) (h0 : Heap) (n0 : Nat) (vv_ : Option Value) (hh_ : Heap) (LL_ : List Loc) : Prop := ∃ (b : Addr) (tt : Addr) (kb : ClassId), vv_ = some (.ref b) ∧ (Fr n0 LL_) ∧ (Keep h0 hh_ []) ∧ (h0.size ≤ b) ∧ (Exa Z hh_ b "java/lang/String") ∧ (Fld Z hh_ b "java/lang/String" "coder" "B" (.int (0 : Int32))) ∧ (Fld Z hh_ b "java/lang/String" "value" "[B" (.ref tt)) ∧ (Arv Z hh_ tt kb .byte (1 : Int32) [(.int ((nar .char x0).toInt8.toInt32))] (.int 0))
set_option maxRecDepth 65536 in
set_option maxHeartbeats 40000000 in
theorem build1 (l : Launch) (Z : State) (a0 : Array Value) (hw : ∀ d ∈ tables_1, d.before a0 Z = true) (ws : List Jvm.Cond) (zCS : Int32) (x0 : Int32) (x1 : Int32) (x2 : Int32) (x3 : Int32) (h0 : Heap) (n0 : Nat) (O0 : Old Z n0 h0) (S_CS : Sta Z Z.heap "java/lang/String" "COMPACT_STRINGS" "Z" (.int zCS)) (hCS : ¬ (zCS = (0 : Int32))) (hcH : Jvm.Lit.constHeld Z "java/lang/String" 7) (hcW : Jvm.Lit.compactW.before a0 Z = true) (hx0 : ¬ x0 < 0 ∧ ¬ (255 : Int32) < x0) :
    MetFree l (⟨"com/example/wiring_from_blueprints/wiringfromblueprints/internal/StaticFieldCheckedPinLaw", "build", "(ICCCC)Ljava/lang/String;"⟩ : MethodName) (head1 (Jvm.Cond.code (⟨"com/example/wiring_from_blueprints/wiringfromblueprints/internal/StaticFieldCheckedPinLaw", "build", "(ICCCC)Ljava/lang/String;"⟩ : MethodName) method_4_code 5 (some (.object "java/lang/String")) :: ws) ({ frames := 4, cells := 3, slots := 6, locals := 66 } : Room)) (fun aa_ U_ => aa_ = #[(.int (1 : Int32)), (.int x0), (.int x1), (.int x2), (.int x3)] ∧ Z.Warmed39 U_.vm ∧ U_.heap = h0) (fun _ _ _ _ _ => True) (fun _ U_ oo_ V_ => ∃ vv_ LL_, oo_ = .returned vv_ ∧ Q_build1 Z zCS x0 x1 x2 x3 h0 n0 vv_ V_.heap LL_ ∧ FrameEnd U_ oo_ V_ LL_ ({ frames := 4, cells := 3, slots := 6, locals := 66 } : Room).cells ({ frames := 4, cells := 3, slots := 6, locals := 66 } : Room).slots) := by
  refine MetFree.of_bodySF (plainFor_of_name pn_com_example_wiring_from_blueprints_wiringfromblueprints_internal_StaticFieldCheckedPinLaw) hisR ?_
  intro p e s m args below meth c s₁ Bd hml0 hP hK
  obtain ⟨rfl, hZ, hh⟩ := hP
  have hx := Bd.exec
  have hby := Bd.bytes
  have hml : c.maxLocals = 5 := hml0
  have hown : s.vm.findClass "com/example/wiring_from_blueprints/wiringfromblueprints/internal/StaticFieldCheckedPinLaw" = some m.cls := findClass_of_methodNamed Bd.named
  have hnm := (name_of_methodNamed Bd.named Bd.method).1
  have X0 : Stand p l e ({ frames := 4, cells := 3, slots := 6, locals := 66 } : Room) s m #[(.int (1 : Int32)), (.int x0), (.int x1), (.int x2), (.int x3)] below meth c s₁ [] 0 0 := Stand.of_body Bd
  have e0 : s₁.heap = h0 := by rw [← hh, Bd.state]; rfl
  have N0 := Fr.nil n0
  have Z0 : n0 ≤ h0.size := O0.1 ▸ O0.2.1
  have hk0 := Nat.zero_le h0.size
  have K0 : Keep h0 h0 [] := Keep.refl _ _
  have R0 : ∀ t, Steps p.tables e below (s₁.setTop (mkF m 0 #[.val (.int (1 : Int32)), .val (.int x0), .val (.int x1), .val (.int x2), .val (.int x3)] [])) t → Steps p.tables e below (s₁.setTop (entryFrame m #[(.int (1 : Int32)), (.int x0), (.int x1), (.int x2), (.int x3)] 5)) t := fun t k => castTop (ef_build1 m x0 x1 x2 x3) k
  obtain ⟨T1, h1, X1, e1, E1, A1, D1, -, st1⟩ := newO X0 hx hZ hown (hw _ (List.mem_of_getElem? (i := 8) rfl)) (hw _ (List.mem_of_getElem? (i := 9) rfl)) (hw _ (List.mem_of_getElem? (i := 10) rfl)) e0 (g := (mkF m 20 #[.val (.int (1 : Int32)), .val (.int x0), .val (.int x1), .val (.int x2), .val (.int x3)] [])) rfl (hb hby d2_20) (by decide) (by decide)
  obtain ⟨b1, gg1⟩ : ∃ z, z = h0.size := ⟨_, rfl⟩
  rw [← gg1] at A1 D1 st1
  have g_b1 : n0 ≤ b1 := Nat.le_trans Z0 (Nat.le_of_eq gg1.symm)
  have sz_b1 : h0.size ≤ b1 := Nat.le_trans K0.1 (Nat.le_of_eq gg1.symm)
  have Z1 : n0 ≤ h1.size := Nat.le_trans Z0 E1.1
  have K1 : Keep h0 h1 [] := K0.ext E1
  have O1 : Old Z n0 h1 := O0.ext E1
  have F1_value : Fld Z h1 b1 "java/lang/String" "value" "[B" .null := D1 (Or.inr (hw _ (List.mem_of_getElem? (i := 24) rfl))) (ty := (.array .byte)) (by decide)
  have F1_coder : Fld Z h1 b1 "java/lang/String" "coder" "B" (.int (0 : Int32)) := D1 (Or.inr (hw _ (List.mem_of_getElem? (i := 25) rfl))) (ty := .byte) (by decide)
  obtain ⟨T2, h2, k2, X2, e2, E2, A2, st2⟩ := newP X1 hx hZ (hw _ (List.mem_of_getElem? (i := 11) rfl)) e1 (g := (mkF m 25 #[.val (.int (1 : Int32)), .val (.int x0), .val (.int x1), .val (.int x2), .val (.int x3)] [(.int (1 : Int32)), (.ref b1), (.ref b1)])) rfl (hb hby d2_25) rfl (by decide) (cap := 1) (by decide) (by decide) (by decide) (by decide)
  obtain ⟨b2, gg2⟩ : ∃ z, z = h1.size := ⟨_, rfl⟩
  rw [← gg2] at A2 st2
  have ne_b1_b2 : b1 ≠ b2 := Nat.ne_of_lt (Nat.lt_of_lt_of_le A1.lt (Nat.le_of_eq gg2.symm))
  have g_b2 : n0 ≤ b2 := Nat.le_trans Z1 (Nat.le_of_eq gg2.symm)
  have sz_b2 : h0.size ≤ b2 := Nat.le_trans K1.1 (Nat.le_of_eq gg2.symm)
  have Z2 : n0 ≤ h2.size := Nat.le_trans Z1 E2.1
  have K2 : Keep h0 h2 [] := K1.ext E2
  have O2 : Old Z n0 h2 := O1.ext E2
  have V2 : Arv Z h2 b2 k2 .char (1 : Int32) [(.int (0 : Int32))] (.int (0 : Int32)) := (Arv.new A2 (by decide)).pad (pad_rep [] (.int (0 : Int32)) 1)
  obtain ⟨cl3, Ar3, q3, S3, M3, H3, G3⟩ := id V2
  have in3 : ¬ ((0 : Int32) < 0 ∨ cl3.slots.size ≤ ((0 : Int32)).toNatClampNeg) := inb_of S3 ⟨by decide, by decide⟩
  obtain ⟨T3, h3, X3, e3, W3, st3⟩ := stC X2 hx hZ e2 Ar3 (j := (0 : Int32)) in3 (g := (mkF m 30 #[.val (.int (1 : Int32)), .val (.int x0), .val (.int x1), .val (.int x2), .val (.int x3)] [(.int x0), (.int (0 : Int32)), (.ref b2), (.ref b2), (.ref b1), (.ref b1)])) rfl rfl (hb hby d2_30)
  have Z3 : n0 ≤ h3.size := Nat.le_trans Z2 (Keep.of_wr W3).1
  have K3 : Keep h0 h3 [] := K2.wr W3 (Or.inr sz_b2)
  have O3 : Old Z n0 h3 := O2.wr W3 g_b2
  have N3 := Fr.snoc X3 N0 g_b2
  have V3 : Arv Z h3 b2 k2 .char (1 : Int32) [(.int (nar .char x0))] (.int (0 : Int32)) := Arv.set Ar3 q3 S3 M3 H3 G3 (fits_nar_char _) W3 0 rfl (Nat.le_of_ble_eq_true rfl)
  have f5 : Exa Z h3 b1 "java/lang/String" := ((A1.ext E2).wr W3)
  have f6 : Fld Z h3 b1 "java/lang/String" "value" "[B" .null := ((F1_value.ext E2).other W3 (Or.inl ne_b1_b2))
  have f7 : Fld Z h3 b1 "java/lang/String" "coder" "B" (.int (0 : Int32)) := ((F1_coder.ext E2).other W3 (Or.inl ne_b1_b2))
  have hp4 : ∀ c ∈ ([nar .char x0] : List Int32), ¬ c < 0 ∧ ¬ (255 : Int32) < c := (own_p1 (own_cb hx0))
  obtain ⟨_, _, ⟨T4, L4, k4, n4⟩, -, X4, ⟨Lc4, hQ4, cl_4, cy_4, cz_4⟩, st4⟩ := X3.specialBack hx (y := (⟨"java/lang/String", "<init>", "([C)V"⟩ : MethodName)) rfl hown (mvT hZ (hw _ (List.mem_of_getElem? (i := 12) rfl))) (mvT hZ (hw _ (List.mem_of_getElem? (i := 13) rfl))) (mvT hZ (hw _ (List.mem_of_getElem? (i := 14) rfl))) (by decide) (StrChars.Road.backV (W := 1) hZ (own_words hw) (kI := 4) (hw _ (List.mem_of_getElem? (i := 9) rfl)) (cs := ([nar .char x0] : List Int32)) (bs := ([nar .char x0] : List Int32).map (fun c => c.toInt8.toInt32)) (n := 1) g_b1 Z3 f5 f6 f7 V3 (S_CS.ext O3.2) hCS rfl rfl (by decide) (by decide) hp4 rfl (by decide) (by decide)) (g := (mkF m 31 #[.val (.int (1 : Int32)), .val (.int x0), .val (.int x1), .val (.int x2), .val (.int x3)] [(.ref b2), (.ref b1), (.ref b1)])) rfl (by rw [hml]; rfl) (Steps.refl _) (a := b1) (argsL := [(.ref b2)]) (rest := [(.ref b1)]) (lenOf pd_1 rfl) rfl (by show 2 * 0 + _ ≤ _; exact Nat.le_of_eq rfl) (hb hby d2_31) (fun _ _ => ⟨rfl, e3, (by decide : 2 + 1 ≤ _), (by decide : 5 + 1 ≤ _)⟩)
  dsimp only [Pt.U, Pt.locs, Pt.cells, Pt.slots] at X4 cl_4 cy_4 cz_4 st4 hQ4
  rw [cl_4, cy_4, cz_4] at X4
  obtain ⟨rfl, N4q, K4q, Es4, Cs4, t4, kb4, gt4, szt4, net4, Vs4, As4⟩ := hQ4
  have N4 := Fr.app N3 N4q
  have ne_b1_t4 : b1 ≠ t4 := Nat.ne_of_lt (Nat.lt_of_lt_of_le f5.lt szt4)
  have ne_b2_t4 : b2 ≠ t4 := Nat.ne_of_lt (Nat.lt_of_lt_of_le V3.lt szt4)
  have g_t4 : n0 ≤ t4 := Nat.le_trans Z3 szt4
  have sz_t4 : h0.size ≤ t4 := Nat.le_trans K3.1 szt4
  have Z4 : n0 ≤ T4.heap.size := Nat.le_trans Z3 K4q.1
  have K4 : Keep h0 T4.heap [] := K3.trans K4q (allS (Or.inr sz_b1) all0)
  have O4 : Old Z n0 T4.heap := O3.keep K4q (allS g_b1 all0)
  have Vl : Arv Z T4.heap t4 kb4 .byte (1 : Int32) [(.int ((nar .char x0).toInt8.toInt32))] (.int 0) := As4
  have R8 : ∀ t, Steps p.tables e below (T4.setTop (mkF m 34 #[.val (.int (1 : Int32)), .val (.int x0), .val (.int x1), .val (.int x2), .val (.int x3)] [(.ref b1)])) t → Steps p.tables e below (s₁.setTop (entryFrame m #[(.int (1 : Int32)), (.int x0), (.int x1), (.int x2), (.int x3)] 5)) t := by
    intro t k
    refine R0 t ?_
    show Steps p.tables e below (s₁.setTop (mkF m 0 #[.val (.int (1 : Int32)), .val (.int x0), .val (.int x1), .val (.int x2), .val (.int x3)] [])) t
    refine XS.iloadN X0.here hx rfl (hb hby d2_0) rfl ?_
    show Steps p.tables e below (s₁.setTop (mkF m 1 #[.val (.int (1 : Int32)), .val (.int x0), .val (.int x1), .val (.int x2), .val (.int x3)] [(.int (1 : Int32))])) t
    refine XS.ifYes X0.here hx rfl (pc0 := 1) (pc' := 15) rfl (hb hby d2_1) rfl ((if0 _ _).trans (feq ((by decide) : ¬ ((1 : Int32) = (0 : Int32)))).2) (by decide) (by decide) ?_
    show Steps p.tables e below (s₁.setTop (mkF m 15 #[.val (.int (1 : Int32)), .val (.int x0), .val (.int x1), .val (.int x2), .val (.int x3)] [])) t
    refine XS.iloadN X0.here hx rfl (hb hby d2_15) rfl ?_
    show Steps p.tables e below (s₁.setTop (mkF m 16 #[.val (.int (1 : Int32)), .val (.int x0), .val (.int x1), .val (.int x2), .val (.int x3)] [(.int (1 : Int32))])) t
    refine XS.iconst X0.here hx rfl (hb hby d2_16) ?_
    show Steps p.tables e below (s₁.setTop (mkF m 17 #[.val (.int (1 : Int32)), .val (.int x0), .val (.int x1), .val (.int x2), .val (.int x3)] [(.int (1 : Int32)), (.int (1 : Int32))])) t
    refine XS.icmpNo X0.here hx rfl (hb hby d2_17) rfl (teq ((by decide) : (1 : Int32) = (1 : Int32))).2 ?_
    show Steps p.tables e below (s₁.setTop (mkF m 20 #[.val (.int (1 : Int32)), .val (.int x0), .val (.int x1), .val (.int x2), .val (.int x3)] [])) t
    refine st1 _ ?_
    show Steps p.tables e below (T1.setTop (mkF m 23 #[.val (.int (1 : Int32)), .val (.int x0), .val (.int x1), .val (.int x2), .val (.int x3)] [(.ref b1)])) t
    refine XS.dup X1.here hx rfl (hb hby d2_23) rfl rfl ?_
    show Steps p.tables e below (T1.setTop (mkF m 24 #[.val (.int (1 : Int32)), .val (.int x0), .val (.int x1), .val (.int x2), .val (.int x3)] [(.ref b1), (.ref b1)])) t
    refine XS.iconst X1.here hx rfl (hb hby d2_24) ?_
    show Steps p.tables e below (T1.setTop (mkF m 25 #[.val (.int (1 : Int32)), .val (.int x0), .val (.int x1), .val (.int x2), .val (.int x3)] [(.int (1 : Int32)), (.ref b1), (.ref b1)])) t
    refine st2 _ ?_
    show Steps p.tables e below (T2.setTop (mkF m 27 #[.val (.int (1 : Int32)), .val (.int x0), .val (.int x1), .val (.int x2), .val (.int x3)] [(.ref b2), (.ref b1), (.ref b1)])) t
    refine XS.dup X2.here hx rfl (hb hby d2_27) rfl rfl ?_
    show Steps p.tables e below (T2.setTop (mkF m 28 #[.val (.int (1 : Int32)), .val (.int x0), .val (.int x1), .val (.int x2), .val (.int x3)] [(.ref b2), (.ref b2), (.ref b1), (.ref b1)])) t
    refine XS.iconst X2.here hx rfl (hb hby d2_28) ?_
    show Steps p.tables e below (T2.setTop (mkF m 29 #[.val (.int (1 : Int32)), .val (.int x0), .val (.int x1), .val (.int x2), .val (.int x3)] [(.int (0 : Int32)), (.ref b2), (.ref b2), (.ref b1), (.ref b1)])) t
    refine XS.iloadN X2.here hx rfl (hb hby d2_29) rfl ?_
    show Steps p.tables e below (T2.setTop (mkF m 30 #[.val (.int (1 : Int32)), .val (.int x0), .val (.int x1), .val (.int x2), .val (.int x3)] [(.int x0), (.int (0 : Int32)), (.ref b2), (.ref b2), (.ref b1), (.ref b1)])) t
    refine st3 _ ?_
    show Steps p.tables e below (T3.setTop (mkF m 31 #[.val (.int (1 : Int32)), .val (.int x0), .val (.int x1), .val (.int x2), .val (.int x3)] [(.ref b2), (.ref b1), (.ref b1)])) t
    refine st4.trans ?_
    exact k
  obtain ⟨fs, hr, hrun, hended, hW, hsame⟩ := X4.leave (v := some (.ref b1)) (fun h => by rw [Bd.returns] at h; cases h)
  refine ⟨_, _, R8 _ ?_, hrun, hended, _, _, rfl, ?_, ⟨_, rfl⟩, hW, hsame.mono (by decide) (by decide)⟩
  · show Steps p.tables e below (T4.setTop (mkF m 34 #[.val (.int (1 : Int32)), .val (.int x0), .val (.int x1), .val (.int x2), .val (.int x3)] [(.ref b1)])) _
    exact retOut X4 hx Bd.returns rfl (Or.inr (Or.inr (Or.inr (Or.inr ⟨rfl, rfl, rfl⟩)))) (hb hby d2_34) hr
  · show Q_build1 Z zCS x0 x1 x2 x3 h0 n0 _ T4.heap _
    exact ⟨b1, t4, kb4, rfl, N4, K4, sz_b1, Es4, Cs4, Vs4, Vl⟩
theorem d2_35 : decode method_4_code 35 = .ok (.iload_n 0, 1) := by decide +kernel
theorem d2_36 : decode method_4_code 36 = .ok (.iconst 2, 1) := by decide +kernel
theorem d2_37 : decode method_4_code 37 = .ok (.if_icmp .ne 22, 3) := by decide +kernel
theorem d2_40 : decode method_4_code 40 = .ok (.new 7, 3) := by decide +kernel
theorem d2_43 : decode method_4_code 43 = .ok (.dup, 1) := by decide +kernel
theorem d2_44 : decode method_4_code 44 = .ok (.iconst 2, 1) := by decide +kernel
theorem d2_45 : decode method_4_code 45 = .ok (.newarray .char, 2) := by decide +kernel
theorem d2_47 : decode method_4_code 47 = .ok (.dup, 1) := by decide +kernel
theorem d2_48 : decode method_4_code 48 = .ok (.iconst 0, 1) := by decide +kernel
theorem d2_49 : decode method_4_code 49 = .ok (.iload_n 1, 1) := by decide +kernel
theorem d2_50 : decode method_4_code 50 = .ok (.castore, 1) := by decide +kernel
theorem d2_51 : decode method_4_code 51 = .ok (.dup, 1) := by decide +kernel
theorem d2_52 : decode method_4_code 52 = .ok (.iconst 1, 1) := by decide +kernel
theorem d2_53 : decode method_4_code 53 = .ok (.iload_n 2, 1) := by decide +kernel
theorem d2_54 : decode method_4_code 54 = .ok (.castore, 1) := by decide +kernel
theorem d2_55 : decode method_4_code 55 = .ok (.invokespecial 9, 3) := by decide +kernel
theorem d2_58 : decode method_4_code 58 = .ok (.areturn, 1) := by decide +kernel
theorem ef_build2 (m : MethodId) (x0 : Int32) (x1 : Int32) (x2 : Int32) (x3 : Int32) : entryFrame m #[(.int (2 : Int32)), (.int x0), (.int x1), (.int x2), (.int x3)] 5 = mkF m 0 #[.val (.int (2 : Int32)), .val (.int x0), .val (.int x1), .val (.int x2), .val (.int x3)] [] := by first | (simp [entryFrame, mkF, argsToLocals, Value.category]; done) | rfl
def Q_build2 (Z : State) (zCS : Int32) (x0 : Int32) (x1 : Int32) (x2 : Int32) (x3 : Int32) (h0 : Heap) (n0 : Nat) (vv_ : Option Value) (hh_ : Heap) (LL_ : List Loc) : Prop := ∃ (b : Addr) (tt : Addr) (kb : ClassId), vv_ = some (.ref b) ∧ (Fr n0 LL_) ∧ (Keep h0 hh_ []) ∧ (h0.size ≤ b) ∧ (Exa Z hh_ b "java/lang/String") ∧ (Fld Z hh_ b "java/lang/String" "coder" "B" (.int (0 : Int32))) ∧ (Fld Z hh_ b "java/lang/String" "value" "[B" (.ref tt)) ∧ (Arv Z hh_ tt kb .byte (2 : Int32) [(.int ((nar .char x0).toInt8.toInt32)), (.int ((nar .char x1).toInt8.toInt32))] (.int 0))
set_option maxRecDepth 65536 in
set_option maxHeartbeats 40000000 in
theorem build2 (l : Launch) (Z : State) (a0 : Array Value) (hw : ∀ d ∈ tables_1, d.before a0 Z = true) (ws : List Jvm.Cond) (zCS : Int32) (x0 : Int32) (x1 : Int32) (x2 : Int32) (x3 : Int32) (h0 : Heap) (n0 : Nat) (O0 : Old Z n0 h0) (S_CS : Sta Z Z.heap "java/lang/String" "COMPACT_STRINGS" "Z" (.int zCS)) (hCS : ¬ (zCS = (0 : Int32))) (hcH : Jvm.Lit.constHeld Z "java/lang/String" 7) (hcW : Jvm.Lit.compactW.before a0 Z = true) (hx0 : ¬ x0 < 0 ∧ ¬ (255 : Int32) < x0) (hx1 : ¬ x1 < 0 ∧ ¬ (255 : Int32) < x1) :
    MetFree l (⟨"com/example/wiring_from_blueprints/wiringfromblueprints/internal/StaticFieldCheckedPinLaw", "build", "(ICCCC)Ljava/lang/String;"⟩ : MethodName) (head1 (Jvm.Cond.code (⟨"com/example/wiring_from_blueprints/wiringfromblueprints/internal/StaticFieldCheckedPinLaw", "build", "(ICCCC)Ljava/lang/String;"⟩ : MethodName) method_4_code 5 (some (.object "java/lang/String")) :: ws) ({ frames := 4, cells := 3, slots := 8, locals := 66 } : Room)) (fun aa_ U_ => aa_ = #[(.int (2 : Int32)), (.int x0), (.int x1), (.int x2), (.int x3)] ∧ Z.Warmed39 U_.vm ∧ U_.heap = h0) (fun _ _ _ _ _ => True) (fun _ U_ oo_ V_ => ∃ vv_ LL_, oo_ = .returned vv_ ∧ Q_build2 Z zCS x0 x1 x2 x3 h0 n0 vv_ V_.heap LL_ ∧ FrameEnd U_ oo_ V_ LL_ ({ frames := 4, cells := 3, slots := 8, locals := 66 } : Room).cells ({ frames := 4, cells := 3, slots := 8, locals := 66 } : Room).slots) := by
  refine MetFree.of_bodySF (plainFor_of_name pn_com_example_wiring_from_blueprints_wiringfromblueprints_internal_StaticFieldCheckedPinLaw) hisR ?_
  intro p e s m args below meth c s₁ Bd hml0 hP hK
  obtain ⟨rfl, hZ, hh⟩ := hP
  have hx := Bd.exec
  have hby := Bd.bytes
  have hml : c.maxLocals = 5 := hml0
  have hown : s.vm.findClass "com/example/wiring_from_blueprints/wiringfromblueprints/internal/StaticFieldCheckedPinLaw" = some m.cls := findClass_of_methodNamed Bd.named
  have hnm := (name_of_methodNamed Bd.named Bd.method).1
  have X0 : Stand p l e ({ frames := 4, cells := 3, slots := 8, locals := 66 } : Room) s m #[(.int (2 : Int32)), (.int x0), (.int x1), (.int x2), (.int x3)] below meth c s₁ [] 0 0 := Stand.of_body Bd
  have e0 : s₁.heap = h0 := by rw [← hh, Bd.state]; rfl
  have N0 := Fr.nil n0
  have Z0 : n0 ≤ h0.size := O0.1 ▸ O0.2.1
  have hk0 := Nat.zero_le h0.size
  have K0 : Keep h0 h0 [] := Keep.refl _ _
  have R0 : ∀ t, Steps p.tables e below (s₁.setTop (mkF m 0 #[.val (.int (2 : Int32)), .val (.int x0), .val (.int x1), .val (.int x2), .val (.int x3)] [])) t → Steps p.tables e below (s₁.setTop (entryFrame m #[(.int (2 : Int32)), (.int x0), (.int x1), (.int x2), (.int x3)] 5)) t := fun t k => castTop (ef_build2 m x0 x1 x2 x3) k
  obtain ⟨T1, h1, X1, e1, E1, A1, D1, -, st1⟩ := newO X0 hx hZ hown (hw _ (List.mem_of_getElem? (i := 8) rfl)) (hw _ (List.mem_of_getElem? (i := 9) rfl)) (hw _ (List.mem_of_getElem? (i := 10) rfl)) e0 (g := (mkF m 40 #[.val (.int (2 : Int32)), .val (.int x0), .val (.int x1), .val (.int x2), .val (.int x3)] [])) rfl (hb hby d2_40) (by decide) (by decide)
  obtain ⟨b1, gg1⟩ : ∃ z, z = h0.size := ⟨_, rfl⟩
  rw [← gg1] at A1 D1 st1
  have g_b1 : n0 ≤ b1 := Nat.le_trans Z0 (Nat.le_of_eq gg1.symm)
  have sz_b1 : h0.size ≤ b1 := Nat.le_trans K0.1 (Nat.le_of_eq gg1.symm)
  have Z1 : n0 ≤ h1.size := Nat.le_trans Z0 E1.1
  have K1 : Keep h0 h1 [] := K0.ext E1
  have O1 : Old Z n0 h1 := O0.ext E1
  have F1_value : Fld Z h1 b1 "java/lang/String" "value" "[B" .null := D1 (Or.inr (hw _ (List.mem_of_getElem? (i := 24) rfl))) (ty := (.array .byte)) (by decide)
  have F1_coder : Fld Z h1 b1 "java/lang/String" "coder" "B" (.int (0 : Int32)) := D1 (Or.inr (hw _ (List.mem_of_getElem? (i := 25) rfl))) (ty := .byte) (by decide)
  obtain ⟨T2, h2, k2, X2, e2, E2, A2, st2⟩ := newP X1 hx hZ (hw _ (List.mem_of_getElem? (i := 11) rfl)) e1 (g := (mkF m 45 #[.val (.int (2 : Int32)), .val (.int x0), .val (.int x1), .val (.int x2), .val (.int x3)] [(.int (2 : Int32)), (.ref b1), (.ref b1)])) rfl (hb hby d2_45) rfl (by decide) (cap := 2) (by decide) (by decide) (by decide) (by decide)
  obtain ⟨b2, gg2⟩ : ∃ z, z = h1.size := ⟨_, rfl⟩
  rw [← gg2] at A2 st2
  have ne_b1_b2 : b1 ≠ b2 := Nat.ne_of_lt (Nat.lt_of_lt_of_le A1.lt (Nat.le_of_eq gg2.symm))
  have g_b2 : n0 ≤ b2 := Nat.le_trans Z1 (Nat.le_of_eq gg2.symm)
  have sz_b2 : h0.size ≤ b2 := Nat.le_trans K1.1 (Nat.le_of_eq gg2.symm)
  have Z2 : n0 ≤ h2.size := Nat.le_trans Z1 E2.1
  have K2 : Keep h0 h2 [] := K1.ext E2
  have O2 : Old Z n0 h2 := O1.ext E2
  have V2 : Arv Z h2 b2 k2 .char (2 : Int32) [(.int (0 : Int32)), (.int (0 : Int32))] (.int (0 : Int32)) := (Arv.new A2 (by decide)).pad (pad_rep [] (.int (0 : Int32)) 2)
  obtain ⟨cl3, Ar3, q3, S3, M3, H3, G3⟩ := id V2
  have in3 : ¬ ((0 : Int32) < 0 ∨ cl3.slots.size ≤ ((0 : Int32)).toNatClampNeg) := inb_of S3 ⟨by decide, by decide⟩
  obtain ⟨T3, h3, X3, e3, W3, st3⟩ := stC X2 hx hZ e2 Ar3 (j := (0 : Int32)) in3 (g := (mkF m 50 #[.val (.int (2 : Int32)), .val (.int x0), .val (.int x1), .val (.int x2), .val (.int x3)] [(.int x0), (.int (0 : Int32)), (.ref b2), (.ref b2), (.ref b1), (.ref b1)])) rfl rfl (hb hby d2_50)
  have Z3 : n0 ≤ h3.size := Nat.le_trans Z2 (Keep.of_wr W3).1
  have K3 : Keep h0 h3 [] := K2.wr W3 (Or.inr sz_b2)
  have O3 : Old Z n0 h3 := O2.wr W3 g_b2
  have N3 := Fr.snoc X3 N0 g_b2
  have V3 : Arv Z h3 b2 k2 .char (2 : Int32) [(.int (nar .char x0)), (.int (0 : Int32))] (.int (0 : Int32)) := Arv.set Ar3 q3 S3 M3 H3 G3 (fits_nar_char _) W3 0 rfl (Nat.le_of_ble_eq_true rfl)
  obtain ⟨cl4, Ar4, q4, S4, M4, H4, G4⟩ := id V3
  have in4 : ¬ ((1 : Int32) < 0 ∨ cl4.slots.size ≤ ((1 : Int32)).toNatClampNeg) := inb_of S4 ⟨by decide, by decide⟩
  obtain ⟨T4, h4, X4, e4, W4, st4⟩ := stC X3 hx hZ e3 Ar4 (j := (1 : Int32)) in4 (g := (mkF m 54 #[.val (.int (2 : Int32)), .val (.int x0), .val (.int x1), .val (.int x2), .val (.int x3)] [(.int x1), (.int (1 : Int32)), (.ref b2), (.ref b2), (.ref b1), (.ref b1)])) rfl rfl (hb hby d2_54)
  have Z4 : n0 ≤ h4.size := Nat.le_trans Z3 (Keep.of_wr W4).1
  have K4 : Keep h0 h4 [] := K3.wr W4 (Or.inr sz_b2)
  have O4 : Old Z n0 h4 := O3.wr W4 g_b2
  have N4 := Fr.snoc X4 N3 g_b2
  have V4 : Arv Z h4 b2 k2 .char (2 : Int32) [(.int (nar .char x0)), (.int (nar .char x1))] (.int (0 : Int32)) := Arv.set Ar4 q4 S4 M4 H4 G4 (fits_nar_char _) W4 1 rfl (Nat.le_of_ble_eq_true rfl)
  have f6 : Exa Z h4 b1 "java/lang/String" := (((A1.ext E2).wr W3).wr W4)
  have f7 : Fld Z h4 b1 "java/lang/String" "value" "[B" .null := (((F1_value.ext E2).other W3 (Or.inl ne_b1_b2)).other W4 (Or.inl ne_b1_b2))
  have f8 : Fld Z h4 b1 "java/lang/String" "coder" "B" (.int (0 : Int32)) := (((F1_coder.ext E2).other W3 (Or.inl ne_b1_b2)).other W4 (Or.inl ne_b1_b2))
  have hp5 : ∀ c ∈ ([nar .char x0, nar .char x1] : List Int32), ¬ c < 0 ∧ ¬ (255 : Int32) < c := (own_p2 (own_cb hx0) (own_p1 (own_cb hx1)))
  obtain ⟨_, _, ⟨T5, L5, k5, n5⟩, -, X5, ⟨Lc5, hQ5, cl_5, cy_5, cz_5⟩, st5⟩ := X4.specialBack hx (y := (⟨"java/lang/String", "<init>", "([C)V"⟩ : MethodName)) rfl hown (mvT hZ (hw _ (List.mem_of_getElem? (i := 12) rfl))) (mvT hZ (hw _ (List.mem_of_getElem? (i := 13) rfl))) (mvT hZ (hw _ (List.mem_of_getElem? (i := 14) rfl))) (by decide) (StrChars.Road.backV (W := 1) hZ (own_words hw) (kI := 4) (hw _ (List.mem_of_getElem? (i := 9) rfl)) (cs := ([nar .char x0, nar .char x1] : List Int32)) (bs := ([nar .char x0, nar .char x1] : List Int32).map (fun c => c.toInt8.toInt32)) (n := 2) g_b1 Z4 f6 f7 f8 V4 (S_CS.ext O4.2) hCS rfl rfl (by decide) (by decide) hp5 rfl (by decide) (by decide)) (g := (mkF m 55 #[.val (.int (2 : Int32)), .val (.int x0), .val (.int x1), .val (.int x2), .val (.int x3)] [(.ref b2), (.ref b1), (.ref b1)])) rfl (by rw [hml]; rfl) (Steps.refl _) (a := b1) (argsL := [(.ref b2)]) (rest := [(.ref b1)]) (lenOf pd_1 rfl) rfl (by show 2 * 0 + _ ≤ _; exact Nat.le_of_eq rfl) (hb hby d2_55) (fun _ _ => ⟨rfl, e4, (by decide : 2 + 1 ≤ _), (by decide : 6 + 2 ≤ _)⟩)
  dsimp only [Pt.U, Pt.locs, Pt.cells, Pt.slots] at X5 cl_5 cy_5 cz_5 st5 hQ5
  rw [cl_5, cy_5, cz_5] at X5
  obtain ⟨rfl, N5q, K5q, Es5, Cs5, t5, kb5, gt5, szt5, net5, Vs5, As5⟩ := hQ5
  have N5 := Fr.app N4 N5q
  have ne_b1_t5 : b1 ≠ t5 := Nat.ne_of_lt (Nat.lt_of_lt_of_le f6.lt szt5)
  have ne_b2_t5 : b2 ≠ t5 := Nat.ne_of_lt (Nat.lt_of_lt_of_le V4.lt szt5)
  have g_t5 : n0 ≤ t5 := Nat.le_trans Z4 szt5
  have sz_t5 : h0.size ≤ t5 := Nat.le_trans K4.1 szt5
  have Z5 : n0 ≤ T5.heap.size := Nat.le_trans Z4 K5q.1
  have K5 : Keep h0 T5.heap [] := K4.trans K5q (allS (Or.inr sz_b1) all0)
  have O5 : Old Z n0 T5.heap := O4.keep K5q (allS g_b1 all0)
  have Vl : Arv Z T5.heap t5 kb5 .byte (2 : Int32) [(.int ((nar .char x0).toInt8.toInt32)), (.int ((nar .char x1).toInt8.toInt32))] (.int 0) := As5
  have R9 : ∀ t, Steps p.tables e below (T5.setTop (mkF m 58 #[.val (.int (2 : Int32)), .val (.int x0), .val (.int x1), .val (.int x2), .val (.int x3)] [(.ref b1)])) t → Steps p.tables e below (s₁.setTop (entryFrame m #[(.int (2 : Int32)), (.int x0), (.int x1), (.int x2), (.int x3)] 5)) t := by
    intro t k
    refine R0 t ?_
    show Steps p.tables e below (s₁.setTop (mkF m 0 #[.val (.int (2 : Int32)), .val (.int x0), .val (.int x1), .val (.int x2), .val (.int x3)] [])) t
    refine XS.iloadN X0.here hx rfl (hb hby d2_0) rfl ?_
    show Steps p.tables e below (s₁.setTop (mkF m 1 #[.val (.int (2 : Int32)), .val (.int x0), .val (.int x1), .val (.int x2), .val (.int x3)] [(.int (2 : Int32))])) t
    refine XS.ifYes X0.here hx rfl (pc0 := 1) (pc' := 15) rfl (hb hby d2_1) rfl ((if0 _ _).trans (feq ((by decide) : ¬ ((2 : Int32) = (0 : Int32)))).2) (by decide) (by decide) ?_
    show Steps p.tables e below (s₁.setTop (mkF m 15 #[.val (.int (2 : Int32)), .val (.int x0), .val (.int x1), .val (.int x2), .val (.int x3)] [])) t
    refine XS.iloadN X0.here hx rfl (hb hby d2_15) rfl ?_
    show Steps p.tables e below (s₁.setTop (mkF m 16 #[.val (.int (2 : Int32)), .val (.int x0), .val (.int x1), .val (.int x2), .val (.int x3)] [(.int (2 : Int32))])) t
    refine XS.iconst X0.here hx rfl (hb hby d2_16) ?_
    show Steps p.tables e below (s₁.setTop (mkF m 17 #[.val (.int (2 : Int32)), .val (.int x0), .val (.int x1), .val (.int x2), .val (.int x3)] [(.int (1 : Int32)), (.int (2 : Int32))])) t
    refine XS.icmpYes X0.here hx rfl (pc0 := 17) (pc' := 35) rfl (hb hby d2_17) rfl (feq ((by decide) : ¬ ((2 : Int32) = (1 : Int32)))).2 (by decide) (by decide) ?_
    show Steps p.tables e below (s₁.setTop (mkF m 35 #[.val (.int (2 : Int32)), .val (.int x0), .val (.int x1), .val (.int x2), .val (.int x3)] [])) t
    refine XS.iloadN X0.here hx rfl (hb hby d2_35) rfl ?_
    show Steps p.tables e below (s₁.setTop (mkF m 36 #[.val (.int (2 : Int32)), .val (.int x0), .val (.int x1), .val (.int x2), .val (.int x3)] [(.int (2 : Int32))])) t
    refine XS.iconst X0.here hx rfl (hb hby d2_36) ?_
    show Steps p.tables e below (s₁.setTop (mkF m 37 #[.val (.int (2 : Int32)), .val (.int x0), .val (.int x1), .val (.int x2), .val (.int x3)] [(.int (2 : Int32)), (.int (2 : Int32))])) t
    refine XS.icmpNo X0.here hx rfl (hb hby d2_37) rfl (teq ((by decide) : (2 : Int32) = (2 : Int32))).2 ?_
    show Steps p.tables e below (s₁.setTop (mkF m 40 #[.val (.int (2 : Int32)), .val (.int x0), .val (.int x1), .val (.int x2), .val (.int x3)] [])) t
    refine st1 _ ?_
    show Steps p.tables e below (T1.setTop (mkF m 43 #[.val (.int (2 : Int32)), .val (.int x0), .val (.int x1), .val (.int x2), .val (.int x3)] [(.ref b1)])) t
    refine XS.dup X1.here hx rfl (hb hby d2_43) rfl rfl ?_
    show Steps p.tables e below (T1.setTop (mkF m 44 #[.val (.int (2 : Int32)), .val (.int x0), .val (.int x1), .val (.int x2), .val (.int x3)] [(.ref b1), (.ref b1)])) t
    refine XS.iconst X1.here hx rfl (hb hby d2_44) ?_
    show Steps p.tables e below (T1.setTop (mkF m 45 #[.val (.int (2 : Int32)), .val (.int x0), .val (.int x1), .val (.int x2), .val (.int x3)] [(.int (2 : Int32)), (.ref b1), (.ref b1)])) t
    refine st2 _ ?_
    show Steps p.tables e below (T2.setTop (mkF m 47 #[.val (.int (2 : Int32)), .val (.int x0), .val (.int x1), .val (.int x2), .val (.int x3)] [(.ref b2), (.ref b1), (.ref b1)])) t
    refine XS.dup X2.here hx rfl (hb hby d2_47) rfl rfl ?_
    show Steps p.tables e below (T2.setTop (mkF m 48 #[.val (.int (2 : Int32)), .val (.int x0), .val (.int x1), .val (.int x2), .val (.int x3)] [(.ref b2), (.ref b2), (.ref b1), (.ref b1)])) t
    refine XS.iconst X2.here hx rfl (hb hby d2_48) ?_
    show Steps p.tables e below (T2.setTop (mkF m 49 #[.val (.int (2 : Int32)), .val (.int x0), .val (.int x1), .val (.int x2), .val (.int x3)] [(.int (0 : Int32)), (.ref b2), (.ref b2), (.ref b1), (.ref b1)])) t
    refine XS.iloadN X2.here hx rfl (hb hby d2_49) rfl ?_
    show Steps p.tables e below (T2.setTop (mkF m 50 #[.val (.int (2 : Int32)), .val (.int x0), .val (.int x1), .val (.int x2), .val (.int x3)] [(.int x0), (.int (0 : Int32)), (.ref b2), (.ref b2), (.ref b1), (.ref b1)])) t
    refine st3 _ ?_
    show Steps p.tables e below (T3.setTop (mkF m 51 #[.val (.int (2 : Int32)), .val (.int x0), .val (.int x1), .val (.int x2), .val (.int x3)] [(.ref b2), (.ref b1), (.ref b1)])) t
    refine XS.dup X3.here hx rfl (hb hby d2_51) rfl rfl ?_
    show Steps p.tables e below (T3.setTop (mkF m 52 #[.val (.int (2 : Int32)), .val (.int x0), .val (.int x1), .val (.int x2), .val (.int x3)] [(.ref b2), (.ref b2), (.ref b1), (.ref b1)])) t
    refine XS.iconst X3.here hx rfl (hb hby d2_52) ?_
    show Steps p.tables e below (T3.setTop (mkF m 53 #[.val (.int (2 : Int32)), .val (.int x0), .val (.int x1), .val (.int x2), .val (.int x3)] [(.int (1 : Int32)), (.ref b2), (.ref b2), (.ref b1), (.ref b1)])) t
    refine XS.iloadN X3.here hx rfl (hb hby d2_53) rfl ?_
    show Steps p.tables e below (T3.setTop (mkF m 54 #[.val (.int (2 : Int32)), .val (.int x0), .val (.int x1), .val (.int x2), .val (.int x3)] [(.int x1), (.int (1 : Int32)), (.ref b2), (.ref b2), (.ref b1), (.ref b1)])) t
    refine st4 _ ?_
    show Steps p.tables e below (T4.setTop (mkF m 55 #[.val (.int (2 : Int32)), .val (.int x0), .val (.int x1), .val (.int x2), .val (.int x3)] [(.ref b2), (.ref b1), (.ref b1)])) t
    refine st5.trans ?_
    exact k
  obtain ⟨fs, hr, hrun, hended, hW, hsame⟩ := X5.leave (v := some (.ref b1)) (fun h => by rw [Bd.returns] at h; cases h)
  refine ⟨_, _, R9 _ ?_, hrun, hended, _, _, rfl, ?_, ⟨_, rfl⟩, hW, hsame.mono (by decide) (by decide)⟩
  · show Steps p.tables e below (T5.setTop (mkF m 58 #[.val (.int (2 : Int32)), .val (.int x0), .val (.int x1), .val (.int x2), .val (.int x3)] [(.ref b1)])) _
    exact retOut X5 hx Bd.returns rfl (Or.inr (Or.inr (Or.inr (Or.inr ⟨rfl, rfl, rfl⟩)))) (hb hby d2_58) hr
  · show Q_build2 Z zCS x0 x1 x2 x3 h0 n0 _ T5.heap _
    exact ⟨b1, t5, kb5, rfl, N5, K5, sz_b1, Es5, Cs5, Vs5, Vl⟩
theorem d2_59 : decode method_4_code 59 = .ok (.iload_n 0, 1) := by decide +kernel
theorem d2_60 : decode method_4_code 60 = .ok (.iconst 3, 1) := by decide +kernel
theorem d2_61 : decode method_4_code 61 = .ok (.if_icmp .ne 26, 3) := by decide +kernel
theorem d2_64 : decode method_4_code 64 = .ok (.new 7, 3) := by decide +kernel
theorem d2_67 : decode method_4_code 67 = .ok (.dup, 1) := by decide +kernel
theorem d2_68 : decode method_4_code 68 = .ok (.iconst 3, 1) := by decide +kernel
theorem d2_69 : decode method_4_code 69 = .ok (.newarray .char, 2) := by decide +kernel
theorem d2_71 : decode method_4_code 71 = .ok (.dup, 1) := by decide +kernel
theorem d2_72 : decode method_4_code 72 = .ok (.iconst 0, 1) := by decide +kernel
theorem d2_73 : decode method_4_code 73 = .ok (.iload_n 1, 1) := by decide +kernel
theorem d2_74 : decode method_4_code 74 = .ok (.castore, 1) := by decide +kernel
theorem d2_75 : decode method_4_code 75 = .ok (.dup, 1) := by decide +kernel
theorem d2_76 : decode method_4_code 76 = .ok (.iconst 1, 1) := by decide +kernel
theorem d2_77 : decode method_4_code 77 = .ok (.iload_n 2, 1) := by decide +kernel
theorem d2_78 : decode method_4_code 78 = .ok (.castore, 1) := by decide +kernel
theorem d2_79 : decode method_4_code 79 = .ok (.dup, 1) := by decide +kernel
theorem d2_80 : decode method_4_code 80 = .ok (.iconst 2, 1) := by decide +kernel
theorem d2_81 : decode method_4_code 81 = .ok (.iload_n 3, 1) := by decide +kernel
theorem d2_82 : decode method_4_code 82 = .ok (.castore, 1) := by decide +kernel
theorem d2_83 : decode method_4_code 83 = .ok (.invokespecial 9, 3) := by decide +kernel
theorem d2_86 : decode method_4_code 86 = .ok (.areturn, 1) := by decide +kernel
theorem ef_build3 (m : MethodId) (x0 : Int32) (x1 : Int32) (x2 : Int32) (x3 : Int32) : entryFrame m #[(.int (3 : Int32)), (.int x0), (.int x1), (.int x2), (.int x3)] 5 = mkF m 0 #[.val (.int (3 : Int32)), .val (.int x0), .val (.int x1), .val (.int x2), .val (.int x3)] [] := by first | (simp [entryFrame, mkF, argsToLocals, Value.category]; done) | rfl
def Q_build3 (Z : State) (zCS : Int32) (x0 : Int32) (x1 : Int32) (x2 : Int32) (x3 : Int32) (h0 : Heap) (n0 : Nat) (vv_ : Option Value) (hh_ : Heap) (LL_ : List Loc) : Prop := ∃ (b : Addr) (tt : Addr) (kb : ClassId), vv_ = some (.ref b) ∧ (Fr n0 LL_) ∧ (Keep h0 hh_ []) ∧ (h0.size ≤ b) ∧ (Exa Z hh_ b "java/lang/String") ∧ (Fld Z hh_ b "java/lang/String" "coder" "B" (.int (0 : Int32))) ∧ (Fld Z hh_ b "java/lang/String" "value" "[B" (.ref tt)) ∧ (Arv Z hh_ tt kb .byte (3 : Int32) [(.int ((nar .char x0).toInt8.toInt32)), (.int ((nar .char x1).toInt8.toInt32)), (.int ((nar .char x2).toInt8.toInt32))] (.int 0))
set_option maxRecDepth 65536 in
set_option maxHeartbeats 40000000 in
theorem build3 (l : Launch) (Z : State) (a0 : Array Value) (hw : ∀ d ∈ tables_1, d.before a0 Z = true) (ws : List Jvm.Cond) (zCS : Int32) (x0 : Int32) (x1 : Int32) (x2 : Int32) (x3 : Int32) (h0 : Heap) (n0 : Nat) (O0 : Old Z n0 h0) (S_CS : Sta Z Z.heap "java/lang/String" "COMPACT_STRINGS" "Z" (.int zCS)) (hCS : ¬ (zCS = (0 : Int32))) (hcH : Jvm.Lit.constHeld Z "java/lang/String" 7) (hcW : Jvm.Lit.compactW.before a0 Z = true) (hx0 : ¬ x0 < 0 ∧ ¬ (255 : Int32) < x0) (hx1 : ¬ x1 < 0 ∧ ¬ (255 : Int32) < x1) (hx2 : ¬ x2 < 0 ∧ ¬ (255 : Int32) < x2) :
    MetFree l (⟨"com/example/wiring_from_blueprints/wiringfromblueprints/internal/StaticFieldCheckedPinLaw", "build", "(ICCCC)Ljava/lang/String;"⟩ : MethodName) (head1 (Jvm.Cond.code (⟨"com/example/wiring_from_blueprints/wiringfromblueprints/internal/StaticFieldCheckedPinLaw", "build", "(ICCCC)Ljava/lang/String;"⟩ : MethodName) method_4_code 5 (some (.object "java/lang/String")) :: ws) ({ frames := 4, cells := 3, slots := 10, locals := 66 } : Room)) (fun aa_ U_ => aa_ = #[(.int (3 : Int32)), (.int x0), (.int x1), (.int x2), (.int x3)] ∧ Z.Warmed39 U_.vm ∧ U_.heap = h0) (fun _ _ _ _ _ => True) (fun _ U_ oo_ V_ => ∃ vv_ LL_, oo_ = .returned vv_ ∧ Q_build3 Z zCS x0 x1 x2 x3 h0 n0 vv_ V_.heap LL_ ∧ FrameEnd U_ oo_ V_ LL_ ({ frames := 4, cells := 3, slots := 10, locals := 66 } : Room).cells ({ frames := 4, cells := 3, slots := 10, locals := 66 } : Room).slots) := by
  refine MetFree.of_bodySF (plainFor_of_name pn_com_example_wiring_from_blueprints_wiringfromblueprints_internal_StaticFieldCheckedPinLaw) hisR ?_
  intro p e s m args below meth c s₁ Bd hml0 hP hK
  obtain ⟨rfl, hZ, hh⟩ := hP
  have hx := Bd.exec
  have hby := Bd.bytes
  have hml : c.maxLocals = 5 := hml0
  have hown : s.vm.findClass "com/example/wiring_from_blueprints/wiringfromblueprints/internal/StaticFieldCheckedPinLaw" = some m.cls := findClass_of_methodNamed Bd.named
  have hnm := (name_of_methodNamed Bd.named Bd.method).1
  have X0 : Stand p l e ({ frames := 4, cells := 3, slots := 10, locals := 66 } : Room) s m #[(.int (3 : Int32)), (.int x0), (.int x1), (.int x2), (.int x3)] below meth c s₁ [] 0 0 := Stand.of_body Bd
  have e0 : s₁.heap = h0 := by rw [← hh, Bd.state]; rfl
  have N0 := Fr.nil n0
  have Z0 : n0 ≤ h0.size := O0.1 ▸ O0.2.1
  have hk0 := Nat.zero_le h0.size
  have K0 : Keep h0 h0 [] := Keep.refl _ _
  have R0 : ∀ t, Steps p.tables e below (s₁.setTop (mkF m 0 #[.val (.int (3 : Int32)), .val (.int x0), .val (.int x1), .val (.int x2), .val (.int x3)] [])) t → Steps p.tables e below (s₁.setTop (entryFrame m #[(.int (3 : Int32)), (.int x0), (.int x1), (.int x2), (.int x3)] 5)) t := fun t k => castTop (ef_build3 m x0 x1 x2 x3) k
  obtain ⟨T1, h1, X1, e1, E1, A1, D1, -, st1⟩ := newO X0 hx hZ hown (hw _ (List.mem_of_getElem? (i := 8) rfl)) (hw _ (List.mem_of_getElem? (i := 9) rfl)) (hw _ (List.mem_of_getElem? (i := 10) rfl)) e0 (g := (mkF m 64 #[.val (.int (3 : Int32)), .val (.int x0), .val (.int x1), .val (.int x2), .val (.int x3)] [])) rfl (hb hby d2_64) (by decide) (by decide)
  obtain ⟨b1, gg1⟩ : ∃ z, z = h0.size := ⟨_, rfl⟩
  rw [← gg1] at A1 D1 st1
  have g_b1 : n0 ≤ b1 := Nat.le_trans Z0 (Nat.le_of_eq gg1.symm)
  have sz_b1 : h0.size ≤ b1 := Nat.le_trans K0.1 (Nat.le_of_eq gg1.symm)
  have Z1 : n0 ≤ h1.size := Nat.le_trans Z0 E1.1
  have K1 : Keep h0 h1 [] := K0.ext E1
  have O1 : Old Z n0 h1 := O0.ext E1
  have F1_value : Fld Z h1 b1 "java/lang/String" "value" "[B" .null := D1 (Or.inr (hw _ (List.mem_of_getElem? (i := 24) rfl))) (ty := (.array .byte)) (by decide)
  have F1_coder : Fld Z h1 b1 "java/lang/String" "coder" "B" (.int (0 : Int32)) := D1 (Or.inr (hw _ (List.mem_of_getElem? (i := 25) rfl))) (ty := .byte) (by decide)
  obtain ⟨T2, h2, k2, X2, e2, E2, A2, st2⟩ := newP X1 hx hZ (hw _ (List.mem_of_getElem? (i := 11) rfl)) e1 (g := (mkF m 69 #[.val (.int (3 : Int32)), .val (.int x0), .val (.int x1), .val (.int x2), .val (.int x3)] [(.int (3 : Int32)), (.ref b1), (.ref b1)])) rfl (hb hby d2_69) rfl (by decide) (cap := 3) (by decide) (by decide) (by decide) (by decide)
  obtain ⟨b2, gg2⟩ : ∃ z, z = h1.size := ⟨_, rfl⟩
  rw [← gg2] at A2 st2
  have ne_b1_b2 : b1 ≠ b2 := Nat.ne_of_lt (Nat.lt_of_lt_of_le A1.lt (Nat.le_of_eq gg2.symm))
  have g_b2 : n0 ≤ b2 := Nat.le_trans Z1 (Nat.le_of_eq gg2.symm)
  have sz_b2 : h0.size ≤ b2 := Nat.le_trans K1.1 (Nat.le_of_eq gg2.symm)
  have Z2 : n0 ≤ h2.size := Nat.le_trans Z1 E2.1
  have K2 : Keep h0 h2 [] := K1.ext E2
  have O2 : Old Z n0 h2 := O1.ext E2
  have V2 : Arv Z h2 b2 k2 .char (3 : Int32) [(.int (0 : Int32)), (.int (0 : Int32)), (.int (0 : Int32))] (.int (0 : Int32)) := (Arv.new A2 (by decide)).pad (pad_rep [] (.int (0 : Int32)) 3)
  obtain ⟨cl3, Ar3, q3, S3, M3, H3, G3⟩ := id V2
  have in3 : ¬ ((0 : Int32) < 0 ∨ cl3.slots.size ≤ ((0 : Int32)).toNatClampNeg) := inb_of S3 ⟨by decide, by decide⟩
  obtain ⟨T3, h3, X3, e3, W3, st3⟩ := stC X2 hx hZ e2 Ar3 (j := (0 : Int32)) in3 (g := (mkF m 74 #[.val (.int (3 : Int32)), .val (.int x0), .val (.int x1), .val (.int x2), .val (.int x3)] [(.int x0), (.int (0 : Int32)), (.ref b2), (.ref b2), (.ref b1), (.ref b1)])) rfl rfl (hb hby d2_74)
  have Z3 : n0 ≤ h3.size := Nat.le_trans Z2 (Keep.of_wr W3).1
  have K3 : Keep h0 h3 [] := K2.wr W3 (Or.inr sz_b2)
  have O3 : Old Z n0 h3 := O2.wr W3 g_b2
  have N3 := Fr.snoc X3 N0 g_b2
  have V3 : Arv Z h3 b2 k2 .char (3 : Int32) [(.int (nar .char x0)), (.int (0 : Int32)), (.int (0 : Int32))] (.int (0 : Int32)) := Arv.set Ar3 q3 S3 M3 H3 G3 (fits_nar_char _) W3 0 rfl (Nat.le_of_ble_eq_true rfl)
  obtain ⟨cl4, Ar4, q4, S4, M4, H4, G4⟩ := id V3
  have in4 : ¬ ((1 : Int32) < 0 ∨ cl4.slots.size ≤ ((1 : Int32)).toNatClampNeg) := inb_of S4 ⟨by decide, by decide⟩
  obtain ⟨T4, h4, X4, e4, W4, st4⟩ := stC X3 hx hZ e3 Ar4 (j := (1 : Int32)) in4 (g := (mkF m 78 #[.val (.int (3 : Int32)), .val (.int x0), .val (.int x1), .val (.int x2), .val (.int x3)] [(.int x1), (.int (1 : Int32)), (.ref b2), (.ref b2), (.ref b1), (.ref b1)])) rfl rfl (hb hby d2_78)
  have Z4 : n0 ≤ h4.size := Nat.le_trans Z3 (Keep.of_wr W4).1
  have K4 : Keep h0 h4 [] := K3.wr W4 (Or.inr sz_b2)
  have O4 : Old Z n0 h4 := O3.wr W4 g_b2
  have N4 := Fr.snoc X4 N3 g_b2
  have V4 : Arv Z h4 b2 k2 .char (3 : Int32) [(.int (nar .char x0)), (.int (nar .char x1)), (.int (0 : Int32))] (.int (0 : Int32)) := Arv.set Ar4 q4 S4 M4 H4 G4 (fits_nar_char _) W4 1 rfl (Nat.le_of_ble_eq_true rfl)
  obtain ⟨cl5, Ar5, q5, S5, M5, H5, G5⟩ := id V4
  have in5 : ¬ ((2 : Int32) < 0 ∨ cl5.slots.size ≤ ((2 : Int32)).toNatClampNeg) := inb_of S5 ⟨by decide, by decide⟩
  obtain ⟨T5, h5, X5, e5, W5, st5⟩ := stC X4 hx hZ e4 Ar5 (j := (2 : Int32)) in5 (g := (mkF m 82 #[.val (.int (3 : Int32)), .val (.int x0), .val (.int x1), .val (.int x2), .val (.int x3)] [(.int x2), (.int (2 : Int32)), (.ref b2), (.ref b2), (.ref b1), (.ref b1)])) rfl rfl (hb hby d2_82)
  have Z5 : n0 ≤ h5.size := Nat.le_trans Z4 (Keep.of_wr W5).1
  have K5 : Keep h0 h5 [] := K4.wr W5 (Or.inr sz_b2)
  have O5 : Old Z n0 h5 := O4.wr W5 g_b2
  have N5 := Fr.snoc X5 N4 g_b2
  have V5 : Arv Z h5 b2 k2 .char (3 : Int32) [(.int (nar .char x0)), (.int (nar .char x1)), (.int (nar .char x2))] (.int (0 : Int32)) := Arv.set Ar5 q5 S5 M5 H5 G5 (fits_nar_char _) W5 2 rfl (Nat.le_of_ble_eq_true rfl)
  have f7 : Exa Z h5 b1 "java/lang/String" := ((((A1.ext E2).wr W3).wr W4).wr W5)
  have f8 : Fld Z h5 b1 "java/lang/String" "value" "[B" .null := ((((F1_value.ext E2).other W3 (Or.inl ne_b1_b2)).other W4 (Or.inl ne_b1_b2)).other W5 (Or.inl ne_b1_b2))
  have f9 : Fld Z h5 b1 "java/lang/String" "coder" "B" (.int (0 : Int32)) := ((((F1_coder.ext E2).other W3 (Or.inl ne_b1_b2)).other W4 (Or.inl ne_b1_b2)).other W5 (Or.inl ne_b1_b2))
  have hp6 : ∀ c ∈ ([nar .char x0, nar .char x1, nar .char x2] : List Int32), ¬ c < 0 ∧ ¬ (255 : Int32) < c := (own_p2 (own_cb hx0) (own_p2 (own_cb hx1) (own_p1 (own_cb hx2))))
  obtain ⟨_, _, ⟨T6, L6, k6, n6⟩, -, X6, ⟨Lc6, hQ6, cl_6, cy_6, cz_6⟩, st6⟩ := X5.specialBack hx (y := (⟨"java/lang/String", "<init>", "([C)V"⟩ : MethodName)) rfl hown (mvT hZ (hw _ (List.mem_of_getElem? (i := 12) rfl))) (mvT hZ (hw _ (List.mem_of_getElem? (i := 13) rfl))) (mvT hZ (hw _ (List.mem_of_getElem? (i := 14) rfl))) (by decide) (StrChars.Road.backV (W := 1) hZ (own_words hw) (kI := 4) (hw _ (List.mem_of_getElem? (i := 9) rfl)) (cs := ([nar .char x0, nar .char x1, nar .char x2] : List Int32)) (bs := ([nar .char x0, nar .char x1, nar .char x2] : List Int32).map (fun c => c.toInt8.toInt32)) (n := 3) g_b1 Z5 f7 f8 f9 V5 (S_CS.ext O5.2) hCS rfl rfl (by decide) (by decide) hp6 rfl (by decide) (by decide)) (g := (mkF m 83 #[.val (.int (3 : Int32)), .val (.int x0), .val (.int x1), .val (.int x2), .val (.int x3)] [(.ref b2), (.ref b1), (.ref b1)])) rfl (by rw [hml]; rfl) (Steps.refl _) (a := b1) (argsL := [(.ref b2)]) (rest := [(.ref b1)]) (lenOf pd_1 rfl) rfl (by show 2 * 0 + _ ≤ _; exact Nat.le_of_eq rfl) (hb hby d2_83) (fun _ _ => ⟨rfl, e5, (by decide : 2 + 1 ≤ _), (by decide : 7 + 3 ≤ _)⟩)
  dsimp only [Pt.U, Pt.locs, Pt.cells, Pt.slots] at X6 cl_6 cy_6 cz_6 st6 hQ6
  rw [cl_6, cy_6, cz_6] at X6
  obtain ⟨rfl, N6q, K6q, Es6, Cs6, t6, kb6, gt6, szt6, net6, Vs6, As6⟩ := hQ6
  have N6 := Fr.app N5 N6q
  have ne_b1_t6 : b1 ≠ t6 := Nat.ne_of_lt (Nat.lt_of_lt_of_le f7.lt szt6)
  have ne_b2_t6 : b2 ≠ t6 := Nat.ne_of_lt (Nat.lt_of_lt_of_le V5.lt szt6)
  have g_t6 : n0 ≤ t6 := Nat.le_trans Z5 szt6
  have sz_t6 : h0.size ≤ t6 := Nat.le_trans K5.1 szt6
  have Z6 : n0 ≤ T6.heap.size := Nat.le_trans Z5 K6q.1
  have K6 : Keep h0 T6.heap [] := K5.trans K6q (allS (Or.inr sz_b1) all0)
  have O6 : Old Z n0 T6.heap := O5.keep K6q (allS g_b1 all0)
  have Vl : Arv Z T6.heap t6 kb6 .byte (3 : Int32) [(.int ((nar .char x0).toInt8.toInt32)), (.int ((nar .char x1).toInt8.toInt32)), (.int ((nar .char x2).toInt8.toInt32))] (.int 0) := As6
  have R10 : ∀ t, Steps p.tables e below (T6.setTop (mkF m 86 #[.val (.int (3 : Int32)), .val (.int x0), .val (.int x1), .val (.int x2), .val (.int x3)] [(.ref b1)])) t → Steps p.tables e below (s₁.setTop (entryFrame m #[(.int (3 : Int32)), (.int x0), (.int x1), (.int x2), (.int x3)] 5)) t := by
    intro t k
    refine R0 t ?_
    show Steps p.tables e below (s₁.setTop (mkF m 0 #[.val (.int (3 : Int32)), .val (.int x0), .val (.int x1), .val (.int x2), .val (.int x3)] [])) t
    refine XS.iloadN X0.here hx rfl (hb hby d2_0) rfl ?_
    show Steps p.tables e below (s₁.setTop (mkF m 1 #[.val (.int (3 : Int32)), .val (.int x0), .val (.int x1), .val (.int x2), .val (.int x3)] [(.int (3 : Int32))])) t
    refine XS.ifYes X0.here hx rfl (pc0 := 1) (pc' := 15) rfl (hb hby d2_1) rfl ((if0 _ _).trans (feq ((by decide) : ¬ ((3 : Int32) = (0 : Int32)))).2) (by decide) (by decide) ?_
    show Steps p.tables e below (s₁.setTop (mkF m 15 #[.val (.int (3 : Int32)), .val (.int x0), .val (.int x1), .val (.int x2), .val (.int x3)] [])) t
    refine XS.iloadN X0.here hx rfl (hb hby d2_15) rfl ?_
    show Steps p.tables e below (s₁.setTop (mkF m 16 #[.val (.int (3 : Int32)), .val (.int x0), .val (.int x1), .val (.int x2), .val (.int x3)] [(.int (3 : Int32))])) t
    refine XS.iconst X0.here hx rfl (hb hby d2_16) ?_
    show Steps p.tables e below (s₁.setTop (mkF m 17 #[.val (.int (3 : Int32)), .val (.int x0), .val (.int x1), .val (.int x2), .val (.int x3)] [(.int (1 : Int32)), (.int (3 : Int32))])) t
    refine XS.icmpYes X0.here hx rfl (pc0 := 17) (pc' := 35) rfl (hb hby d2_17) rfl (feq ((by decide) : ¬ ((3 : Int32) = (1 : Int32)))).2 (by decide) (by decide) ?_
    show Steps p.tables e below (s₁.setTop (mkF m 35 #[.val (.int (3 : Int32)), .val (.int x0), .val (.int x1), .val (.int x2), .val (.int x3)] [])) t
    refine XS.iloadN X0.here hx rfl (hb hby d2_35) rfl ?_
    show Steps p.tables e below (s₁.setTop (mkF m 36 #[.val (.int (3 : Int32)), .val (.int x0), .val (.int x1), .val (.int x2), .val (.int x3)] [(.int (3 : Int32))])) t
    refine XS.iconst X0.here hx rfl (hb hby d2_36) ?_
    show Steps p.tables e below (s₁.setTop (mkF m 37 #[.val (.int (3 : Int32)), .val (.int x0), .val (.int x1), .val (.int x2), .val (.int x3)] [(.int (2 : Int32)), (.int (3 : Int32))])) t
    refine XS.icmpYes X0.here hx rfl (pc0 := 37) (pc' := 59) rfl (hb hby d2_37) rfl (feq ((by decide) : ¬ ((3 : Int32) = (2 : Int32)))).2 (by decide) (by decide) ?_
    show Steps p.tables e below (s₁.setTop (mkF m 59 #[.val (.int (3 : Int32)), .val (.int x0), .val (.int x1), .val (.int x2), .val (.int x3)] [])) t
    refine XS.iloadN X0.here hx rfl (hb hby d2_59) rfl ?_
    show Steps p.tables e below (s₁.setTop (mkF m 60 #[.val (.int (3 : Int32)), .val (.int x0), .val (.int x1), .val (.int x2), .val (.int x3)] [(.int (3 : Int32))])) t
    refine XS.iconst X0.here hx rfl (hb hby d2_60) ?_
    show Steps p.tables e below (s₁.setTop (mkF m 61 #[.val (.int (3 : Int32)), .val (.int x0), .val (.int x1), .val (.int x2), .val (.int x3)] [(.int (3 : Int32)), (.int (3 : Int32))])) t
    refine XS.icmpNo X0.here hx rfl (hb hby d2_61) rfl (teq ((by decide) : (3 : Int32) = (3 : Int32))).2 ?_
    show Steps p.tables e below (s₁.setTop (mkF m 64 #[.val (.int (3 : Int32)), .val (.int x0), .val (.int x1), .val (.int x2), .val (.int x3)] [])) t
    refine st1 _ ?_
    show Steps p.tables e below (T1.setTop (mkF m 67 #[.val (.int (3 : Int32)), .val (.int x0), .val (.int x1), .val (.int x2), .val (.int x3)] [(.ref b1)])) t
    refine XS.dup X1.here hx rfl (hb hby d2_67) rfl rfl ?_
    show Steps p.tables e below (T1.setTop (mkF m 68 #[.val (.int (3 : Int32)), .val (.int x0), .val (.int x1), .val (.int x2), .val (.int x3)] [(.ref b1), (.ref b1)])) t
    refine XS.iconst X1.here hx rfl (hb hby d2_68) ?_
    show Steps p.tables e below (T1.setTop (mkF m 69 #[.val (.int (3 : Int32)), .val (.int x0), .val (.int x1), .val (.int x2), .val (.int x3)] [(.int (3 : Int32)), (.ref b1), (.ref b1)])) t
    refine st2 _ ?_
    show Steps p.tables e below (T2.setTop (mkF m 71 #[.val (.int (3 : Int32)), .val (.int x0), .val (.int x1), .val (.int x2), .val (.int x3)] [(.ref b2), (.ref b1), (.ref b1)])) t
    refine XS.dup X2.here hx rfl (hb hby d2_71) rfl rfl ?_
    show Steps p.tables e below (T2.setTop (mkF m 72 #[.val (.int (3 : Int32)), .val (.int x0), .val (.int x1), .val (.int x2), .val (.int x3)] [(.ref b2), (.ref b2), (.ref b1), (.ref b1)])) t
    refine XS.iconst X2.here hx rfl (hb hby d2_72) ?_
    show Steps p.tables e below (T2.setTop (mkF m 73 #[.val (.int (3 : Int32)), .val (.int x0), .val (.int x1), .val (.int x2), .val (.int x3)] [(.int (0 : Int32)), (.ref b2), (.ref b2), (.ref b1), (.ref b1)])) t
    refine XS.iloadN X2.here hx rfl (hb hby d2_73) rfl ?_
    show Steps p.tables e below (T2.setTop (mkF m 74 #[.val (.int (3 : Int32)), .val (.int x0), .val (.int x1), .val (.int x2), .val (.int x3)] [(.int x0), (.int (0 : Int32)), (.ref b2), (.ref b2), (.ref b1), (.ref b1)])) t
    refine st3 _ ?_
    show Steps p.tables e below (T3.setTop (mkF m 75 #[.val (.int (3 : Int32)), .val (.int x0), .val (.int x1), .val (.int x2), .val (.int x3)] [(.ref b2), (.ref b1), (.ref b1)])) t
    refine XS.dup X3.here hx rfl (hb hby d2_75) rfl rfl ?_
    show Steps p.tables e below (T3.setTop (mkF m 76 #[.val (.int (3 : Int32)), .val (.int x0), .val (.int x1), .val (.int x2), .val (.int x3)] [(.ref b2), (.ref b2), (.ref b1), (.ref b1)])) t
    refine XS.iconst X3.here hx rfl (hb hby d2_76) ?_
    show Steps p.tables e below (T3.setTop (mkF m 77 #[.val (.int (3 : Int32)), .val (.int x0), .val (.int x1), .val (.int x2), .val (.int x3)] [(.int (1 : Int32)), (.ref b2), (.ref b2), (.ref b1), (.ref b1)])) t
    refine XS.iloadN X3.here hx rfl (hb hby d2_77) rfl ?_
    show Steps p.tables e below (T3.setTop (mkF m 78 #[.val (.int (3 : Int32)), .val (.int x0), .val (.int x1), .val (.int x2), .val (.int x3)] [(.int x1), (.int (1 : Int32)), (.ref b2), (.ref b2), (.ref b1), (.ref b1)])) t
    refine st4 _ ?_
    show Steps p.tables e below (T4.setTop (mkF m 79 #[.val (.int (3 : Int32)), .val (.int x0), .val (.int x1), .val (.int x2), .val (.int x3)] [(.ref b2), (.ref b1), (.ref b1)])) t
    refine XS.dup X4.here hx rfl (hb hby d2_79) rfl rfl ?_
    show Steps p.tables e below (T4.setTop (mkF m 80 #[.val (.int (3 : Int32)), .val (.int x0), .val (.int x1), .val (.int x2), .val (.int x3)] [(.ref b2), (.ref b2), (.ref b1), (.ref b1)])) t
    refine XS.iconst X4.here hx rfl (hb hby d2_80) ?_
    show Steps p.tables e below (T4.setTop (mkF m 81 #[.val (.int (3 : Int32)), .val (.int x0), .val (.int x1), .val (.int x2), .val (.int x3)] [(.int (2 : Int32)), (.ref b2), (.ref b2), (.ref b1), (.ref b1)])) t
    refine XS.iloadN X4.here hx rfl (hb hby d2_81) rfl ?_
    show Steps p.tables e below (T4.setTop (mkF m 82 #[.val (.int (3 : Int32)), .val (.int x0), .val (.int x1), .val (.int x2), .val (.int x3)] [(.int x2), (.int (2 : Int32)), (.ref b2), (.ref b2), (.ref b1), (.ref b1)])) t
    refine st5 _ ?_
    show Steps p.tables e below (T5.setTop (mkF m 83 #[.val (.int (3 : Int32)), .val (.int x0), .val (.int x1), .val (.int x2), .val (.int x3)] [(.ref b2), (.ref b1), (.ref b1)])) t
    refine st6.trans ?_
    exact k
  obtain ⟨fs, hr, hrun, hended, hW, hsame⟩ := X6.leave (v := some (.ref b1)) (fun h => by rw [Bd.returns] at h; cases h)
  refine ⟨_, _, R10 _ ?_, hrun, hended, _, _, rfl, ?_, ⟨_, rfl⟩, hW, hsame.mono (by decide) (by decide)⟩
  · show Steps p.tables e below (T6.setTop (mkF m 86 #[.val (.int (3 : Int32)), .val (.int x0), .val (.int x1), .val (.int x2), .val (.int x3)] [(.ref b1)])) _
    exact retOut X6 hx Bd.returns rfl (Or.inr (Or.inr (Or.inr (Or.inr ⟨rfl, rfl, rfl⟩)))) (hb hby d2_86) hr
  · show Q_build3 Z zCS x0 x1 x2 x3 h0 n0 _ T6.heap _
    exact ⟨b1, t6, kb6, rfl, N6, K6, sz_b1, Es6, Cs6, Vs6, Vl⟩
theorem d2_87 : decode method_4_code 87 = .ok (.new 7, 3) := by decide +kernel
theorem d2_90 : decode method_4_code 90 = .ok (.dup, 1) := by decide +kernel
theorem d2_91 : decode method_4_code 91 = .ok (.iconst 4, 1) := by decide +kernel
theorem d2_92 : decode method_4_code 92 = .ok (.newarray .char, 2) := by decide +kernel
theorem d2_94 : decode method_4_code 94 = .ok (.dup, 1) := by decide +kernel
theorem d2_95 : decode method_4_code 95 = .ok (.iconst 0, 1) := by decide +kernel
theorem d2_96 : decode method_4_code 96 = .ok (.iload_n 1, 1) := by decide +kernel
theorem d2_97 : decode method_4_code 97 = .ok (.castore, 1) := by decide +kernel
theorem d2_98 : decode method_4_code 98 = .ok (.dup, 1) := by decide +kernel
theorem d2_99 : decode method_4_code 99 = .ok (.iconst 1, 1) := by decide +kernel
theorem d2_100 : decode method_4_code 100 = .ok (.iload_n 2, 1) := by decide +kernel
theorem d2_101 : decode method_4_code 101 = .ok (.castore, 1) := by decide +kernel
theorem d2_102 : decode method_4_code 102 = .ok (.dup, 1) := by decide +kernel
theorem d2_103 : decode method_4_code 103 = .ok (.iconst 2, 1) := by decide +kernel
theorem d2_104 : decode method_4_code 104 = .ok (.iload_n 3, 1) := by decide +kernel
theorem d2_105 : decode method_4_code 105 = .ok (.castore, 1) := by decide +kernel
theorem d2_106 : decode method_4_code 106 = .ok (.dup, 1) := by decide +kernel
theorem d2_107 : decode method_4_code 107 = .ok (.iconst 3, 1) := by decide +kernel
theorem d2_108 : decode method_4_code 108 = .ok (.iload 4, 2) := by decide +kernel
theorem d2_110 : decode method_4_code 110 = .ok (.castore, 1) := by decide +kernel
theorem d2_111 : decode method_4_code 111 = .ok (.invokespecial 9, 3) := by decide +kernel
theorem d2_114 : decode method_4_code 114 = .ok (.areturn, 1) := by decide +kernel
theorem ef_build4 (m : MethodId) (x0 : Int32) (x1 : Int32) (x2 : Int32) (x3 : Int32) : entryFrame m #[(.int (4 : Int32)), (.int x0), (.int x1), (.int x2), (.int x3)] 5 = mkF m 0 #[.val (.int (4 : Int32)), .val (.int x0), .val (.int x1), .val (.int x2), .val (.int x3)] [] := by first | (simp [entryFrame, mkF, argsToLocals, Value.category]; done) | rfl
def Q_build4 (Z : State) (zCS : Int32) (x0 : Int32) (x1 : Int32) (x2 : Int32) (x3 : Int32) (h0 : Heap) (n0 : Nat) (vv_ : Option Value) (hh_ : Heap) (LL_ : List Loc) : Prop := ∃ (b : Addr) (tt : Addr) (kb : ClassId), vv_ = some (.ref b) ∧ (Fr n0 LL_) ∧ (Keep h0 hh_ []) ∧ (h0.size ≤ b) ∧ (Exa Z hh_ b "java/lang/String") ∧ (Fld Z hh_ b "java/lang/String" "coder" "B" (.int (0 : Int32))) ∧ (Fld Z hh_ b "java/lang/String" "value" "[B" (.ref tt)) ∧ (Arv Z hh_ tt kb .byte (4 : Int32) [(.int ((nar .char x0).toInt8.toInt32)), (.int ((nar .char x1).toInt8.toInt32)), (.int ((nar .char x2).toInt8.toInt32)), (.int ((nar .char x3).toInt8.toInt32))] (.int 0))
set_option maxRecDepth 65536 in
set_option maxHeartbeats 40000000 in
theorem build4 (l : Launch) (Z : State) (a0 : Array Value) (hw : ∀ d ∈ tables_1, d.before a0 Z = true) (ws : List Jvm.Cond) (zCS : Int32) (x0 : Int32) (x1 : Int32) (x2 : Int32) (x3 : Int32) (h0 : Heap) (n0 : Nat) (O0 : Old Z n0 h0) (S_CS : Sta Z Z.heap "java/lang/String" "COMPACT_STRINGS" "Z" (.int zCS)) (hCS : ¬ (zCS = (0 : Int32))) (hcH : Jvm.Lit.constHeld Z "java/lang/String" 7) (hcW : Jvm.Lit.compactW.before a0 Z = true) (hx0 : ¬ x0 < 0 ∧ ¬ (255 : Int32) < x0) (hx1 : ¬ x1 < 0 ∧ ¬ (255 : Int32) < x1) (hx2 : ¬ x2 < 0 ∧ ¬ (255 : Int32) < x2) (hx3 : ¬ x3 < 0 ∧ ¬ (255 : Int32) < x3) :
    MetFree l (⟨"com/example/wiring_from_blueprints/wiringfromblueprints/internal/StaticFieldCheckedPinLaw", "build", "(ICCCC)Ljava/lang/String;"⟩ : MethodName) (head1 (Jvm.Cond.code (⟨"com/example/wiring_from_blueprints/wiringfromblueprints/internal/StaticFieldCheckedPinLaw", "build", "(ICCCC)Ljava/lang/String;"⟩ : MethodName) method_4_code 5 (some (.object "java/lang/String")) :: ws) ({ frames := 4, cells := 3, slots := 12, locals := 66 } : Room)) (fun aa_ U_ => aa_ = #[(.int (4 : Int32)), (.int x0), (.int x1), (.int x2), (.int x3)] ∧ Z.Warmed39 U_.vm ∧ U_.heap = h0) (fun _ _ _ _ _ => True) (fun _ U_ oo_ V_ => ∃ vv_ LL_, oo_ = .returned vv_ ∧ Q_build4 Z zCS x0 x1 x2 x3 h0 n0 vv_ V_.heap LL_ ∧ FrameEnd U_ oo_ V_ LL_ ({ frames := 4, cells := 3, slots := 12, locals := 66 } : Room).cells ({ frames := 4, cells := 3, slots := 12, locals := 66 } : Room).slots) := by
  refine MetFree.of_bodySF (plainFor_of_name pn_com_example_wiring_from_blueprints_wiringfromblueprints_internal_StaticFieldCheckedPinLaw) hisR ?_
  intro p e s m args below meth c s₁ Bd hml0 hP hK
  obtain ⟨rfl, hZ, hh⟩ := hP
  have hx := Bd.exec
  have hby := Bd.bytes
  have hml : c.maxLocals = 5 := hml0
  have hown : s.vm.findClass "com/example/wiring_from_blueprints/wiringfromblueprints/internal/StaticFieldCheckedPinLaw" = some m.cls := findClass_of_methodNamed Bd.named
  have hnm := (name_of_methodNamed Bd.named Bd.method).1
  have X0 : Stand p l e ({ frames := 4, cells := 3, slots := 12, locals := 66 } : Room) s m #[(.int (4 : Int32)), (.int x0), (.int x1), (.int x2), (.int x3)] below meth c s₁ [] 0 0 := Stand.of_body Bd
  have e0 : s₁.heap = h0 := by rw [← hh, Bd.state]; rfl
  have N0 := Fr.nil n0
  have Z0 : n0 ≤ h0.size := O0.1 ▸ O0.2.1
  have hk0 := Nat.zero_le h0.size
  have K0 : Keep h0 h0 [] := Keep.refl _ _
  have R0 : ∀ t, Steps p.tables e below (s₁.setTop (mkF m 0 #[.val (.int (4 : Int32)), .val (.int x0), .val (.int x1), .val (.int x2), .val (.int x3)] [])) t → Steps p.tables e below (s₁.setTop (entryFrame m #[(.int (4 : Int32)), (.int x0), (.int x1), (.int x2), (.int x3)] 5)) t := fun t k => castTop (ef_build4 m x0 x1 x2 x3) k
  obtain ⟨T1, h1, X1, e1, E1, A1, D1, -, st1⟩ := newO X0 hx hZ hown (hw _ (List.mem_of_getElem? (i := 8) rfl)) (hw _ (List.mem_of_getElem? (i := 9) rfl)) (hw _ (List.mem_of_getElem? (i := 10) rfl)) e0 (g := (mkF m 87 #[.val (.int (4 : Int32)), .val (.int x0), .val (.int x1), .val (.int x2), .val (.int x3)] [])) rfl (hb hby d2_87) (by decide) (by decide)
  obtain ⟨b1, gg1⟩ : ∃ z, z = h0.size := ⟨_, rfl⟩
  rw [← gg1] at A1 D1 st1
  have g_b1 : n0 ≤ b1 := Nat.le_trans Z0 (Nat.le_of_eq gg1.symm)
  have sz_b1 : h0.size ≤ b1 := Nat.le_trans K0.1 (Nat.le_of_eq gg1.symm)
  have Z1 : n0 ≤ h1.size := Nat.le_trans Z0 E1.1
  have K1 : Keep h0 h1 [] := K0.ext E1
  have O1 : Old Z n0 h1 := O0.ext E1
  have F1_value : Fld Z h1 b1 "java/lang/String" "value" "[B" .null := D1 (Or.inr (hw _ (List.mem_of_getElem? (i := 24) rfl))) (ty := (.array .byte)) (by decide)
  have F1_coder : Fld Z h1 b1 "java/lang/String" "coder" "B" (.int (0 : Int32)) := D1 (Or.inr (hw _ (List.mem_of_getElem? (i := 25) rfl))) (ty := .byte) (by decide)
  obtain ⟨T2, h2, k2, X2, e2, E2, A2, st2⟩ := newP X1 hx hZ (hw _ (List.mem_of_getElem? (i := 11) rfl)) e1 (g := (mkF m 92 #[.val (.int (4 : Int32)), .val (.int x0), .val (.int x1), .val (.int x2), .val (.int x3)] [(.int (4 : Int32)), (.ref b1), (.ref b1)])) rfl (hb hby d2_92) rfl (by decide) (cap := 4) (by decide) (by decide) (by decide) (by decide)
  obtain ⟨b2, gg2⟩ : ∃ z, z = h1.size := ⟨_, rfl⟩
  rw [← gg2] at A2 st2
  have ne_b1_b2 : b1 ≠ b2 := Nat.ne_of_lt (Nat.lt_of_lt_of_le A1.lt (Nat.le_of_eq gg2.symm))
  have g_b2 : n0 ≤ b2 := Nat.le_trans Z1 (Nat.le_of_eq gg2.symm)
  have sz_b2 : h0.size ≤ b2 := Nat.le_trans K1.1 (Nat.le_of_eq gg2.symm)
  have Z2 : n0 ≤ h2.size := Nat.le_trans Z1 E2.1
  have K2 : Keep h0 h2 [] := K1.ext E2
  have O2 : Old Z n0 h2 := O1.ext E2
  have V2 : Arv Z h2 b2 k2 .char (4 : Int32) [(.int (0 : Int32)), (.int (0 : Int32)), (.int (0 : Int32)), (.int (0 : Int32))] (.int (0 : Int32)) := (Arv.new A2 (by decide)).pad (pad_rep [] (.int (0 : Int32)) 4)
  obtain ⟨cl3, Ar3, q3, S3, M3, H3, G3⟩ := id V2
  have in3 : ¬ ((0 : Int32) < 0 ∨ cl3.slots.size ≤ ((0 : Int32)).toNatClampNeg) := inb_of S3 ⟨by decide, by decide⟩
  obtain ⟨T3, h3, X3, e3, W3, st3⟩ := stC X2 hx hZ e2 Ar3 (j := (0 : Int32)) in3 (g := (mkF m 97 #[.val (.int (4 : Int32)), .val (.int x0), .val (.int x1), .val (.int x2), .val (.int x3)] [(.int x0), (.int (0 : Int32)), (.ref b2), (.ref b2), (.ref b1), (.ref b1)])) rfl rfl (hb hby d2_97)
  have Z3 : n0 ≤ h3.size := Nat.le_trans Z2 (Keep.of_wr W3).1
  have K3 : Keep h0 h3 [] := K2.wr W3 (Or.inr sz_b2)
  have O3 : Old Z n0 h3 := O2.wr W3 g_b2
  have N3 := Fr.snoc X3 N0 g_b2
  have V3 : Arv Z h3 b2 k2 .char (4 : Int32) [(.int (nar .char x0)), (.int (0 : Int32)), (.int (0 : Int32)), (.int (0 : Int32))] (.int (0 : Int32)) := Arv.set Ar3 q3 S3 M3 H3 G3 (fits_nar_char _) W3 0 rfl (Nat.le_of_ble_eq_true rfl)
  obtain ⟨cl4, Ar4, q4, S4, M4, H4, G4⟩ := id V3
  have in4 : ¬ ((1 : Int32) < 0 ∨ cl4.slots.size ≤ ((1 : Int32)).toNatClampNeg) := inb_of S4 ⟨by decide, by decide⟩
  obtain ⟨T4, h4, X4, e4, W4, st4⟩ := stC X3 hx hZ e3 Ar4 (j := (1 : Int32)) in4 (g := (mkF m 101 #[.val (.int (4 : Int32)), .val (.int x0), .val (.int x1), .val (.int x2), .val (.int x3)] [(.int x1), (.int (1 : Int32)), (.ref b2), (.ref b2), (.ref b1), (.ref b1)])) rfl rfl (hb hby d2_101)
  have Z4 : n0 ≤ h4.size := Nat.le_trans Z3 (Keep.of_wr W4).1
  have K4 : Keep h0 h4 [] := K3.wr W4 (Or.inr sz_b2)
  have O4 : Old Z n0 h4 := O3.wr W4 g_b2
  have N4 := Fr.snoc X4 N3 g_b2
  have V4 : Arv Z h4 b2 k2 .char (4 : Int32) [(.int (nar .char x0)), (.int (nar .char x1)), (.int (0 : Int32)), (.int (0 : Int32))] (.int (0 : Int32)) := Arv.set Ar4 q4 S4 M4 H4 G4 (fits_nar_char _) W4 1 rfl (Nat.le_of_ble_eq_true rfl)
  obtain ⟨cl5, Ar5, q5, S5, M5, H5, G5⟩ := id V4
  have in5 : ¬ ((2 : Int32) < 0 ∨ cl5.slots.size ≤ ((2 : Int32)).toNatClampNeg) := inb_of S5 ⟨by decide, by decide⟩
  obtain ⟨T5, h5, X5, e5, W5, st5⟩ := stC X4 hx hZ e4 Ar5 (j := (2 : Int32)) in5 (g := (mkF m 105 #[.val (.int (4 : Int32)), .val (.int x0), .val (.int x1), .val (.int x2), .val (.int x3)] [(.int x2), (.int (2 : Int32)), (.ref b2), (.ref b2), (.ref b1), (.ref b1)])) rfl rfl (hb hby d2_105)
  have Z5 : n0 ≤ h5.size := Nat.le_trans Z4 (Keep.of_wr W5).1
  have K5 : Keep h0 h5 [] := K4.wr W5 (Or.inr sz_b2)
  have O5 : Old Z n0 h5 := O4.wr W5 g_b2
  have N5 := Fr.snoc X5 N4 g_b2
  have V5 : Arv Z h5 b2 k2 .char (4 : Int32) [(.int (nar .char x0)), (.int (nar .char x1)), (.int (nar .char x2)), (.int (0 : Int32))] (.int (0 : Int32)) := Arv.set Ar5 q5 S5 M5 H5 G5 (fits_nar_char _) W5 2 rfl (Nat.le_of_ble_eq_true rfl)
  obtain ⟨cl6, Ar6, q6, S6, M6, H6, G6⟩ := id V5
  have in6 : ¬ ((3 : Int32) < 0 ∨ cl6.slots.size ≤ ((3 : Int32)).toNatClampNeg) := inb_of S6 ⟨by decide, by decide⟩
  obtain ⟨T6, h6, X6, e6, W6, st6⟩ := stC X5 hx hZ e5 Ar6 (j := (3 : Int32)) in6 (g := (mkF m 110 #[.val (.int (4 : Int32)), .val (.int x0), .val (.int x1), .val (.int x2), .val (.int x3)] [(.int x3), (.int (3 : Int32)), (.ref b2), (.ref b2), (.ref b1), (.ref b1)])) rfl rfl (hb hby d2_110)
  have Z6 : n0 ≤ h6.size := Nat.le_trans Z5 (Keep.of_wr W6).1
  have K6 : Keep h0 h6 [] := K5.wr W6 (Or.inr sz_b2)
  have O6 : Old Z n0 h6 := O5.wr W6 g_b2
  have N6 := Fr.snoc X6 N5 g_b2
  have V6 : Arv Z h6 b2 k2 .char (4 : Int32) [(.int (nar .char x0)), (.int (nar .char x1)), (.int (nar .char x2)), (.int (nar .char x3))] (.int (0 : Int32)) := Arv.set Ar6 q6 S6 M6 H6 G6 (fits_nar_char _) W6 3 rfl (Nat.le_of_ble_eq_true rfl)
  have f8 : Exa Z h6 b1 "java/lang/String" := (((((A1.ext E2).wr W3).wr W4).wr W5).wr W6)
  have f9 : Fld Z h6 b1 "java/lang/String" "value" "[B" .null := (((((F1_value.ext E2).other W3 (Or.inl ne_b1_b2)).other W4 (Or.inl ne_b1_b2)).other W5 (Or.inl ne_b1_b2)).other W6 (Or.inl ne_b1_b2))
  have f10 : Fld Z h6 b1 "java/lang/String" "coder" "B" (.int (0 : Int32)) := (((((F1_coder.ext E2).other W3 (Or.inl ne_b1_b2)).other W4 (Or.inl ne_b1_b2)).other W5 (Or.inl ne_b1_b2)).other W6 (Or.inl ne_b1_b2))
  have hp7 : ∀ c ∈ ([nar .char x0, nar .char x1, nar .char x2, nar .char x3] : List Int32), ¬ c < 0 ∧ ¬ (255 : Int32) < c := (own_p2 (own_cb hx0) (own_p2 (own_cb hx1) (own_p2 (own_cb hx2) (own_p1 (own_cb hx3)))))
  obtain ⟨_, _, ⟨T7, L7, k7, n7⟩, -, X7, ⟨Lc7, hQ7, cl_7, cy_7, cz_7⟩, st7⟩ := X6.specialBack hx (y := (⟨"java/lang/String", "<init>", "([C)V"⟩ : MethodName)) rfl hown (mvT hZ (hw _ (List.mem_of_getElem? (i := 12) rfl))) (mvT hZ (hw _ (List.mem_of_getElem? (i := 13) rfl))) (mvT hZ (hw _ (List.mem_of_getElem? (i := 14) rfl))) (by decide) (StrChars.Road.backV (W := 1) hZ (own_words hw) (kI := 4) (hw _ (List.mem_of_getElem? (i := 9) rfl)) (cs := ([nar .char x0, nar .char x1, nar .char x2, nar .char x3] : List Int32)) (bs := ([nar .char x0, nar .char x1, nar .char x2, nar .char x3] : List Int32).map (fun c => c.toInt8.toInt32)) (n := 4) g_b1 Z6 f8 f9 f10 V6 (S_CS.ext O6.2) hCS rfl rfl (by decide) (by decide) hp7 rfl (by decide) (by decide)) (g := (mkF m 111 #[.val (.int (4 : Int32)), .val (.int x0), .val (.int x1), .val (.int x2), .val (.int x3)] [(.ref b2), (.ref b1), (.ref b1)])) rfl (by rw [hml]; rfl) (Steps.refl _) (a := b1) (argsL := [(.ref b2)]) (rest := [(.ref b1)]) (lenOf pd_1 rfl) rfl (by show 2 * 0 + _ ≤ _; exact Nat.le_of_eq rfl) (hb hby d2_111) (fun _ _ => ⟨rfl, e6, (by decide : 2 + 1 ≤ _), (by decide : 8 + 4 ≤ _)⟩)
  dsimp only [Pt.U, Pt.locs, Pt.cells, Pt.slots] at X7 cl_7 cy_7 cz_7 st7 hQ7
  rw [cl_7, cy_7, cz_7] at X7
  obtain ⟨rfl, N7q, K7q, Es7, Cs7, t7, kb7, gt7, szt7, net7, Vs7, As7⟩ := hQ7
  have N7 := Fr.app N6 N7q
  have ne_b1_t7 : b1 ≠ t7 := Nat.ne_of_lt (Nat.lt_of_lt_of_le f8.lt szt7)
  have ne_b2_t7 : b2 ≠ t7 := Nat.ne_of_lt (Nat.lt_of_lt_of_le V6.lt szt7)
  have g_t7 : n0 ≤ t7 := Nat.le_trans Z6 szt7
  have sz_t7 : h0.size ≤ t7 := Nat.le_trans K6.1 szt7
  have Z7 : n0 ≤ T7.heap.size := Nat.le_trans Z6 K7q.1
  have K7 : Keep h0 T7.heap [] := K6.trans K7q (allS (Or.inr sz_b1) all0)
  have O7 : Old Z n0 T7.heap := O6.keep K7q (allS g_b1 all0)
  have Vl : Arv Z T7.heap t7 kb7 .byte (4 : Int32) [(.int ((nar .char x0).toInt8.toInt32)), (.int ((nar .char x1).toInt8.toInt32)), (.int ((nar .char x2).toInt8.toInt32)), (.int ((nar .char x3).toInt8.toInt32))] (.int 0) := As7
  have R11 : ∀ t, Steps p.tables e below (T7.setTop (mkF m 114 #[.val (.int (4 : Int32)), .val (.int x0), .val (.int x1), .val (.int x2), .val (.int x3)] [(.ref b1)])) t → Steps p.tables e below (s₁.setTop (entryFrame m #[(.int (4 : Int32)), (.int x0), (.int x1), (.int x2), (.int x3)] 5)) t := by
    intro t k
    refine R0 t ?_
    show Steps p.tables e below (s₁.setTop (mkF m 0 #[.val (.int (4 : Int32)), .val (.int x0), .val (.int x1), .val (.int x2), .val (.int x3)] [])) t
    refine XS.iloadN X0.here hx rfl (hb hby d2_0) rfl ?_
    show Steps p.tables e below (s₁.setTop (mkF m 1 #[.val (.int (4 : Int32)), .val (.int x0), .val (.int x1), .val (.int x2), .val (.int x3)] [(.int (4 : Int32))])) t
    refine XS.ifYes X0.here hx rfl (pc0 := 1) (pc' := 15) rfl (hb hby d2_1) rfl ((if0 _ _).trans (feq ((by decide) : ¬ ((4 : Int32) = (0 : Int32)))).2) (by decide) (by decide) ?_
    show Steps p.tables e below (s₁.setTop (mkF m 15 #[.val (.int (4 : Int32)), .val (.int x0), .val (.int x1), .val (.int x2), .val (.int x3)] [])) t
    refine XS.iloadN X0.here hx rfl (hb hby d2_15) rfl ?_
    show Steps p.tables e below (s₁.setTop (mkF m 16 #[.val (.int (4 : Int32)), .val (.int x0), .val (.int x1), .val (.int x2), .val (.int x3)] [(.int (4 : Int32))])) t
    refine XS.iconst X0.here hx rfl (hb hby d2_16) ?_
    show Steps p.tables e below (s₁.setTop (mkF m 17 #[.val (.int (4 : Int32)), .val (.int x0), .val (.int x1), .val (.int x2), .val (.int x3)] [(.int (1 : Int32)), (.int (4 : Int32))])) t
    refine XS.icmpYes X0.here hx rfl (pc0 := 17) (pc' := 35) rfl (hb hby d2_17) rfl (feq ((by decide) : ¬ ((4 : Int32) = (1 : Int32)))).2 (by decide) (by decide) ?_
    show Steps p.tables e below (s₁.setTop (mkF m 35 #[.val (.int (4 : Int32)), .val (.int x0), .val (.int x1), .val (.int x2), .val (.int x3)] [])) t
    refine XS.iloadN X0.here hx rfl (hb hby d2_35) rfl ?_
    show Steps p.tables e below (s₁.setTop (mkF m 36 #[.val (.int (4 : Int32)), .val (.int x0), .val (.int x1), .val (.int x2), .val (.int x3)] [(.int (4 : Int32))])) t
    refine XS.iconst X0.here hx rfl (hb hby d2_36) ?_
    show Steps p.tables e below (s₁.setTop (mkF m 37 #[.val (.int (4 : Int32)), .val (.int x0), .val (.int x1), .val (.int x2), .val (.int x3)] [(.int (2 : Int32)), (.int (4 : Int32))])) t
    refine XS.icmpYes X0.here hx rfl (pc0 := 37) (pc' := 59) rfl (hb hby d2_37) rfl (feq ((by decide) : ¬ ((4 : Int32) = (2 : Int32)))).2 (by decide) (by decide) ?_
    show Steps p.tables e below (s₁.setTop (mkF m 59 #[.val (.int (4 : Int32)), .val (.int x0), .val (.int x1), .val (.int x2), .val (.int x3)] [])) t
    refine XS.iloadN X0.here hx rfl (hb hby d2_59) rfl ?_
    show Steps p.tables e below (s₁.setTop (mkF m 60 #[.val (.int (4 : Int32)), .val (.int x0), .val (.int x1), .val (.int x2), .val (.int x3)] [(.int (4 : Int32))])) t
    refine XS.iconst X0.here hx rfl (hb hby d2_60) ?_
    show Steps p.tables e below (s₁.setTop (mkF m 61 #[.val (.int (4 : Int32)), .val (.int x0), .val (.int x1), .val (.int x2), .val (.int x3)] [(.int (3 : Int32)), (.int (4 : Int32))])) t
    refine XS.icmpYes X0.here hx rfl (pc0 := 61) (pc' := 87) rfl (hb hby d2_61) rfl (feq ((by decide) : ¬ ((4 : Int32) = (3 : Int32)))).2 (by decide) (by decide) ?_
    show Steps p.tables e below (s₁.setTop (mkF m 87 #[.val (.int (4 : Int32)), .val (.int x0), .val (.int x1), .val (.int x2), .val (.int x3)] [])) t
    refine st1 _ ?_
    show Steps p.tables e below (T1.setTop (mkF m 90 #[.val (.int (4 : Int32)), .val (.int x0), .val (.int x1), .val (.int x2), .val (.int x3)] [(.ref b1)])) t
    refine XS.dup X1.here hx rfl (hb hby d2_90) rfl rfl ?_
    show Steps p.tables e below (T1.setTop (mkF m 91 #[.val (.int (4 : Int32)), .val (.int x0), .val (.int x1), .val (.int x2), .val (.int x3)] [(.ref b1), (.ref b1)])) t
    refine XS.iconst X1.here hx rfl (hb hby d2_91) ?_
    show Steps p.tables e below (T1.setTop (mkF m 92 #[.val (.int (4 : Int32)), .val (.int x0), .val (.int x1), .val (.int x2), .val (.int x3)] [(.int (4 : Int32)), (.ref b1), (.ref b1)])) t
    refine st2 _ ?_
    show Steps p.tables e below (T2.setTop (mkF m 94 #[.val (.int (4 : Int32)), .val (.int x0), .val (.int x1), .val (.int x2), .val (.int x3)] [(.ref b2), (.ref b1), (.ref b1)])) t
    refine XS.dup X2.here hx rfl (hb hby d2_94) rfl rfl ?_
    show Steps p.tables e below (T2.setTop (mkF m 95 #[.val (.int (4 : Int32)), .val (.int x0), .val (.int x1), .val (.int x2), .val (.int x3)] [(.ref b2), (.ref b2), (.ref b1), (.ref b1)])) t
    refine XS.iconst X2.here hx rfl (hb hby d2_95) ?_
    show Steps p.tables e below (T2.setTop (mkF m 96 #[.val (.int (4 : Int32)), .val (.int x0), .val (.int x1), .val (.int x2), .val (.int x3)] [(.int (0 : Int32)), (.ref b2), (.ref b2), (.ref b1), (.ref b1)])) t
    refine XS.iloadN X2.here hx rfl (hb hby d2_96) rfl ?_
    show Steps p.tables e below (T2.setTop (mkF m 97 #[.val (.int (4 : Int32)), .val (.int x0), .val (.int x1), .val (.int x2), .val (.int x3)] [(.int x0), (.int (0 : Int32)), (.ref b2), (.ref b2), (.ref b1), (.ref b1)])) t
    refine st3 _ ?_
    show Steps p.tables e below (T3.setTop (mkF m 98 #[.val (.int (4 : Int32)), .val (.int x0), .val (.int x1), .val (.int x2), .val (.int x3)] [(.ref b2), (.ref b1), (.ref b1)])) t
    refine XS.dup X3.here hx rfl (hb hby d2_98) rfl rfl ?_
    show Steps p.tables e below (T3.setTop (mkF m 99 #[.val (.int (4 : Int32)), .val (.int x0), .val (.int x1), .val (.int x2), .val (.int x3)] [(.ref b2), (.ref b2), (.ref b1), (.ref b1)])) t
    refine XS.iconst X3.here hx rfl (hb hby d2_99) ?_
    show Steps p.tables e below (T3.setTop (mkF m 100 #[.val (.int (4 : Int32)), .val (.int x0), .val (.int x1), .val (.int x2), .val (.int x3)] [(.int (1 : Int32)), (.ref b2), (.ref b2), (.ref b1), (.ref b1)])) t
    refine XS.iloadN X3.here hx rfl (hb hby d2_100) rfl ?_
    show Steps p.tables e below (T3.setTop (mkF m 101 #[.val (.int (4 : Int32)), .val (.int x0), .val (.int x1), .val (.int x2), .val (.int x3)] [(.int x1), (.int (1 : Int32)), (.ref b2), (.ref b2), (.ref b1), (.ref b1)])) t
    refine st4 _ ?_
    show Steps p.tables e below (T4.setTop (mkF m 102 #[.val (.int (4 : Int32)), .val (.int x0), .val (.int x1), .val (.int x2), .val (.int x3)] [(.ref b2), (.ref b1), (.ref b1)])) t
    refine XS.dup X4.here hx rfl (hb hby d2_102) rfl rfl ?_
    show Steps p.tables e below (T4.setTop (mkF m 103 #[.val (.int (4 : Int32)), .val (.int x0), .val (.int x1), .val (.int x2), .val (.int x3)] [(.ref b2), (.ref b2), (.ref b1), (.ref b1)])) t
    refine XS.iconst X4.here hx rfl (hb hby d2_103) ?_
    show Steps p.tables e below (T4.setTop (mkF m 104 #[.val (.int (4 : Int32)), .val (.int x0), .val (.int x1), .val (.int x2), .val (.int x3)] [(.int (2 : Int32)), (.ref b2), (.ref b2), (.ref b1), (.ref b1)])) t
    refine XS.iloadN X4.here hx rfl (hb hby d2_104) rfl ?_
    show Steps p.tables e below (T4.setTop (mkF m 105 #[.val (.int (4 : Int32)), .val (.int x0), .val (.int x1), .val (.int x2), .val (.int x3)] [(.int x2), (.int (2 : Int32)), (.ref b2), (.ref b2), (.ref b1), (.ref b1)])) t
    refine st5 _ ?_
    show Steps p.tables e below (T5.setTop (mkF m 106 #[.val (.int (4 : Int32)), .val (.int x0), .val (.int x1), .val (.int x2), .val (.int x3)] [(.ref b2), (.ref b1), (.ref b1)])) t
    refine XS.dup X5.here hx rfl (hb hby d2_106) rfl rfl ?_
    show Steps p.tables e below (T5.setTop (mkF m 107 #[.val (.int (4 : Int32)), .val (.int x0), .val (.int x1), .val (.int x2), .val (.int x3)] [(.ref b2), (.ref b2), (.ref b1), (.ref b1)])) t
    refine XS.iconst X5.here hx rfl (hb hby d2_107) ?_
    show Steps p.tables e below (T5.setTop (mkF m 108 #[.val (.int (4 : Int32)), .val (.int x0), .val (.int x1), .val (.int x2), .val (.int x3)] [(.int (3 : Int32)), (.ref b2), (.ref b2), (.ref b1), (.ref b1)])) t
    refine XS.iload X5.here hx rfl (hb hby d2_108) rfl ?_
    show Steps p.tables e below (T5.setTop (mkF m 110 #[.val (.int (4 : Int32)), .val (.int x0), .val (.int x1), .val (.int x2), .val (.int x3)] [(.int x3), (.int (3 : Int32)), (.ref b2), (.ref b2), (.ref b1), (.ref b1)])) t
    refine st6 _ ?_
    show Steps p.tables e below (T6.setTop (mkF m 111 #[.val (.int (4 : Int32)), .val (.int x0), .val (.int x1), .val (.int x2), .val (.int x3)] [(.ref b2), (.ref b1), (.ref b1)])) t
    refine st7.trans ?_
    exact k
  obtain ⟨fs, hr, hrun, hended, hW, hsame⟩ := X7.leave (v := some (.ref b1)) (fun h => by rw [Bd.returns] at h; cases h)
  refine ⟨_, _, R11 _ ?_, hrun, hended, _, _, rfl, ?_, ⟨_, rfl⟩, hW, hsame.mono (by decide) (by decide)⟩
  · show Steps p.tables e below (T7.setTop (mkF m 114 #[.val (.int (4 : Int32)), .val (.int x0), .val (.int x1), .val (.int x2), .val (.int x3)] [(.ref b1)])) _
    exact retOut X7 hx Bd.returns rfl (Or.inr (Or.inr (Or.inr (Or.inr ⟨rfl, rfl, rfl⟩)))) (hb hby d2_114) hr
  · show Q_build4 Z zCS x0 x1 x2 x3 h0 n0 _ T7.heap _
    exact ⟨b1, t7, kb7, rfl, N7, K7, sz_b1, Es7, Cs7, Vs7, Vl⟩
theorem d6_0 : decode method_3_code 0 = .ok (.iload_n 0, 1) := by decide +kernel
theorem d6_1 : decode method_3_code 1 = .ok (.iconst 4, 1) := by decide +kernel
theorem d6_2 : decode method_3_code 2 = .ok (.if_icmp .lt 12, 3) := by decide +kernel
theorem d6_14 : decode method_3_code 14 = .ok (.iload_n 0, 1) := by decide +kernel
theorem d6_15 : decode method_3_code 15 = .ok (.iconst 3, 1) := by decide +kernel
theorem d6_16 : decode method_3_code 16 = .ok (.if_icmp .lt 11, 3) := by decide +kernel
theorem d6_27 : decode method_3_code 27 = .ok (.iload_n 0, 1) := by decide +kernel
theorem d6_28 : decode method_3_code 28 = .ok (.iconst 2, 1) := by decide +kernel
theorem d6_29 : decode method_3_code 29 = .ok (.if_icmp .lt 11, 3) := by decide +kernel
theorem d6_40 : decode method_3_code 40 = .ok (.iload_n 0, 1) := by decide +kernel
theorem d6_41 : decode method_3_code 41 = .ok (.iconst 1, 1) := by decide +kernel
theorem d6_42 : decode method_3_code 42 = .ok (.if_icmp .lt 11, 3) := by decide +kernel
theorem d6_53 : decode method_3_code 53 = .ok (.iconst (-1), 1) := by decide +kernel
theorem d6_54 : decode method_3_code 54 = .ok (.ireturn, 1) := by decide +kernel
theorem ef_ld0_m (m : MethodId) (x0 : Int32) (x1 : Int32) (x2 : Int32) (x3 : Int32) : entryFrame m #[(.int (0 : Int32)), (.int x0), (.int x1), (.int x2), (.int x3)] 5 = mkF m 0 #[.val (.int (0 : Int32)), .val (.int x0), .val (.int x1), .val (.int x2), .val (.int x3)] [] := by first | (simp [entryFrame, mkF, argsToLocals, Value.category]; done) | rfl
def Q_ld0_m (Z : State) (zCS : Int32) (x0 : Int32) (x1 : Int32) (x2 : Int32) (x3 : Int32) (h0 : Heap) (n0 : Nat) (vv_ : Option Value) (hh_ : Heap) (LL_ : List Loc) : Prop := vv_ = some (.int (-1 : Int32)) ∧ (Fr n0 LL_) ∧ (hh_ = h0)
set_option maxRecDepth 65536 in
set_option maxHeartbeats 40000000 in
theorem ld0_m (l : Launch) (Z : State) (a0 : Array Value) (hw : ∀ d ∈ tables_1, d.before a0 Z = true) (ws : List Jvm.Cond) (zCS : Int32) (x0 : Int32) (x1 : Int32) (x2 : Int32) (x3 : Int32) (h0 : Heap) (n0 : Nat) (O0 : Old Z n0 h0) (S_CS : Sta Z Z.heap "java/lang/String" "COMPACT_STRINGS" "Z" (.int zCS)) (hCS : ¬ (zCS = (0 : Int32))) (hcH : Jvm.Lit.constHeld Z "java/lang/String" 7) (hcW : Jvm.Lit.compactW.before a0 Z = true) :
    MetFree l (⟨"com/example/wiring_from_blueprints/wiringfromblueprints/internal/StaticFieldCheckedPinLaw", "lastDot", "(ICCCC)I"⟩ : MethodName) (head1 (Jvm.Cond.code (⟨"com/example/wiring_from_blueprints/wiringfromblueprints/internal/StaticFieldCheckedPinLaw", "lastDot", "(ICCCC)I"⟩ : MethodName) method_3_code 5 (some .int) :: ws) ({ frames := 0, cells := 0, slots := 0, locals := 0 } : Room)) (fun aa_ U_ => aa_ = #[(.int (0 : Int32)), (.int x0), (.int x1), (.int x2), (.int x3)] ∧ Z.Warmed39 U_.vm ∧ U_.heap = h0) (fun _ _ _ _ _ => True) (fun _ U_ oo_ V_ => ∃ vv_ LL_, oo_ = .returned vv_ ∧ Q_ld0_m Z zCS x0 x1 x2 x3 h0 n0 vv_ V_.heap LL_ ∧ FrameEnd U_ oo_ V_ LL_ ({ frames := 0, cells := 0, slots := 0, locals := 0 } : Room).cells ({ frames := 0, cells := 0, slots := 0, locals := 0 } : Room).slots) := by
  refine MetFree.of_bodySF (plainFor_of_name pn_com_example_wiring_from_blueprints_wiringfromblueprints_internal_StaticFieldCheckedPinLaw) hisR ?_
  intro p e s m args below meth c s₁ Bd hml0 hP hK
  obtain ⟨rfl, hZ, hh⟩ := hP
  have hx := Bd.exec
  have hby := Bd.bytes
  have hml : c.maxLocals = 5 := hml0
  have hown : s.vm.findClass "com/example/wiring_from_blueprints/wiringfromblueprints/internal/StaticFieldCheckedPinLaw" = some m.cls := findClass_of_methodNamed Bd.named
  have hnm := (name_of_methodNamed Bd.named Bd.method).1
  have X0 : Stand p l e ({ frames := 0, cells := 0, slots := 0, locals := 0 } : Room) s m #[(.int (0 : Int32)), (.int x0), (.int x1), (.int x2), (.int x3)] below meth c s₁ [] 0 0 := Stand.of_body Bd
  have e0 : s₁.heap = h0 := by rw [← hh, Bd.state]; rfl
  have N0 := Fr.nil n0
  have Z0 : n0 ≤ h0.size := O0.1 ▸ O0.2.1
  have hk0 := Nat.zero_le h0.size
  have K0 : Keep h0 h0 [] := Keep.refl _ _
  have R0 : ∀ t, Steps p.tables e below (s₁.setTop (mkF m 0 #[.val (.int (0 : Int32)), .val (.int x0), .val (.int x1), .val (.int x2), .val (.int x3)] [])) t → Steps p.tables e below (s₁.setTop (entryFrame m #[(.int (0 : Int32)), (.int x0), (.int x1), (.int x2), (.int x3)] 5)) t := fun t k => castTop (ef_ld0_m m x0 x1 x2 x3) k
  have R1 : ∀ t, Steps p.tables e below (s₁.setTop (mkF m 54 #[.val (.int (0 : Int32)), .val (.int x0), .val (.int x1), .val (.int x2), .val (.int x3)] [(.int (-1 : Int32))])) t → Steps p.tables e below (s₁.setTop (entryFrame m #[(.int (0 : Int32)), (.int x0), (.int x1), (.int x2), (.int x3)] 5)) t := by
    intro t k
    refine R0 t ?_
    show Steps p.tables e below (s₁.setTop (mkF m 0 #[.val (.int (0 : Int32)), .val (.int x0), .val (.int x1), .val (.int x2), .val (.int x3)] [])) t
    refine XS.iloadN X0.here hx rfl (hb hby d6_0) rfl ?_
    show Steps p.tables e below (s₁.setTop (mkF m 1 #[.val (.int (0 : Int32)), .val (.int x0), .val (.int x1), .val (.int x2), .val (.int x3)] [(.int (0 : Int32))])) t
    refine XS.iconst X0.here hx rfl (hb hby d6_1) ?_
    show Steps p.tables e below (s₁.setTop (mkF m 2 #[.val (.int (0 : Int32)), .val (.int x0), .val (.int x1), .val (.int x2), .val (.int x3)] [(.int (4 : Int32)), (.int (0 : Int32))])) t
    refine XS.icmpYes X0.here hx rfl (pc0 := 2) (pc' := 14) rfl (hb hby d6_2) rfl (tlt ((by decide) : (0 : Int32) < (4 : Int32))).1 (by decide) (by decide) ?_
    show Steps p.tables e below (s₁.setTop (mkF m 14 #[.val (.int (0 : Int32)), .val (.int x0), .val (.int x1), .val (.int x2), .val (.int x3)] [])) t
    refine XS.iloadN X0.here hx rfl (hb hby d6_14) rfl ?_
    show Steps p.tables e below (s₁.setTop (mkF m 15 #[.val (.int (0 : Int32)), .val (.int x0), .val (.int x1), .val (.int x2), .val (.int x3)] [(.int (0 : Int32))])) t
    refine XS.iconst X0.here hx rfl (hb hby d6_15) ?_
    show Steps p.tables e below (s₁.setTop (mkF m 16 #[.val (.int (0 : Int32)), .val (.int x0), .val (.int x1), .val (.int x2), .val (.int x3)] [(.int (3 : Int32)), (.int (0 : Int32))])) t
    refine XS.icmpYes X0.here hx rfl (pc0 := 16) (pc' := 27) rfl (hb hby d6_16) rfl (tlt ((by decide) : (0 : Int32) < (3 : Int32))).1 (by decide) (by decide) ?_
    show Steps p.tables e below (s₁.setTop (mkF m 27 #[.val (.int (0 : Int32)), .val (.int x0), .val (.int x1), .val (.int x2), .val (.int x3)] [])) t
    refine XS.iloadN X0.here hx rfl (hb hby d6_27) rfl ?_
    show Steps p.tables e below (s₁.setTop (mkF m 28 #[.val (.int (0 : Int32)), .val (.int x0), .val (.int x1), .val (.int x2), .val (.int x3)] [(.int (0 : Int32))])) t
    refine XS.iconst X0.here hx rfl (hb hby d6_28) ?_
    show Steps p.tables e below (s₁.setTop (mkF m 29 #[.val (.int (0 : Int32)), .val (.int x0), .val (.int x1), .val (.int x2), .val (.int x3)] [(.int (2 : Int32)), (.int (0 : Int32))])) t
    refine XS.icmpYes X0.here hx rfl (pc0 := 29) (pc' := 40) rfl (hb hby d6_29) rfl (tlt ((by decide) : (0 : Int32) < (2 : Int32))).1 (by decide) (by decide) ?_
    show Steps p.tables e below (s₁.setTop (mkF m 40 #[.val (.int (0 : Int32)), .val (.int x0), .val (.int x1), .val (.int x2), .val (.int x3)] [])) t
    refine XS.iloadN X0.here hx rfl (hb hby d6_40) rfl ?_
    show Steps p.tables e below (s₁.setTop (mkF m 41 #[.val (.int (0 : Int32)), .val (.int x0), .val (.int x1), .val (.int x2), .val (.int x3)] [(.int (0 : Int32))])) t
    refine XS.iconst X0.here hx rfl (hb hby d6_41) ?_
    show Steps p.tables e below (s₁.setTop (mkF m 42 #[.val (.int (0 : Int32)), .val (.int x0), .val (.int x1), .val (.int x2), .val (.int x3)] [(.int (1 : Int32)), (.int (0 : Int32))])) t
    refine XS.icmpYes X0.here hx rfl (pc0 := 42) (pc' := 53) rfl (hb hby d6_42) rfl (tlt ((by decide) : (0 : Int32) < (1 : Int32))).1 (by decide) (by decide) ?_
    show Steps p.tables e below (s₁.setTop (mkF m 53 #[.val (.int (0 : Int32)), .val (.int x0), .val (.int x1), .val (.int x2), .val (.int x3)] [])) t
    refine XS.iconst X0.here hx rfl (hb hby d6_53) ?_
    exact k
  obtain ⟨fs, hr, hrun, hended, hW, hsame⟩ := X0.leave (v := some (.int (-1 : Int32))) (fun h => by rw [Bd.returns] at h; cases h)
  refine ⟨_, _, R1 _ ?_, hrun, hended, _, _, rfl, ?_, ⟨_, rfl⟩, hW, hsame.mono (by decide) (by decide)⟩
  · show Steps p.tables e below (s₁.setTop (mkF m 54 #[.val (.int (0 : Int32)), .val (.int x0), .val (.int x1), .val (.int x2), .val (.int x3)] [(.int (-1 : Int32))])) _
    exact retOut X0 hx Bd.returns rfl (Or.inl ⟨rfl, Or.inl rfl, _, rfl⟩) (hb hby d6_54) hr
  · show Q_ld0_m Z zCS x0 x1 x2 x3 h0 n0 _ s₁.heap _
    rw [e0]
    exact ⟨rfl, N0, rfl⟩
theorem d6_45 : decode method_3_code 45 = .ok (.iload_n 1, 1) := by decide +kernel
theorem d6_46 : decode method_3_code 46 = .ok (.bipush 46, 2) := by decide +kernel
theorem d6_48 : decode method_3_code 48 = .ok (.if_icmp .ne 5, 3) := by decide +kernel
theorem ef_ld1_m (m : MethodId) (x0 : Int32) (x1 : Int32) (x2 : Int32) (x3 : Int32) : entryFrame m #[(.int (1 : Int32)), (.int x0), (.int x1), (.int x2), (.int x3)] 5 = mkF m 0 #[.val (.int (1 : Int32)), .val (.int x0), .val (.int x1), .val (.int x2), .val (.int x3)] [] := by first | (simp [entryFrame, mkF, argsToLocals, Value.category]; done) | rfl
def Q_ld1_m (Z : State) (zCS : Int32) (x0 : Int32) (x1 : Int32) (x2 : Int32) (x3 : Int32) (h0 : Heap) (n0 : Nat) (vv_ : Option Value) (hh_ : Heap) (LL_ : List Loc) : Prop := vv_ = some (.int (-1 : Int32)) ∧ (Fr n0 LL_) ∧ (hh_ = h0)
set_option maxRecDepth 65536 in
set_option maxHeartbeats 40000000 in
theorem ld1_m (l : Launch) (Z : State) (a0 : Array Value) (hw : ∀ d ∈ tables_1, d.before a0 Z = true) (ws : List Jvm.Cond) (zCS : Int32) (x0 : Int32) (x1 : Int32) (x2 : Int32) (x3 : Int32) (h0 : Heap) (n0 : Nat) (O0 : Old Z n0 h0) (S_CS : Sta Z Z.heap "java/lang/String" "COMPACT_STRINGS" "Z" (.int zCS)) (hCS : ¬ (zCS = (0 : Int32))) (hcH : Jvm.Lit.constHeld Z "java/lang/String" 7) (hcW : Jvm.Lit.compactW.before a0 Z = true) (hv0 : ¬ (x0 = (46 : Int32))) :
    MetFree l (⟨"com/example/wiring_from_blueprints/wiringfromblueprints/internal/StaticFieldCheckedPinLaw", "lastDot", "(ICCCC)I"⟩ : MethodName) (head1 (Jvm.Cond.code (⟨"com/example/wiring_from_blueprints/wiringfromblueprints/internal/StaticFieldCheckedPinLaw", "lastDot", "(ICCCC)I"⟩ : MethodName) method_3_code 5 (some .int) :: ws) ({ frames := 0, cells := 0, slots := 0, locals := 0 } : Room)) (fun aa_ U_ => aa_ = #[(.int (1 : Int32)), (.int x0), (.int x1), (.int x2), (.int x3)] ∧ Z.Warmed39 U_.vm ∧ U_.heap = h0) (fun _ _ _ _ _ => True) (fun _ U_ oo_ V_ => ∃ vv_ LL_, oo_ = .returned vv_ ∧ Q_ld1_m Z zCS x0 x1 x2 x3 h0 n0 vv_ V_.heap LL_ ∧ FrameEnd U_ oo_ V_ LL_ ({ frames := 0, cells := 0, slots := 0, locals := 0 } : Room).cells ({ frames := 0, cells := 0, slots := 0, locals := 0 } : Room).slots) := by
  refine MetFree.of_bodySF (plainFor_of_name pn_com_example_wiring_from_blueprints_wiringfromblueprints_internal_StaticFieldCheckedPinLaw) hisR ?_
  intro p e s m args below meth c s₁ Bd hml0 hP hK
  obtain ⟨rfl, hZ, hh⟩ := hP
  have hx := Bd.exec
  have hby := Bd.bytes
  have hml : c.maxLocals = 5 := hml0
  have hown : s.vm.findClass "com/example/wiring_from_blueprints/wiringfromblueprints/internal/StaticFieldCheckedPinLaw" = some m.cls := findClass_of_methodNamed Bd.named
  have hnm := (name_of_methodNamed Bd.named Bd.method).1
  have X0 : Stand p l e ({ frames := 0, cells := 0, slots := 0, locals := 0 } : Room) s m #[(.int (1 : Int32)), (.int x0), (.int x1), (.int x2), (.int x3)] below meth c s₁ [] 0 0 := Stand.of_body Bd
  have e0 : s₁.heap = h0 := by rw [← hh, Bd.state]; rfl
  have N0 := Fr.nil n0
  have Z0 : n0 ≤ h0.size := O0.1 ▸ O0.2.1
  have hk0 := Nat.zero_le h0.size
  have K0 : Keep h0 h0 [] := Keep.refl _ _
  have R0 : ∀ t, Steps p.tables e below (s₁.setTop (mkF m 0 #[.val (.int (1 : Int32)), .val (.int x0), .val (.int x1), .val (.int x2), .val (.int x3)] [])) t → Steps p.tables e below (s₁.setTop (entryFrame m #[(.int (1 : Int32)), (.int x0), (.int x1), (.int x2), (.int x3)] 5)) t := fun t k => castTop (ef_ld1_m m x0 x1 x2 x3) k
  have R1 : ∀ t, Steps p.tables e below (s₁.setTop (mkF m 54 #[.val (.int (1 : Int32)), .val (.int x0), .val (.int x1), .val (.int x2), .val (.int x3)] [(.int (-1 : Int32))])) t → Steps p.tables e below (s₁.setTop (entryFrame m #[(.int (1 : Int32)), (.int x0), (.int x1), (.int x2), (.int x3)] 5)) t := by
    intro t k
    refine R0 t ?_
    show Steps p.tables e below (s₁.setTop (mkF m 0 #[.val (.int (1 : Int32)), .val (.int x0), .val (.int x1), .val (.int x2), .val (.int x3)] [])) t
    refine XS.iloadN X0.here hx rfl (hb hby d6_0) rfl ?_
    show Steps p.tables e below (s₁.setTop (mkF m 1 #[.val (.int (1 : Int32)), .val (.int x0), .val (.int x1), .val (.int x2), .val (.int x3)] [(.int (1 : Int32))])) t
    refine XS.iconst X0.here hx rfl (hb hby d6_1) ?_
    show Steps p.tables e below (s₁.setTop (mkF m 2 #[.val (.int (1 : Int32)), .val (.int x0), .val (.int x1), .val (.int x2), .val (.int x3)] [(.int (4 : Int32)), (.int (1 : Int32))])) t
    refine XS.icmpYes X0.here hx rfl (pc0 := 2) (pc' := 14) rfl (hb hby d6_2) rfl (tlt ((by decide) : (1 : Int32) < (4 : Int32))).1 (by decide) (by decide) ?_
    show Steps p.tables e below (s₁.setTop (mkF m 14 #[.val (.int (1 : Int32)), .val (.int x0), .val (.int x1), .val (.int x2), .val (.int x3)] [])) t
    refine XS.iloadN X0.here hx rfl (hb hby d6_14) rfl ?_
    show Steps p.tables e below (s₁.setTop (mkF m 15 #[.val (.int (1 : Int32)), .val (.int x0), .val (.int x1), .val (.int x2), .val (.int x3)] [(.int (1 : Int32))])) t
    refine XS.iconst X0.here hx rfl (hb hby d6_15) ?_
    show Steps p.tables e below (s₁.setTop (mkF m 16 #[.val (.int (1 : Int32)), .val (.int x0), .val (.int x1), .val (.int x2), .val (.int x3)] [(.int (3 : Int32)), (.int (1 : Int32))])) t
    refine XS.icmpYes X0.here hx rfl (pc0 := 16) (pc' := 27) rfl (hb hby d6_16) rfl (tlt ((by decide) : (1 : Int32) < (3 : Int32))).1 (by decide) (by decide) ?_
    show Steps p.tables e below (s₁.setTop (mkF m 27 #[.val (.int (1 : Int32)), .val (.int x0), .val (.int x1), .val (.int x2), .val (.int x3)] [])) t
    refine XS.iloadN X0.here hx rfl (hb hby d6_27) rfl ?_
    show Steps p.tables e below (s₁.setTop (mkF m 28 #[.val (.int (1 : Int32)), .val (.int x0), .val (.int x1), .val (.int x2), .val (.int x3)] [(.int (1 : Int32))])) t
    refine XS.iconst X0.here hx rfl (hb hby d6_28) ?_
    show Steps p.tables e below (s₁.setTop (mkF m 29 #[.val (.int (1 : Int32)), .val (.int x0), .val (.int x1), .val (.int x2), .val (.int x3)] [(.int (2 : Int32)), (.int (1 : Int32))])) t
    refine XS.icmpYes X0.here hx rfl (pc0 := 29) (pc' := 40) rfl (hb hby d6_29) rfl (tlt ((by decide) : (1 : Int32) < (2 : Int32))).1 (by decide) (by decide) ?_
    show Steps p.tables e below (s₁.setTop (mkF m 40 #[.val (.int (1 : Int32)), .val (.int x0), .val (.int x1), .val (.int x2), .val (.int x3)] [])) t
    refine XS.iloadN X0.here hx rfl (hb hby d6_40) rfl ?_
    show Steps p.tables e below (s₁.setTop (mkF m 41 #[.val (.int (1 : Int32)), .val (.int x0), .val (.int x1), .val (.int x2), .val (.int x3)] [(.int (1 : Int32))])) t
    refine XS.iconst X0.here hx rfl (hb hby d6_41) ?_
    show Steps p.tables e below (s₁.setTop (mkF m 42 #[.val (.int (1 : Int32)), .val (.int x0), .val (.int x1), .val (.int x2), .val (.int x3)] [(.int (1 : Int32)), (.int (1 : Int32))])) t
    refine XS.icmpNo X0.here hx rfl (hb hby d6_42) rfl (flt ((by decide) : ¬ ((1 : Int32) < (1 : Int32)))).1 ?_
    show Steps p.tables e below (s₁.setTop (mkF m 45 #[.val (.int (1 : Int32)), .val (.int x0), .val (.int x1), .val (.int x2), .val (.int x3)] [])) t
    refine XS.iloadN X0.here hx rfl (hb hby d6_45) rfl ?_
    show Steps p.tables e below (s₁.setTop (mkF m 46 #[.val (.int (1 : Int32)), .val (.int x0), .val (.int x1), .val (.int x2), .val (.int x3)] [(.int x0)])) t
    refine XS.bipush X0.here hx rfl (hb hby d6_46) ?_
    show Steps p.tables e below (s₁.setTop (mkF m 48 #[.val (.int (1 : Int32)), .val (.int x0), .val (.int x1), .val (.int x2), .val (.int x3)] [(.int (46 : Int32)), (.int x0)])) t
    refine XS.icmpYes X0.here hx rfl (pc0 := 48) (pc' := 53) rfl (hb hby d6_48) rfl (feq (hv0 : ¬ (x0 = (46 : Int32)))).2 (by decide) (by decide) ?_
    show Steps p.tables e below (s₁.setTop (mkF m 53 #[.val (.int (1 : Int32)), .val (.int x0), .val (.int x1), .val (.int x2), .val (.int x3)] [])) t
    refine XS.iconst X0.here hx rfl (hb hby d6_53) ?_
    exact k
  obtain ⟨fs, hr, hrun, hended, hW, hsame⟩ := X0.leave (v := some (.int (-1 : Int32))) (fun h => by rw [Bd.returns] at h; cases h)
  refine ⟨_, _, R1 _ ?_, hrun, hended, _, _, rfl, ?_, ⟨_, rfl⟩, hW, hsame.mono (by decide) (by decide)⟩
  · show Steps p.tables e below (s₁.setTop (mkF m 54 #[.val (.int (1 : Int32)), .val (.int x0), .val (.int x1), .val (.int x2), .val (.int x3)] [(.int (-1 : Int32))])) _
    exact retOut X0 hx Bd.returns rfl (Or.inl ⟨rfl, Or.inl rfl, _, rfl⟩) (hb hby d6_54) hr
  · show Q_ld1_m Z zCS x0 x1 x2 x3 h0 n0 _ s₁.heap _
    rw [e0]
    exact ⟨rfl, N0, rfl⟩
theorem d6_51 : decode method_3_code 51 = .ok (.iconst 0, 1) := by decide +kernel
theorem d6_52 : decode method_3_code 52 = .ok (.ireturn, 1) := by decide +kernel
theorem ef_ld1_0 (m : MethodId) (x0 : Int32) (x1 : Int32) (x2 : Int32) (x3 : Int32) : entryFrame m #[(.int (1 : Int32)), (.int x0), (.int x1), (.int x2), (.int x3)] 5 = mkF m 0 #[.val (.int (1 : Int32)), .val (.int x0), .val (.int x1), .val (.int x2), .val (.int x3)] [] := by first | (simp [entryFrame, mkF, argsToLocals, Value.category]; done) | rfl
def Q_ld1_0 (Z : State) (zCS : Int32) (x0 : Int32) (x1 : Int32) (x2 : Int32) (x3 : Int32) (h0 : Heap) (n0 : Nat) (vv_ : Option Value) (hh_ : Heap) (LL_ : List Loc) : Prop := vv_ = some (.int (0 : Int32)) ∧ (Fr n0 LL_) ∧ (hh_ = h0)
set_option maxRecDepth 65536 in
set_option maxHeartbeats 40000000 in
theorem ld1_0 (l : Launch) (Z : State) (a0 : Array Value) (hw : ∀ d ∈ tables_1, d.before a0 Z = true) (ws : List Jvm.Cond) (zCS : Int32) (x0 : Int32) (x1 : Int32) (x2 : Int32) (x3 : Int32) (h0 : Heap) (n0 : Nat) (O0 : Old Z n0 h0) (S_CS : Sta Z Z.heap "java/lang/String" "COMPACT_STRINGS" "Z" (.int zCS)) (hCS : ¬ (zCS = (0 : Int32))) (hcH : Jvm.Lit.constHeld Z "java/lang/String" 7) (hcW : Jvm.Lit.compactW.before a0 Z = true) (hv0 : x0 = (46 : Int32)) :
    MetFree l (⟨"com/example/wiring_from_blueprints/wiringfromblueprints/internal/StaticFieldCheckedPinLaw", "lastDot", "(ICCCC)I"⟩ : MethodName) (head1 (Jvm.Cond.code (⟨"com/example/wiring_from_blueprints/wiringfromblueprints/internal/StaticFieldCheckedPinLaw", "lastDot", "(ICCCC)I"⟩ : MethodName) method_3_code 5 (some .int) :: ws) ({ frames := 0, cells := 0, slots := 0, locals := 0 } : Room)) (fun aa_ U_ => aa_ = #[(.int (1 : Int32)), (.int x0), (.int x1), (.int x2), (.int x3)] ∧ Z.Warmed39 U_.vm ∧ U_.heap = h0) (fun _ _ _ _ _ => True) (fun _ U_ oo_ V_ => ∃ vv_ LL_, oo_ = .returned vv_ ∧ Q_ld1_0 Z zCS x0 x1 x2 x3 h0 n0 vv_ V_.heap LL_ ∧ FrameEnd U_ oo_ V_ LL_ ({ frames := 0, cells := 0, slots := 0, locals := 0 } : Room).cells ({ frames := 0, cells := 0, slots := 0, locals := 0 } : Room).slots) := by
  refine MetFree.of_bodySF (plainFor_of_name pn_com_example_wiring_from_blueprints_wiringfromblueprints_internal_StaticFieldCheckedPinLaw) hisR ?_
  intro p e s m args below meth c s₁ Bd hml0 hP hK
  obtain ⟨rfl, hZ, hh⟩ := hP
  have hx := Bd.exec
  have hby := Bd.bytes
  have hml : c.maxLocals = 5 := hml0
  have hown : s.vm.findClass "com/example/wiring_from_blueprints/wiringfromblueprints/internal/StaticFieldCheckedPinLaw" = some m.cls := findClass_of_methodNamed Bd.named
  have hnm := (name_of_methodNamed Bd.named Bd.method).1
  have X0 : Stand p l e ({ frames := 0, cells := 0, slots := 0, locals := 0 } : Room) s m #[(.int (1 : Int32)), (.int x0), (.int x1), (.int x2), (.int x3)] below meth c s₁ [] 0 0 := Stand.of_body Bd
  have e0 : s₁.heap = h0 := by rw [← hh, Bd.state]; rfl
  have N0 := Fr.nil n0
  have Z0 : n0 ≤ h0.size := O0.1 ▸ O0.2.1
  have hk0 := Nat.zero_le h0.size
  have K0 : Keep h0 h0 [] := Keep.refl _ _
  have R0 : ∀ t, Steps p.tables e below (s₁.setTop (mkF m 0 #[.val (.int (1 : Int32)), .val (.int x0), .val (.int x1), .val (.int x2), .val (.int x3)] [])) t → Steps p.tables e below (s₁.setTop (entryFrame m #[(.int (1 : Int32)), (.int x0), (.int x1), (.int x2), (.int x3)] 5)) t := fun t k => castTop (ef_ld1_0 m x0 x1 x2 x3) k
  have R1 : ∀ t, Steps p.tables e below (s₁.setTop (mkF m 52 #[.val (.int (1 : Int32)), .val (.int x0), .val (.int x1), .val (.int x2), .val (.int x3)] [(.int (0 : Int32))])) t → Steps p.tables e below (s₁.setTop (entryFrame m #[(.int (1 : Int32)), (.int x0), (.int x1), (.int x2), (.int x3)] 5)) t := by
    intro t k
    refine R0 t ?_
    show Steps p.tables e below (s₁.setTop (mkF m 0 #[.val (.int (1 : Int32)), .val (.int x0), .val (.int x1), .val (.int x2), .val (.int x3)] [])) t
    refine XS.iloadN X0.here hx rfl (hb hby d6_0) rfl ?_
    show Steps p.tables e below (s₁.setTop (mkF m 1 #[.val (.int (1 : Int32)), .val (.int x0), .val (.int x1), .val (.int x2), .val (.int x3)] [(.int (1 : Int32))])) t
    refine XS.iconst X0.here hx rfl (hb hby d6_1) ?_
    show Steps p.tables e below (s₁.setTop (mkF m 2 #[.val (.int (1 : Int32)), .val (.int x0), .val (.int x1), .val (.int x2), .val (.int x3)] [(.int (4 : Int32)), (.int (1 : Int32))])) t
    refine XS.icmpYes X0.here hx rfl (pc0 := 2) (pc' := 14) rfl (hb hby d6_2) rfl (tlt ((by decide) : (1 : Int32) < (4 : Int32))).1 (by decide) (by decide) ?_
    show Steps p.tables e below (s₁.setTop (mkF m 14 #[.val (.int (1 : Int32)), .val (.int x0), .val (.int x1), .val (.int x2), .val (.int x3)] [])) t
    refine XS.iloadN X0.here hx rfl (hb hby d6_14) rfl ?_
    show Steps p.tables e below (s₁.setTop (mkF m 15 #[.val (.int (1 : Int32)), .val (.int x0), .val (.int x1), .val (.int x2), .val (.int x3)] [(.int (1 : Int32))])) t
    refine XS.iconst X0.here hx rfl (hb hby d6_15) ?_
    show Steps p.tables e below (s₁.setTop (mkF m 16 #[.val (.int (1 : Int32)), .val (.int x0), .val (.int x1), .val (.int x2), .val (.int x3)] [(.int (3 : Int32)), (.int (1 : Int32))])) t
    refine XS.icmpYes X0.here hx rfl (pc0 := 16) (pc' := 27) rfl (hb hby d6_16) rfl (tlt ((by decide) : (1 : Int32) < (3 : Int32))).1 (by decide) (by decide) ?_
    show Steps p.tables e below (s₁.setTop (mkF m 27 #[.val (.int (1 : Int32)), .val (.int x0), .val (.int x1), .val (.int x2), .val (.int x3)] [])) t
    refine XS.iloadN X0.here hx rfl (hb hby d6_27) rfl ?_
    show Steps p.tables e below (s₁.setTop (mkF m 28 #[.val (.int (1 : Int32)), .val (.int x0), .val (.int x1), .val (.int x2), .val (.int x3)] [(.int (1 : Int32))])) t
    refine XS.iconst X0.here hx rfl (hb hby d6_28) ?_
    show Steps p.tables e below (s₁.setTop (mkF m 29 #[.val (.int (1 : Int32)), .val (.int x0), .val (.int x1), .val (.int x2), .val (.int x3)] [(.int (2 : Int32)), (.int (1 : Int32))])) t
    refine XS.icmpYes X0.here hx rfl (pc0 := 29) (pc' := 40) rfl (hb hby d6_29) rfl (tlt ((by decide) : (1 : Int32) < (2 : Int32))).1 (by decide) (by decide) ?_
    show Steps p.tables e below (s₁.setTop (mkF m 40 #[.val (.int (1 : Int32)), .val (.int x0), .val (.int x1), .val (.int x2), .val (.int x3)] [])) t
    refine XS.iloadN X0.here hx rfl (hb hby d6_40) rfl ?_
    show Steps p.tables e below (s₁.setTop (mkF m 41 #[.val (.int (1 : Int32)), .val (.int x0), .val (.int x1), .val (.int x2), .val (.int x3)] [(.int (1 : Int32))])) t
    refine XS.iconst X0.here hx rfl (hb hby d6_41) ?_
    show Steps p.tables e below (s₁.setTop (mkF m 42 #[.val (.int (1 : Int32)), .val (.int x0), .val (.int x1), .val (.int x2), .val (.int x3)] [(.int (1 : Int32)), (.int (1 : Int32))])) t
    refine XS.icmpNo X0.here hx rfl (hb hby d6_42) rfl (flt ((by decide) : ¬ ((1 : Int32) < (1 : Int32)))).1 ?_
    show Steps p.tables e below (s₁.setTop (mkF m 45 #[.val (.int (1 : Int32)), .val (.int x0), .val (.int x1), .val (.int x2), .val (.int x3)] [])) t
    refine XS.iloadN X0.here hx rfl (hb hby d6_45) rfl ?_
    show Steps p.tables e below (s₁.setTop (mkF m 46 #[.val (.int (1 : Int32)), .val (.int x0), .val (.int x1), .val (.int x2), .val (.int x3)] [(.int x0)])) t
    refine XS.bipush X0.here hx rfl (hb hby d6_46) ?_
    show Steps p.tables e below (s₁.setTop (mkF m 48 #[.val (.int (1 : Int32)), .val (.int x0), .val (.int x1), .val (.int x2), .val (.int x3)] [(.int (46 : Int32)), (.int x0)])) t
    refine XS.icmpNo X0.here hx rfl (hb hby d6_48) rfl (teq (hv0 : x0 = (46 : Int32))).2 ?_
    show Steps p.tables e below (s₁.setTop (mkF m 51 #[.val (.int (1 : Int32)), .val (.int x0), .val (.int x1), .val (.int x2), .val (.int x3)] [])) t
    refine XS.iconst X0.here hx rfl (hb hby d6_51) ?_
    exact k
  obtain ⟨fs, hr, hrun, hended, hW, hsame⟩ := X0.leave (v := some (.int (0 : Int32))) (fun h => by rw [Bd.returns] at h; cases h)
  refine ⟨_, _, R1 _ ?_, hrun, hended, _, _, rfl, ?_, ⟨_, rfl⟩, hW, hsame.mono (by decide) (by decide)⟩
  · show Steps p.tables e below (s₁.setTop (mkF m 52 #[.val (.int (1 : Int32)), .val (.int x0), .val (.int x1), .val (.int x2), .val (.int x3)] [(.int (0 : Int32))])) _
    exact retOut X0 hx Bd.returns rfl (Or.inl ⟨rfl, Or.inl rfl, _, rfl⟩) (hb hby d6_52) hr
  · show Q_ld1_0 Z zCS x0 x1 x2 x3 h0 n0 _ s₁.heap _
    rw [e0]
    exact ⟨rfl, N0, rfl⟩
theorem d6_32 : decode method_3_code 32 = .ok (.iload_n 2, 1) := by decide +kernel
theorem d6_33 : decode method_3_code 33 = .ok (.bipush 46, 2) := by decide +kernel
theorem d6_35 : decode method_3_code 35 = .ok (.if_icmp .ne 5, 3) := by decide +kernel
theorem ef_ld2_m (m : MethodId) (x0 : Int32) (x1 : Int32) (x2 : Int32) (x3 : Int32) : entryFrame m #[(.int (2 : Int32)), (.int x0), (.int x1), (.int x2), (.int x3)] 5 = mkF m 0 #[.val (.int (2 : Int32)), .val (.int x0), .val (.int x1), .val (.int x2), .val (.int x3)] [] := by first | (simp [entryFrame, mkF, argsToLocals, Value.category]; done) | rfl
def Q_ld2_m (Z : State) (zCS : Int32) (x0 : Int32) (x1 : Int32) (x2 : Int32) (x3 : Int32) (h0 : Heap) (n0 : Nat) (vv_ : Option Value) (hh_ : Heap) (LL_ : List Loc) : Prop := vv_ = some (.int (-1 : Int32)) ∧ (Fr n0 LL_) ∧ (hh_ = h0)
set_option maxRecDepth 65536 in
set_option maxHeartbeats 40000000 in
theorem ld2_m (l : Launch) (Z : State) (a0 : Array Value) (hw : ∀ d ∈ tables_1, d.before a0 Z = true) (ws : List Jvm.Cond) (zCS : Int32) (x0 : Int32) (x1 : Int32) (x2 : Int32) (x3 : Int32) (h0 : Heap) (n0 : Nat) (O0 : Old Z n0 h0) (S_CS : Sta Z Z.heap "java/lang/String" "COMPACT_STRINGS" "Z" (.int zCS)) (hCS : ¬ (zCS = (0 : Int32))) (hcH : Jvm.Lit.constHeld Z "java/lang/String" 7) (hcW : Jvm.Lit.compactW.before a0 Z = true) (hv1 : ¬ (x1 = (46 : Int32))) (hv0 : ¬ (x0 = (46 : Int32))) :
    MetFree l (⟨"com/example/wiring_from_blueprints/wiringfromblueprints/internal/StaticFieldCheckedPinLaw", "lastDot", "(ICCCC)I"⟩ : MethodName) (head1 (Jvm.Cond.code (⟨"com/example/wiring_from_blueprints/wiringfromblueprints/internal/StaticFieldCheckedPinLaw", "lastDot", "(ICCCC)I"⟩ : MethodName) method_3_code 5 (some .int) :: ws) ({ frames := 0, cells := 0, slots := 0, locals := 0 } : Room)) (fun aa_ U_ => aa_ = #[(.int (2 : Int32)), (.int x0), (.int x1), (.int x2), (.int x3)] ∧ Z.Warmed39 U_.vm ∧ U_.heap = h0) (fun _ _ _ _ _ => True) (fun _ U_ oo_ V_ => ∃ vv_ LL_, oo_ = .returned vv_ ∧ Q_ld2_m Z zCS x0 x1 x2 x3 h0 n0 vv_ V_.heap LL_ ∧ FrameEnd U_ oo_ V_ LL_ ({ frames := 0, cells := 0, slots := 0, locals := 0 } : Room).cells ({ frames := 0, cells := 0, slots := 0, locals := 0 } : Room).slots) := by
  refine MetFree.of_bodySF (plainFor_of_name pn_com_example_wiring_from_blueprints_wiringfromblueprints_internal_StaticFieldCheckedPinLaw) hisR ?_
  intro p e s m args below meth c s₁ Bd hml0 hP hK
  obtain ⟨rfl, hZ, hh⟩ := hP
  have hx := Bd.exec
  have hby := Bd.bytes
  have hml : c.maxLocals = 5 := hml0
  have hown : s.vm.findClass "com/example/wiring_from_blueprints/wiringfromblueprints/internal/StaticFieldCheckedPinLaw" = some m.cls := findClass_of_methodNamed Bd.named
  have hnm := (name_of_methodNamed Bd.named Bd.method).1
  have X0 : Stand p l e ({ frames := 0, cells := 0, slots := 0, locals := 0 } : Room) s m #[(.int (2 : Int32)), (.int x0), (.int x1), (.int x2), (.int x3)] below meth c s₁ [] 0 0 := Stand.of_body Bd
  have e0 : s₁.heap = h0 := by rw [← hh, Bd.state]; rfl
  have N0 := Fr.nil n0
  have Z0 : n0 ≤ h0.size := O0.1 ▸ O0.2.1
  have hk0 := Nat.zero_le h0.size
  have K0 : Keep h0 h0 [] := Keep.refl _ _
  have R0 : ∀ t, Steps p.tables e below (s₁.setTop (mkF m 0 #[.val (.int (2 : Int32)), .val (.int x0), .val (.int x1), .val (.int x2), .val (.int x3)] [])) t → Steps p.tables e below (s₁.setTop (entryFrame m #[(.int (2 : Int32)), (.int x0), (.int x1), (.int x2), (.int x3)] 5)) t := fun t k => castTop (ef_ld2_m m x0 x1 x2 x3) k
  have R1 : ∀ t, Steps p.tables e below (s₁.setTop (mkF m 54 #[.val (.int (2 : Int32)), .val (.int x0), .val (.int x1), .val (.int x2), .val (.int x3)] [(.int (-1 : Int32))])) t → Steps p.tables e below (s₁.setTop (entryFrame m #[(.int (2 : Int32)), (.int x0), (.int x1), (.int x2), (.int x3)] 5)) t := by
    intro t k
    refine R0 t ?_
    show Steps p.tables e below (s₁.setTop (mkF m 0 #[.val (.int (2 : Int32)), .val (.int x0), .val (.int x1), .val (.int x2), .val (.int x3)] [])) t
    refine XS.iloadN X0.here hx rfl (hb hby d6_0) rfl ?_
    show Steps p.tables e below (s₁.setTop (mkF m 1 #[.val (.int (2 : Int32)), .val (.int x0), .val (.int x1), .val (.int x2), .val (.int x3)] [(.int (2 : Int32))])) t
    refine XS.iconst X0.here hx rfl (hb hby d6_1) ?_
    show Steps p.tables e below (s₁.setTop (mkF m 2 #[.val (.int (2 : Int32)), .val (.int x0), .val (.int x1), .val (.int x2), .val (.int x3)] [(.int (4 : Int32)), (.int (2 : Int32))])) t
    refine XS.icmpYes X0.here hx rfl (pc0 := 2) (pc' := 14) rfl (hb hby d6_2) rfl (tlt ((by decide) : (2 : Int32) < (4 : Int32))).1 (by decide) (by decide) ?_
    show Steps p.tables e below (s₁.setTop (mkF m 14 #[.val (.int (2 : Int32)), .val (.int x0), .val (.int x1), .val (.int x2), .val (.int x3)] [])) t
    refine XS.iloadN X0.here hx rfl (hb hby d6_14) rfl ?_
    show Steps p.tables e below (s₁.setTop (mkF m 15 #[.val (.int (2 : Int32)), .val (.int x0), .val (.int x1), .val (.int x2), .val (.int x3)] [(.int (2 : Int32))])) t
    refine XS.iconst X0.here hx rfl (hb hby d6_15) ?_
    show Steps p.tables e below (s₁.setTop (mkF m 16 #[.val (.int (2 : Int32)), .val (.int x0), .val (.int x1), .val (.int x2), .val (.int x3)] [(.int (3 : Int32)), (.int (2 : Int32))])) t
    refine XS.icmpYes X0.here hx rfl (pc0 := 16) (pc' := 27) rfl (hb hby d6_16) rfl (tlt ((by decide) : (2 : Int32) < (3 : Int32))).1 (by decide) (by decide) ?_
    show Steps p.tables e below (s₁.setTop (mkF m 27 #[.val (.int (2 : Int32)), .val (.int x0), .val (.int x1), .val (.int x2), .val (.int x3)] [])) t
    refine XS.iloadN X0.here hx rfl (hb hby d6_27) rfl ?_
    show Steps p.tables e below (s₁.setTop (mkF m 28 #[.val (.int (2 : Int32)), .val (.int x0), .val (.int x1), .val (.int x2), .val (.int x3)] [(.int (2 : Int32))])) t
    refine XS.iconst X0.here hx rfl (hb hby d6_28) ?_
    show Steps p.tables e below (s₁.setTop (mkF m 29 #[.val (.int (2 : Int32)), .val (.int x0), .val (.int x1), .val (.int x2), .val (.int x3)] [(.int (2 : Int32)), (.int (2 : Int32))])) t
    refine XS.icmpNo X0.here hx rfl (hb hby d6_29) rfl (flt ((by decide) : ¬ ((2 : Int32) < (2 : Int32)))).1 ?_
    show Steps p.tables e below (s₁.setTop (mkF m 32 #[.val (.int (2 : Int32)), .val (.int x0), .val (.int x1), .val (.int x2), .val (.int x3)] [])) t
    refine XS.iloadN X0.here hx rfl (hb hby d6_32) rfl ?_
    show Steps p.tables e below (s₁.setTop (mkF m 33 #[.val (.int (2 : Int32)), .val (.int x0), .val (.int x1), .val (.int x2), .val (.int x3)] [(.int x1)])) t
    refine XS.bipush X0.here hx rfl (hb hby d6_33) ?_
    show Steps p.tables e below (s₁.setTop (mkF m 35 #[.val (.int (2 : Int32)), .val (.int x0), .val (.int x1), .val (.int x2), .val (.int x3)] [(.int (46 : Int32)), (.int x1)])) t
    refine XS.icmpYes X0.here hx rfl (pc0 := 35) (pc' := 40) rfl (hb hby d6_35) rfl (feq (hv1 : ¬ (x1 = (46 : Int32)))).2 (by decide) (by decide) ?_
    show Steps p.tables e below (s₁.setTop (mkF m 40 #[.val (.int (2 : Int32)), .val (.int x0), .val (.int x1), .val (.int x2), .val (.int x3)] [])) t
    refine XS.iloadN X0.here hx rfl (hb hby d6_40) rfl ?_
    show Steps p.tables e below (s₁.setTop (mkF m 41 #[.val (.int (2 : Int32)), .val (.int x0), .val (.int x1), .val (.int x2), .val (.int x3)] [(.int (2 : Int32))])) t
    refine XS.iconst X0.here hx rfl (hb hby d6_41) ?_
    show Steps p.tables e below (s₁.setTop (mkF m 42 #[.val (.int (2 : Int32)), .val (.int x0), .val (.int x1), .val (.int x2), .val (.int x3)] [(.int (1 : Int32)), (.int (2 : Int32))])) t
    refine XS.icmpNo X0.here hx rfl (hb hby d6_42) rfl (flt ((by decide) : ¬ ((2 : Int32) < (1 : Int32)))).1 ?_
    show Steps p.tables e below (s₁.setTop (mkF m 45 #[.val (.int (2 : Int32)), .val (.int x0), .val (.int x1), .val (.int x2), .val (.int x3)] [])) t
    refine XS.iloadN X0.here hx rfl (hb hby d6_45) rfl ?_
    show Steps p.tables e below (s₁.setTop (mkF m 46 #[.val (.int (2 : Int32)), .val (.int x0), .val (.int x1), .val (.int x2), .val (.int x3)] [(.int x0)])) t
    refine XS.bipush X0.here hx rfl (hb hby d6_46) ?_
    show Steps p.tables e below (s₁.setTop (mkF m 48 #[.val (.int (2 : Int32)), .val (.int x0), .val (.int x1), .val (.int x2), .val (.int x3)] [(.int (46 : Int32)), (.int x0)])) t
    refine XS.icmpYes X0.here hx rfl (pc0 := 48) (pc' := 53) rfl (hb hby d6_48) rfl (feq (hv0 : ¬ (x0 = (46 : Int32)))).2 (by decide) (by decide) ?_
    show Steps p.tables e below (s₁.setTop (mkF m 53 #[.val (.int (2 : Int32)), .val (.int x0), .val (.int x1), .val (.int x2), .val (.int x3)] [])) t
    refine XS.iconst X0.here hx rfl (hb hby d6_53) ?_
    exact k
  obtain ⟨fs, hr, hrun, hended, hW, hsame⟩ := X0.leave (v := some (.int (-1 : Int32))) (fun h => by rw [Bd.returns] at h; cases h)
  refine ⟨_, _, R1 _ ?_, hrun, hended, _, _, rfl, ?_, ⟨_, rfl⟩, hW, hsame.mono (by decide) (by decide)⟩
  · show Steps p.tables e below (s₁.setTop (mkF m 54 #[.val (.int (2 : Int32)), .val (.int x0), .val (.int x1), .val (.int x2), .val (.int x3)] [(.int (-1 : Int32))])) _
    exact retOut X0 hx Bd.returns rfl (Or.inl ⟨rfl, Or.inl rfl, _, rfl⟩) (hb hby d6_54) hr
  · show Q_ld2_m Z zCS x0 x1 x2 x3 h0 n0 _ s₁.heap _
    rw [e0]
    exact ⟨rfl, N0, rfl⟩
theorem ef_ld2_0 (m : MethodId) (x0 : Int32) (x1 : Int32) (x2 : Int32) (x3 : Int32) : entryFrame m #[(.int (2 : Int32)), (.int x0), (.int x1), (.int x2), (.int x3)] 5 = mkF m 0 #[.val (.int (2 : Int32)), .val (.int x0), .val (.int x1), .val (.int x2), .val (.int x3)] [] := by first | (simp [entryFrame, mkF, argsToLocals, Value.category]; done) | rfl
def Q_ld2_0 (Z : State) (zCS : Int32) (x0 : Int32) (x1 : Int32) (x2 : Int32) (x3 : Int32) (h0 : Heap) (n0 : Nat) (vv_ : Option Value) (hh_ : Heap) (LL_ : List Loc) : Prop := vv_ = some (.int (0 : Int32)) ∧ (Fr n0 LL_) ∧ (hh_ = h0)
set_option maxRecDepth 65536 in
set_option maxHeartbeats 40000000 in
theorem ld2_0 (l : Launch) (Z : State) (a0 : Array Value) (hw : ∀ d ∈ tables_1, d.before a0 Z = true) (ws : List Jvm.Cond) (zCS : Int32) (x0 : Int32) (x1 : Int32) (x2 : Int32) (x3 : Int32) (h0 : Heap) (n0 : Nat) (O0 : Old Z n0 h0) (S_CS : Sta Z Z.heap "java/lang/String" "COMPACT_STRINGS" "Z" (.int zCS)) (hCS : ¬ (zCS = (0 : Int32))) (hcH : Jvm.Lit.constHeld Z "java/lang/String" 7) (hcW : Jvm.Lit.compactW.before a0 Z = true) (hv1 : ¬ (x1 = (46 : Int32))) (hv0 : x0 = (46 : Int32)) :
    MetFree l (⟨"com/example/wiring_from_blueprints/wiringfromblueprints/internal/StaticFieldCheckedPinLaw", "lastDot", "(ICCCC)I"⟩ : MethodName) (head1 (Jvm.Cond.code (⟨"com/example/wiring_from_blueprints/wiringfromblueprints/internal/StaticFieldCheckedPinLaw", "lastDot", "(ICCCC)I"⟩ : MethodName) method_3_code 5 (some .int) :: ws) ({ frames := 0, cells := 0, slots := 0, locals := 0 } : Room)) (fun aa_ U_ => aa_ = #[(.int (2 : Int32)), (.int x0), (.int x1), (.int x2), (.int x3)] ∧ Z.Warmed39 U_.vm ∧ U_.heap = h0) (fun _ _ _ _ _ => True) (fun _ U_ oo_ V_ => ∃ vv_ LL_, oo_ = .returned vv_ ∧ Q_ld2_0 Z zCS x0 x1 x2 x3 h0 n0 vv_ V_.heap LL_ ∧ FrameEnd U_ oo_ V_ LL_ ({ frames := 0, cells := 0, slots := 0, locals := 0 } : Room).cells ({ frames := 0, cells := 0, slots := 0, locals := 0 } : Room).slots) := by
  refine MetFree.of_bodySF (plainFor_of_name pn_com_example_wiring_from_blueprints_wiringfromblueprints_internal_StaticFieldCheckedPinLaw) hisR ?_
  intro p e s m args below meth c s₁ Bd hml0 hP hK
  obtain ⟨rfl, hZ, hh⟩ := hP
  have hx := Bd.exec
  have hby := Bd.bytes
  have hml : c.maxLocals = 5 := hml0
  have hown : s.vm.findClass "com/example/wiring_from_blueprints/wiringfromblueprints/internal/StaticFieldCheckedPinLaw" = some m.cls := findClass_of_methodNamed Bd.named
  have hnm := (name_of_methodNamed Bd.named Bd.method).1
  have X0 : Stand p l e ({ frames := 0, cells := 0, slots := 0, locals := 0 } : Room) s m #[(.int (2 : Int32)), (.int x0), (.int x1), (.int x2), (.int x3)] below meth c s₁ [] 0 0 := Stand.of_body Bd
  have e0 : s₁.heap = h0 := by rw [← hh, Bd.state]; rfl
  have N0 := Fr.nil n0
  have Z0 : n0 ≤ h0.size := O0.1 ▸ O0.2.1
  have hk0 := Nat.zero_le h0.size
  have K0 : Keep h0 h0 [] := Keep.refl _ _
  have R0 : ∀ t, Steps p.tables e below (s₁.setTop (mkF m 0 #[.val (.int (2 : Int32)), .val (.int x0), .val (.int x1), .val (.int x2), .val (.int x3)] [])) t → Steps p.tables e below (s₁.setTop (entryFrame m #[(.int (2 : Int32)), (.int x0), (.int x1), (.int x2), (.int x3)] 5)) t := fun t k => castTop (ef_ld2_0 m x0 x1 x2 x3) k
  have R1 : ∀ t, Steps p.tables e below (s₁.setTop (mkF m 52 #[.val (.int (2 : Int32)), .val (.int x0), .val (.int x1), .val (.int x2), .val (.int x3)] [(.int (0 : Int32))])) t → Steps p.tables e below (s₁.setTop (entryFrame m #[(.int (2 : Int32)), (.int x0), (.int x1), (.int x2), (.int x3)] 5)) t := by
    intro t k
    refine R0 t ?_
    show Steps p.tables e below (s₁.setTop (mkF m 0 #[.val (.int (2 : Int32)), .val (.int x0), .val (.int x1), .val (.int x2), .val (.int x3)] [])) t
    refine XS.iloadN X0.here hx rfl (hb hby d6_0) rfl ?_
    show Steps p.tables e below (s₁.setTop (mkF m 1 #[.val (.int (2 : Int32)), .val (.int x0), .val (.int x1), .val (.int x2), .val (.int x3)] [(.int (2 : Int32))])) t
    refine XS.iconst X0.here hx rfl (hb hby d6_1) ?_
    show Steps p.tables e below (s₁.setTop (mkF m 2 #[.val (.int (2 : Int32)), .val (.int x0), .val (.int x1), .val (.int x2), .val (.int x3)] [(.int (4 : Int32)), (.int (2 : Int32))])) t
    refine XS.icmpYes X0.here hx rfl (pc0 := 2) (pc' := 14) rfl (hb hby d6_2) rfl (tlt ((by decide) : (2 : Int32) < (4 : Int32))).1 (by decide) (by decide) ?_
    show Steps p.tables e below (s₁.setTop (mkF m 14 #[.val (.int (2 : Int32)), .val (.int x0), .val (.int x1), .val (.int x2), .val (.int x3)] [])) t
    refine XS.iloadN X0.here hx rfl (hb hby d6_14) rfl ?_
    show Steps p.tables e below (s₁.setTop (mkF m 15 #[.val (.int (2 : Int32)), .val (.int x0), .val (.int x1), .val (.int x2), .val (.int x3)] [(.int (2 : Int32))])) t
    refine XS.iconst X0.here hx rfl (hb hby d6_15) ?_
    show Steps p.tables e below (s₁.setTop (mkF m 16 #[.val (.int (2 : Int32)), .val (.int x0), .val (.int x1), .val (.int x2), .val (.int x3)] [(.int (3 : Int32)), (.int (2 : Int32))])) t
    refine XS.icmpYes X0.here hx rfl (pc0 := 16) (pc' := 27) rfl (hb hby d6_16) rfl (tlt ((by decide) : (2 : Int32) < (3 : Int32))).1 (by decide) (by decide) ?_
    show Steps p.tables e below (s₁.setTop (mkF m 27 #[.val (.int (2 : Int32)), .val (.int x0), .val (.int x1), .val (.int x2), .val (.int x3)] [])) t
    refine XS.iloadN X0.here hx rfl (hb hby d6_27) rfl ?_
    show Steps p.tables e below (s₁.setTop (mkF m 28 #[.val (.int (2 : Int32)), .val (.int x0), .val (.int x1), .val (.int x2), .val (.int x3)] [(.int (2 : Int32))])) t
    refine XS.iconst X0.here hx rfl (hb hby d6_28) ?_
    show Steps p.tables e below (s₁.setTop (mkF m 29 #[.val (.int (2 : Int32)), .val (.int x0), .val (.int x1), .val (.int x2), .val (.int x3)] [(.int (2 : Int32)), (.int (2 : Int32))])) t
    refine XS.icmpNo X0.here hx rfl (hb hby d6_29) rfl (flt ((by decide) : ¬ ((2 : Int32) < (2 : Int32)))).1 ?_
    show Steps p.tables e below (s₁.setTop (mkF m 32 #[.val (.int (2 : Int32)), .val (.int x0), .val (.int x1), .val (.int x2), .val (.int x3)] [])) t
    refine XS.iloadN X0.here hx rfl (hb hby d6_32) rfl ?_
    show Steps p.tables e below (s₁.setTop (mkF m 33 #[.val (.int (2 : Int32)), .val (.int x0), .val (.int x1), .val (.int x2), .val (.int x3)] [(.int x1)])) t
    refine XS.bipush X0.here hx rfl (hb hby d6_33) ?_
    show Steps p.tables e below (s₁.setTop (mkF m 35 #[.val (.int (2 : Int32)), .val (.int x0), .val (.int x1), .val (.int x2), .val (.int x3)] [(.int (46 : Int32)), (.int x1)])) t
    refine XS.icmpYes X0.here hx rfl (pc0 := 35) (pc' := 40) rfl (hb hby d6_35) rfl (feq (hv1 : ¬ (x1 = (46 : Int32)))).2 (by decide) (by decide) ?_
    show Steps p.tables e below (s₁.setTop (mkF m 40 #[.val (.int (2 : Int32)), .val (.int x0), .val (.int x1), .val (.int x2), .val (.int x3)] [])) t
    refine XS.iloadN X0.here hx rfl (hb hby d6_40) rfl ?_
    show Steps p.tables e below (s₁.setTop (mkF m 41 #[.val (.int (2 : Int32)), .val (.int x0), .val (.int x1), .val (.int x2), .val (.int x3)] [(.int (2 : Int32))])) t
    refine XS.iconst X0.here hx rfl (hb hby d6_41) ?_
    show Steps p.tables e below (s₁.setTop (mkF m 42 #[.val (.int (2 : Int32)), .val (.int x0), .val (.int x1), .val (.int x2), .val (.int x3)] [(.int (1 : Int32)), (.int (2 : Int32))])) t
    refine XS.icmpNo X0.here hx rfl (hb hby d6_42) rfl (flt ((by decide) : ¬ ((2 : Int32) < (1 : Int32)))).1 ?_
    show Steps p.tables e below (s₁.setTop (mkF m 45 #[.val (.int (2 : Int32)), .val (.int x0), .val (.int x1), .val (.int x2), .val (.int x3)] [])) t
    refine XS.iloadN X0.here hx rfl (hb hby d6_45) rfl ?_
    show Steps p.tables e below (s₁.setTop (mkF m 46 #[.val (.int (2 : Int32)), .val (.int x0), .val (.int x1), .val (.int x2), .val (.int x3)] [(.int x0)])) t
    refine XS.bipush X0.here hx rfl (hb hby d6_46) ?_
    show Steps p.tables e below (s₁.setTop (mkF m 48 #[.val (.int (2 : Int32)), .val (.int x0), .val (.int x1), .val (.int x2), .val (.int x3)] [(.int (46 : Int32)), (.int x0)])) t
    refine XS.icmpNo X0.here hx rfl (hb hby d6_48) rfl (teq (hv0 : x0 = (46 : Int32))).2 ?_
    show Steps p.tables e below (s₁.setTop (mkF m 51 #[.val (.int (2 : Int32)), .val (.int x0), .val (.int x1), .val (.int x2), .val (.int x3)] [])) t
    refine XS.iconst X0.here hx rfl (hb hby d6_51) ?_
    exact k
  obtain ⟨fs, hr, hrun, hended, hW, hsame⟩ := X0.leave (v := some (.int (0 : Int32))) (fun h => by rw [Bd.returns] at h; cases h)
  refine ⟨_, _, R1 _ ?_, hrun, hended, _, _, rfl, ?_, ⟨_, rfl⟩, hW, hsame.mono (by decide) (by decide)⟩
  · show Steps p.tables e below (s₁.setTop (mkF m 52 #[.val (.int (2 : Int32)), .val (.int x0), .val (.int x1), .val (.int x2), .val (.int x3)] [(.int (0 : Int32))])) _
    exact retOut X0 hx Bd.returns rfl (Or.inl ⟨rfl, Or.inl rfl, _, rfl⟩) (hb hby d6_52) hr
  · show Q_ld2_0 Z zCS x0 x1 x2 x3 h0 n0 _ s₁.heap _
    rw [e0]
    exact ⟨rfl, N0, rfl⟩
theorem d6_38 : decode method_3_code 38 = .ok (.iconst 1, 1) := by decide +kernel
theorem d6_39 : decode method_3_code 39 = .ok (.ireturn, 1) := by decide +kernel
theorem ef_ld2_1 (m : MethodId) (x0 : Int32) (x1 : Int32) (x2 : Int32) (x3 : Int32) : entryFrame m #[(.int (2 : Int32)), (.int x0), (.int x1), (.int x2), (.int x3)] 5 = mkF m 0 #[.val (.int (2 : Int32)), .val (.int x0), .val (.int x1), .val (.int x2), .val (.int x3)] [] := by first | (simp [entryFrame, mkF, argsToLocals, Value.category]; done) | rfl
def Q_ld2_1 (Z : State) (zCS : Int32) (x0 : Int32) (x1 : Int32) (x2 : Int32) (x3 : Int32) (h0 : Heap) (n0 : Nat) (vv_ : Option Value) (hh_ : Heap) (LL_ : List Loc) : Prop := vv_ = some (.int (1 : Int32)) ∧ (Fr n0 LL_) ∧ (hh_ = h0)
set_option maxRecDepth 65536 in
set_option maxHeartbeats 40000000 in
theorem ld2_1 (l : Launch) (Z : State) (a0 : Array Value) (hw : ∀ d ∈ tables_1, d.before a0 Z = true) (ws : List Jvm.Cond) (zCS : Int32) (x0 : Int32) (x1 : Int32) (x2 : Int32) (x3 : Int32) (h0 : Heap) (n0 : Nat) (O0 : Old Z n0 h0) (S_CS : Sta Z Z.heap "java/lang/String" "COMPACT_STRINGS" "Z" (.int zCS)) (hCS : ¬ (zCS = (0 : Int32))) (hcH : Jvm.Lit.constHeld Z "java/lang/String" 7) (hcW : Jvm.Lit.compactW.before a0 Z = true) (hv1 : x1 = (46 : Int32)) :
    MetFree l (⟨"com/example/wiring_from_blueprints/wiringfromblueprints/internal/StaticFieldCheckedPinLaw", "lastDot", "(ICCCC)I"⟩ : MethodName) (head1 (Jvm.Cond.code (⟨"com/example/wiring_from_blueprints/wiringfromblueprints/internal/StaticFieldCheckedPinLaw", "lastDot", "(ICCCC)I"⟩ : MethodName) method_3_code 5 (some .int) :: ws) ({ frames := 0, cells := 0, slots := 0, locals := 0 } : Room)) (fun aa_ U_ => aa_ = #[(.int (2 : Int32)), (.int x0), (.int x1), (.int x2), (.int x3)] ∧ Z.Warmed39 U_.vm ∧ U_.heap = h0) (fun _ _ _ _ _ => True) (fun _ U_ oo_ V_ => ∃ vv_ LL_, oo_ = .returned vv_ ∧ Q_ld2_1 Z zCS x0 x1 x2 x3 h0 n0 vv_ V_.heap LL_ ∧ FrameEnd U_ oo_ V_ LL_ ({ frames := 0, cells := 0, slots := 0, locals := 0 } : Room).cells ({ frames := 0, cells := 0, slots := 0, locals := 0 } : Room).slots) := by
  refine MetFree.of_bodySF (plainFor_of_name pn_com_example_wiring_from_blueprints_wiringfromblueprints_internal_StaticFieldCheckedPinLaw) hisR ?_
  intro p e s m args below meth c s₁ Bd hml0 hP hK
  obtain ⟨rfl, hZ, hh⟩ := hP
  have hx := Bd.exec
  have hby := Bd.bytes
  have hml : c.maxLocals = 5 := hml0
  have hown : s.vm.findClass "com/example/wiring_from_blueprints/wiringfromblueprints/internal/StaticFieldCheckedPinLaw" = some m.cls := findClass_of_methodNamed Bd.named
  have hnm := (name_of_methodNamed Bd.named Bd.method).1
  have X0 : Stand p l e ({ frames := 0, cells := 0, slots := 0, locals := 0 } : Room) s m #[(.int (2 : Int32)), (.int x0), (.int x1), (.int x2), (.int x3)] below meth c s₁ [] 0 0 := Stand.of_body Bd
  have e0 : s₁.heap = h0 := by rw [← hh, Bd.state]; rfl
  have N0 := Fr.nil n0
  have Z0 : n0 ≤ h0.size := O0.1 ▸ O0.2.1
  have hk0 := Nat.zero_le h0.size
  have K0 : Keep h0 h0 [] := Keep.refl _ _
  have R0 : ∀ t, Steps p.tables e below (s₁.setTop (mkF m 0 #[.val (.int (2 : Int32)), .val (.int x0), .val (.int x1), .val (.int x2), .val (.int x3)] [])) t → Steps p.tables e below (s₁.setTop (entryFrame m #[(.int (2 : Int32)), (.int x0), (.int x1), (.int x2), (.int x3)] 5)) t := fun t k => castTop (ef_ld2_1 m x0 x1 x2 x3) k
  have R1 : ∀ t, Steps p.tables e below (s₁.setTop (mkF m 39 #[.val (.int (2 : Int32)), .val (.int x0), .val (.int x1), .val (.int x2), .val (.int x3)] [(.int (1 : Int32))])) t → Steps p.tables e below (s₁.setTop (entryFrame m #[(.int (2 : Int32)), (.int x0), (.int x1), (.int x2), (.int x3)] 5)) t := by
    intro t k
    refine R0 t ?_
    show Steps p.tables e below (s₁.setTop (mkF m 0 #[.val (.int (2 : Int32)), .val (.int x0), .val (.int x1), .val (.int x2), .val (.int x3)] [])) t
    refine XS.iloadN X0.here hx rfl (hb hby d6_0) rfl ?_
    show Steps p.tables e below (s₁.setTop (mkF m 1 #[.val (.int (2 : Int32)), .val (.int x0), .val (.int x1), .val (.int x2), .val (.int x3)] [(.int (2 : Int32))])) t
    refine XS.iconst X0.here hx rfl (hb hby d6_1) ?_
    show Steps p.tables e below (s₁.setTop (mkF m 2 #[.val (.int (2 : Int32)), .val (.int x0), .val (.int x1), .val (.int x2), .val (.int x3)] [(.int (4 : Int32)), (.int (2 : Int32))])) t
    refine XS.icmpYes X0.here hx rfl (pc0 := 2) (pc' := 14) rfl (hb hby d6_2) rfl (tlt ((by decide) : (2 : Int32) < (4 : Int32))).1 (by decide) (by decide) ?_
    show Steps p.tables e below (s₁.setTop (mkF m 14 #[.val (.int (2 : Int32)), .val (.int x0), .val (.int x1), .val (.int x2), .val (.int x3)] [])) t
    refine XS.iloadN X0.here hx rfl (hb hby d6_14) rfl ?_
    show Steps p.tables e below (s₁.setTop (mkF m 15 #[.val (.int (2 : Int32)), .val (.int x0), .val (.int x1), .val (.int x2), .val (.int x3)] [(.int (2 : Int32))])) t
    refine XS.iconst X0.here hx rfl (hb hby d6_15) ?_
    show Steps p.tables e below (s₁.setTop (mkF m 16 #[.val (.int (2 : Int32)), .val (.int x0), .val (.int x1), .val (.int x2), .val (.int x3)] [(.int (3 : Int32)), (.int (2 : Int32))])) t
    refine XS.icmpYes X0.here hx rfl (pc0 := 16) (pc' := 27) rfl (hb hby d6_16) rfl (tlt ((by decide) : (2 : Int32) < (3 : Int32))).1 (by decide) (by decide) ?_
    show Steps p.tables e below (s₁.setTop (mkF m 27 #[.val (.int (2 : Int32)), .val (.int x0), .val (.int x1), .val (.int x2), .val (.int x3)] [])) t
    refine XS.iloadN X0.here hx rfl (hb hby d6_27) rfl ?_
    show Steps p.tables e below (s₁.setTop (mkF m 28 #[.val (.int (2 : Int32)), .val (.int x0), .val (.int x1), .val (.int x2), .val (.int x3)] [(.int (2 : Int32))])) t
    refine XS.iconst X0.here hx rfl (hb hby d6_28) ?_
    show Steps p.tables e below (s₁.setTop (mkF m 29 #[.val (.int (2 : Int32)), .val (.int x0), .val (.int x1), .val (.int x2), .val (.int x3)] [(.int (2 : Int32)), (.int (2 : Int32))])) t
    refine XS.icmpNo X0.here hx rfl (hb hby d6_29) rfl (flt ((by decide) : ¬ ((2 : Int32) < (2 : Int32)))).1 ?_
    show Steps p.tables e below (s₁.setTop (mkF m 32 #[.val (.int (2 : Int32)), .val (.int x0), .val (.int x1), .val (.int x2), .val (.int x3)] [])) t
    refine XS.iloadN X0.here hx rfl (hb hby d6_32) rfl ?_
    show Steps p.tables e below (s₁.setTop (mkF m 33 #[.val (.int (2 : Int32)), .val (.int x0), .val (.int x1), .val (.int x2), .val (.int x3)] [(.int x1)])) t
    refine XS.bipush X0.here hx rfl (hb hby d6_33) ?_
    show Steps p.tables e below (s₁.setTop (mkF m 35 #[.val (.int (2 : Int32)), .val (.int x0), .val (.int x1), .val (.int x2), .val (.int x3)] [(.int (46 : Int32)), (.int x1)])) t
    refine XS.icmpNo X0.here hx rfl (hb hby d6_35) rfl (teq (hv1 : x1 = (46 : Int32))).2 ?_
    show Steps p.tables e below (s₁.setTop (mkF m 38 #[.val (.int (2 : Int32)), .val (.int x0), .val (.int x1), .val (.int x2), .val (.int x3)] [])) t
    refine XS.iconst X0.here hx rfl (hb hby d6_38) ?_
    exact k
  obtain ⟨fs, hr, hrun, hended, hW, hsame⟩ := X0.leave (v := some (.int (1 : Int32))) (fun h => by rw [Bd.returns] at h; cases h)
  refine ⟨_, _, R1 _ ?_, hrun, hended, _, _, rfl, ?_, ⟨_, rfl⟩, hW, hsame.mono (by decide) (by decide)⟩
  · show Steps p.tables e below (s₁.setTop (mkF m 39 #[.val (.int (2 : Int32)), .val (.int x0), .val (.int x1), .val (.int x2), .val (.int x3)] [(.int (1 : Int32))])) _
    exact retOut X0 hx Bd.returns rfl (Or.inl ⟨rfl, Or.inl rfl, _, rfl⟩) (hb hby d6_39) hr
  · show Q_ld2_1 Z zCS x0 x1 x2 x3 h0 n0 _ s₁.heap _
    rw [e0]
    exact ⟨rfl, N0, rfl⟩
theorem d6_19 : decode method_3_code 19 = .ok (.iload_n 3, 1) := by decide +kernel
theorem d6_20 : decode method_3_code 20 = .ok (.bipush 46, 2) := by decide +kernel
theorem d6_22 : decode method_3_code 22 = .ok (.if_icmp .ne 5, 3) := by decide +kernel
theorem ef_ld3_m (m : MethodId) (x0 : Int32) (x1 : Int32) (x2 : Int32) (x3 : Int32) : entryFrame m #[(.int (3 : Int32)), (.int x0), (.int x1), (.int x2), (.int x3)] 5 = mkF m 0 #[.val (.int (3 : Int32)), .val (.int x0), .val (.int x1), .val (.int x2), .val (.int x3)] [] := by first | (simp [entryFrame, mkF, argsToLocals, Value.category]; done) | rfl
def Q_ld3_m (Z : State) (zCS : Int32) (x0 : Int32) (x1 : Int32) (x2 : Int32) (x3 : Int32) (h0 : Heap) (n0 : Nat) (vv_ : Option Value) (hh_ : Heap) (LL_ : List Loc) : Prop := vv_ = some (.int (-1 : Int32)) ∧ (Fr n0 LL_) ∧ (hh_ = h0)
set_option maxRecDepth 65536 in
set_option maxHeartbeats 40000000 in
theorem ld3_m (l : Launch) (Z : State) (a0 : Array Value) (hw : ∀ d ∈ tables_1, d.before a0 Z = true) (ws : List Jvm.Cond) (zCS : Int32) (x0 : Int32) (x1 : Int32) (x2 : Int32) (x3 : Int32) (h0 : Heap) (n0 : Nat) (O0 : Old Z n0 h0) (S_CS : Sta Z Z.heap "java/lang/String" "COMPACT_STRINGS" "Z" (.int zCS)) (hCS : ¬ (zCS = (0 : Int32))) (hcH : Jvm.Lit.constHeld Z "java/lang/String" 7) (hcW : Jvm.Lit.compactW.before a0 Z = true) (hv2 : ¬ (x2 = (46 : Int32))) (hv1 : ¬ (x1 = (46 : Int32))) (hv0 : ¬ (x0 = (46 : Int32))) :
    MetFree l (⟨"com/example/wiring_from_blueprints/wiringfromblueprints/internal/StaticFieldCheckedPinLaw", "lastDot", "(ICCCC)I"⟩ : MethodName) (head1 (Jvm.Cond.code (⟨"com/example/wiring_from_blueprints/wiringfromblueprints/internal/StaticFieldCheckedPinLaw", "lastDot", "(ICCCC)I"⟩ : MethodName) method_3_code 5 (some .int) :: ws) ({ frames := 0, cells := 0, slots := 0, locals := 0 } : Room)) (fun aa_ U_ => aa_ = #[(.int (3 : Int32)), (.int x0), (.int x1), (.int x2), (.int x3)] ∧ Z.Warmed39 U_.vm ∧ U_.heap = h0) (fun _ _ _ _ _ => True) (fun _ U_ oo_ V_ => ∃ vv_ LL_, oo_ = .returned vv_ ∧ Q_ld3_m Z zCS x0 x1 x2 x3 h0 n0 vv_ V_.heap LL_ ∧ FrameEnd U_ oo_ V_ LL_ ({ frames := 0, cells := 0, slots := 0, locals := 0 } : Room).cells ({ frames := 0, cells := 0, slots := 0, locals := 0 } : Room).slots) := by
  refine MetFree.of_bodySF (plainFor_of_name pn_com_example_wiring_from_blueprints_wiringfromblueprints_internal_StaticFieldCheckedPinLaw) hisR ?_
  intro p e s m args below meth c s₁ Bd hml0 hP hK
  obtain ⟨rfl, hZ, hh⟩ := hP
  have hx := Bd.exec
  have hby := Bd.bytes
  have hml : c.maxLocals = 5 := hml0
  have hown : s.vm.findClass "com/example/wiring_from_blueprints/wiringfromblueprints/internal/StaticFieldCheckedPinLaw" = some m.cls := findClass_of_methodNamed Bd.named
  have hnm := (name_of_methodNamed Bd.named Bd.method).1
  have X0 : Stand p l e ({ frames := 0, cells := 0, slots := 0, locals := 0 } : Room) s m #[(.int (3 : Int32)), (.int x0), (.int x1), (.int x2), (.int x3)] below meth c s₁ [] 0 0 := Stand.of_body Bd
  have e0 : s₁.heap = h0 := by rw [← hh, Bd.state]; rfl
  have N0 := Fr.nil n0
  have Z0 : n0 ≤ h0.size := O0.1 ▸ O0.2.1
  have hk0 := Nat.zero_le h0.size
  have K0 : Keep h0 h0 [] := Keep.refl _ _
  have R0 : ∀ t, Steps p.tables e below (s₁.setTop (mkF m 0 #[.val (.int (3 : Int32)), .val (.int x0), .val (.int x1), .val (.int x2), .val (.int x3)] [])) t → Steps p.tables e below (s₁.setTop (entryFrame m #[(.int (3 : Int32)), (.int x0), (.int x1), (.int x2), (.int x3)] 5)) t := fun t k => castTop (ef_ld3_m m x0 x1 x2 x3) k
  have R1 : ∀ t, Steps p.tables e below (s₁.setTop (mkF m 54 #[.val (.int (3 : Int32)), .val (.int x0), .val (.int x1), .val (.int x2), .val (.int x3)] [(.int (-1 : Int32))])) t → Steps p.tables e below (s₁.setTop (entryFrame m #[(.int (3 : Int32)), (.int x0), (.int x1), (.int x2), (.int x3)] 5)) t := by
    intro t k
    refine R0 t ?_
    show Steps p.tables e below (s₁.setTop (mkF m 0 #[.val (.int (3 : Int32)), .val (.int x0), .val (.int x1), .val (.int x2), .val (.int x3)] [])) t
    refine XS.iloadN X0.here hx rfl (hb hby d6_0) rfl ?_
    show Steps p.tables e below (s₁.setTop (mkF m 1 #[.val (.int (3 : Int32)), .val (.int x0), .val (.int x1), .val (.int x2), .val (.int x3)] [(.int (3 : Int32))])) t
    refine XS.iconst X0.here hx rfl (hb hby d6_1) ?_
    show Steps p.tables e below (s₁.setTop (mkF m 2 #[.val (.int (3 : Int32)), .val (.int x0), .val (.int x1), .val (.int x2), .val (.int x3)] [(.int (4 : Int32)), (.int (3 : Int32))])) t
    refine XS.icmpYes X0.here hx rfl (pc0 := 2) (pc' := 14) rfl (hb hby d6_2) rfl (tlt ((by decide) : (3 : Int32) < (4 : Int32))).1 (by decide) (by decide) ?_
    show Steps p.tables e below (s₁.setTop (mkF m 14 #[.val (.int (3 : Int32)), .val (.int x0), .val (.int x1), .val (.int x2), .val (.int x3)] [])) t
    refine XS.iloadN X0.here hx rfl (hb hby d6_14) rfl ?_
    show Steps p.tables e below (s₁.setTop (mkF m 15 #[.val (.int (3 : Int32)), .val (.int x0), .val (.int x1), .val (.int x2), .val (.int x3)] [(.int (3 : Int32))])) t
    refine XS.iconst X0.here hx rfl (hb hby d6_15) ?_
    show Steps p.tables e below (s₁.setTop (mkF m 16 #[.val (.int (3 : Int32)), .val (.int x0), .val (.int x1), .val (.int x2), .val (.int x3)] [(.int (3 : Int32)), (.int (3 : Int32))])) t
    refine XS.icmpNo X0.here hx rfl (hb hby d6_16) rfl (flt ((by decide) : ¬ ((3 : Int32) < (3 : Int32)))).1 ?_
    show Steps p.tables e below (s₁.setTop (mkF m 19 #[.val (.int (3 : Int32)), .val (.int x0), .val (.int x1), .val (.int x2), .val (.int x3)] [])) t
    refine XS.iloadN X0.here hx rfl (hb hby d6_19) rfl ?_
    show Steps p.tables e below (s₁.setTop (mkF m 20 #[.val (.int (3 : Int32)), .val (.int x0), .val (.int x1), .val (.int x2), .val (.int x3)] [(.int x2)])) t
    refine XS.bipush X0.here hx rfl (hb hby d6_20) ?_
    show Steps p.tables e below (s₁.setTop (mkF m 22 #[.val (.int (3 : Int32)), .val (.int x0), .val (.int x1), .val (.int x2), .val (.int x3)] [(.int (46 : Int32)), (.int x2)])) t
    refine XS.icmpYes X0.here hx rfl (pc0 := 22) (pc' := 27) rfl (hb hby d6_22) rfl (feq (hv2 : ¬ (x2 = (46 : Int32)))).2 (by decide) (by decide) ?_
    show Steps p.tables e below (s₁.setTop (mkF m 27 #[.val (.int (3 : Int32)), .val (.int x0), .val (.int x1), .val (.int x2), .val (.int x3)] [])) t
    refine XS.iloadN X0.here hx rfl (hb hby d6_27) rfl ?_
    show Steps p.tables e below (s₁.setTop (mkF m 28 #[.val (.int (3 : Int32)), .val (.int x0), .val (.int x1), .val (.int x2), .val (.int x3)] [(.int (3 : Int32))])) t
    refine XS.iconst X0.here hx rfl (hb hby d6_28) ?_
    show Steps p.tables e below (s₁.setTop (mkF m 29 #[.val (.int (3 : Int32)), .val (.int x0), .val (.int x1), .val (.int x2), .val (.int x3)] [(.int (2 : Int32)), (.int (3 : Int32))])) t
    refine XS.icmpNo X0.here hx rfl (hb hby d6_29) rfl (flt ((by decide) : ¬ ((3 : Int32) < (2 : Int32)))).1 ?_
    show Steps p.tables e below (s₁.setTop (mkF m 32 #[.val (.int (3 : Int32)), .val (.int x0), .val (.int x1), .val (.int x2), .val (.int x3)] [])) t
    refine XS.iloadN X0.here hx rfl (hb hby d6_32) rfl ?_
    show Steps p.tables e below (s₁.setTop (mkF m 33 #[.val (.int (3 : Int32)), .val (.int x0), .val (.int x1), .val (.int x2), .val (.int x3)] [(.int x1)])) t
    refine XS.bipush X0.here hx rfl (hb hby d6_33) ?_
    show Steps p.tables e below (s₁.setTop (mkF m 35 #[.val (.int (3 : Int32)), .val (.int x0), .val (.int x1), .val (.int x2), .val (.int x3)] [(.int (46 : Int32)), (.int x1)])) t
    refine XS.icmpYes X0.here hx rfl (pc0 := 35) (pc' := 40) rfl (hb hby d6_35) rfl (feq (hv1 : ¬ (x1 = (46 : Int32)))).2 (by decide) (by decide) ?_
    show Steps p.tables e below (s₁.setTop (mkF m 40 #[.val (.int (3 : Int32)), .val (.int x0), .val (.int x1), .val (.int x2), .val (.int x3)] [])) t
    refine XS.iloadN X0.here hx rfl (hb hby d6_40) rfl ?_
    show Steps p.tables e below (s₁.setTop (mkF m 41 #[.val (.int (3 : Int32)), .val (.int x0), .val (.int x1), .val (.int x2), .val (.int x3)] [(.int (3 : Int32))])) t
    refine XS.iconst X0.here hx rfl (hb hby d6_41) ?_
    show Steps p.tables e below (s₁.setTop (mkF m 42 #[.val (.int (3 : Int32)), .val (.int x0), .val (.int x1), .val (.int x2), .val (.int x3)] [(.int (1 : Int32)), (.int (3 : Int32))])) t
    refine XS.icmpNo X0.here hx rfl (hb hby d6_42) rfl (flt ((by decide) : ¬ ((3 : Int32) < (1 : Int32)))).1 ?_
    show Steps p.tables e below (s₁.setTop (mkF m 45 #[.val (.int (3 : Int32)), .val (.int x0), .val (.int x1), .val (.int x2), .val (.int x3)] [])) t
    refine XS.iloadN X0.here hx rfl (hb hby d6_45) rfl ?_
    show Steps p.tables e below (s₁.setTop (mkF m 46 #[.val (.int (3 : Int32)), .val (.int x0), .val (.int x1), .val (.int x2), .val (.int x3)] [(.int x0)])) t
    refine XS.bipush X0.here hx rfl (hb hby d6_46) ?_
    show Steps p.tables e below (s₁.setTop (mkF m 48 #[.val (.int (3 : Int32)), .val (.int x0), .val (.int x1), .val (.int x2), .val (.int x3)] [(.int (46 : Int32)), (.int x0)])) t
    refine XS.icmpYes X0.here hx rfl (pc0 := 48) (pc' := 53) rfl (hb hby d6_48) rfl (feq (hv0 : ¬ (x0 = (46 : Int32)))).2 (by decide) (by decide) ?_
    show Steps p.tables e below (s₁.setTop (mkF m 53 #[.val (.int (3 : Int32)), .val (.int x0), .val (.int x1), .val (.int x2), .val (.int x3)] [])) t
    refine XS.iconst X0.here hx rfl (hb hby d6_53) ?_
    exact k
  obtain ⟨fs, hr, hrun, hended, hW, hsame⟩ := X0.leave (v := some (.int (-1 : Int32))) (fun h => by rw [Bd.returns] at h; cases h)
  refine ⟨_, _, R1 _ ?_, hrun, hended, _, _, rfl, ?_, ⟨_, rfl⟩, hW, hsame.mono (by decide) (by decide)⟩
  · show Steps p.tables e below (s₁.setTop (mkF m 54 #[.val (.int (3 : Int32)), .val (.int x0), .val (.int x1), .val (.int x2), .val (.int x3)] [(.int (-1 : Int32))])) _
    exact retOut X0 hx Bd.returns rfl (Or.inl ⟨rfl, Or.inl rfl, _, rfl⟩) (hb hby d6_54) hr
  · show Q_ld3_m Z zCS x0 x1 x2 x3 h0 n0 _ s₁.heap _
    rw [e0]
    exact ⟨rfl, N0, rfl⟩
theorem ef_ld3_0 (m : MethodId) (x0 : Int32) (x1 : Int32) (x2 : Int32) (x3 : Int32) : entryFrame m #[(.int (3 : Int32)), (.int x0), (.int x1), (.int x2), (.int x3)] 5 = mkF m 0 #[.val (.int (3 : Int32)), .val (.int x0), .val (.int x1), .val (.int x2), .val (.int x3)] [] := by first | (simp [entryFrame, mkF, argsToLocals, Value.category]; done) | rfl
def Q_ld3_0 (Z : State) (zCS : Int32) (x0 : Int32) (x1 : Int32) (x2 : Int32) (x3 : Int32) (h0 : Heap) (n0 : Nat) (vv_ : Option Value) (hh_ : Heap) (LL_ : List Loc) : Prop := vv_ = some (.int (0 : Int32)) ∧ (Fr n0 LL_) ∧ (hh_ = h0)
set_option maxRecDepth 65536 in
set_option maxHeartbeats 40000000 in
theorem ld3_0 (l : Launch) (Z : State) (a0 : Array Value) (hw : ∀ d ∈ tables_1, d.before a0 Z = true) (ws : List Jvm.Cond) (zCS : Int32) (x0 : Int32) (x1 : Int32) (x2 : Int32) (x3 : Int32) (h0 : Heap) (n0 : Nat) (O0 : Old Z n0 h0) (S_CS : Sta Z Z.heap "java/lang/String" "COMPACT_STRINGS" "Z" (.int zCS)) (hCS : ¬ (zCS = (0 : Int32))) (hcH : Jvm.Lit.constHeld Z "java/lang/String" 7) (hcW : Jvm.Lit.compactW.before a0 Z = true) (hv2 : ¬ (x2 = (46 : Int32))) (hv1 : ¬ (x1 = (46 : Int32))) (hv0 : x0 = (46 : Int32)) :
    MetFree l (⟨"com/example/wiring_from_blueprints/wiringfromblueprints/internal/StaticFieldCheckedPinLaw", "lastDot", "(ICCCC)I"⟩ : MethodName) (head1 (Jvm.Cond.code (⟨"com/example/wiring_from_blueprints/wiringfromblueprints/internal/StaticFieldCheckedPinLaw", "lastDot", "(ICCCC)I"⟩ : MethodName) method_3_code 5 (some .int) :: ws) ({ frames := 0, cells := 0, slots := 0, locals := 0 } : Room)) (fun aa_ U_ => aa_ = #[(.int (3 : Int32)), (.int x0), (.int x1), (.int x2), (.int x3)] ∧ Z.Warmed39 U_.vm ∧ U_.heap = h0) (fun _ _ _ _ _ => True) (fun _ U_ oo_ V_ => ∃ vv_ LL_, oo_ = .returned vv_ ∧ Q_ld3_0 Z zCS x0 x1 x2 x3 h0 n0 vv_ V_.heap LL_ ∧ FrameEnd U_ oo_ V_ LL_ ({ frames := 0, cells := 0, slots := 0, locals := 0 } : Room).cells ({ frames := 0, cells := 0, slots := 0, locals := 0 } : Room).slots) := by
  refine MetFree.of_bodySF (plainFor_of_name pn_com_example_wiring_from_blueprints_wiringfromblueprints_internal_StaticFieldCheckedPinLaw) hisR ?_
  intro p e s m args below meth c s₁ Bd hml0 hP hK
  obtain ⟨rfl, hZ, hh⟩ := hP
  have hx := Bd.exec
  have hby := Bd.bytes
  have hml : c.maxLocals = 5 := hml0
  have hown : s.vm.findClass "com/example/wiring_from_blueprints/wiringfromblueprints/internal/StaticFieldCheckedPinLaw" = some m.cls := findClass_of_methodNamed Bd.named
  have hnm := (name_of_methodNamed Bd.named Bd.method).1
  have X0 : Stand p l e ({ frames := 0, cells := 0, slots := 0, locals := 0 } : Room) s m #[(.int (3 : Int32)), (.int x0), (.int x1), (.int x2), (.int x3)] below meth c s₁ [] 0 0 := Stand.of_body Bd
  have e0 : s₁.heap = h0 := by rw [← hh, Bd.state]; rfl
  have N0 := Fr.nil n0
  have Z0 : n0 ≤ h0.size := O0.1 ▸ O0.2.1
  have hk0 := Nat.zero_le h0.size
  have K0 : Keep h0 h0 [] := Keep.refl _ _
  have R0 : ∀ t, Steps p.tables e below (s₁.setTop (mkF m 0 #[.val (.int (3 : Int32)), .val (.int x0), .val (.int x1), .val (.int x2), .val (.int x3)] [])) t → Steps p.tables e below (s₁.setTop (entryFrame m #[(.int (3 : Int32)), (.int x0), (.int x1), (.int x2), (.int x3)] 5)) t := fun t k => castTop (ef_ld3_0 m x0 x1 x2 x3) k
  have R1 : ∀ t, Steps p.tables e below (s₁.setTop (mkF m 52 #[.val (.int (3 : Int32)), .val (.int x0), .val (.int x1), .val (.int x2), .val (.int x3)] [(.int (0 : Int32))])) t → Steps p.tables e below (s₁.setTop (entryFrame m #[(.int (3 : Int32)), (.int x0), (.int x1), (.int x2), (.int x3)] 5)) t := by
    intro t k
    refine R0 t ?_
    show Steps p.tables e below (s₁.setTop (mkF m 0 #[.val (.int (3 : Int32)), .val (.int x0), .val (.int x1), .val (.int x2), .val (.int x3)] [])) t
    refine XS.iloadN X0.here hx rfl (hb hby d6_0) rfl ?_
    show Steps p.tables e below (s₁.setTop (mkF m 1 #[.val (.int (3 : Int32)), .val (.int x0), .val (.int x1), .val (.int x2), .val (.int x3)] [(.int (3 : Int32))])) t
    refine XS.iconst X0.here hx rfl (hb hby d6_1) ?_
    show Steps p.tables e below (s₁.setTop (mkF m 2 #[.val (.int (3 : Int32)), .val (.int x0), .val (.int x1), .val (.int x2), .val (.int x3)] [(.int (4 : Int32)), (.int (3 : Int32))])) t
    refine XS.icmpYes X0.here hx rfl (pc0 := 2) (pc' := 14) rfl (hb hby d6_2) rfl (tlt ((by decide) : (3 : Int32) < (4 : Int32))).1 (by decide) (by decide) ?_
    show Steps p.tables e below (s₁.setTop (mkF m 14 #[.val (.int (3 : Int32)), .val (.int x0), .val (.int x1), .val (.int x2), .val (.int x3)] [])) t
    refine XS.iloadN X0.here hx rfl (hb hby d6_14) rfl ?_
    show Steps p.tables e below (s₁.setTop (mkF m 15 #[.val (.int (3 : Int32)), .val (.int x0), .val (.int x1), .val (.int x2), .val (.int x3)] [(.int (3 : Int32))])) t
    refine XS.iconst X0.here hx rfl (hb hby d6_15) ?_
    show Steps p.tables e below (s₁.setTop (mkF m 16 #[.val (.int (3 : Int32)), .val (.int x0), .val (.int x1), .val (.int x2), .val (.int x3)] [(.int (3 : Int32)), (.int (3 : Int32))])) t
    refine XS.icmpNo X0.here hx rfl (hb hby d6_16) rfl (flt ((by decide) : ¬ ((3 : Int32) < (3 : Int32)))).1 ?_
    show Steps p.tables e below (s₁.setTop (mkF m 19 #[.val (.int (3 : Int32)), .val (.int x0), .val (.int x1), .val (.int x2), .val (.int x3)] [])) t
    refine XS.iloadN X0.here hx rfl (hb hby d6_19) rfl ?_
    show Steps p.tables e below (s₁.setTop (mkF m 20 #[.val (.int (3 : Int32)), .val (.int x0), .val (.int x1), .val (.int x2), .val (.int x3)] [(.int x2)])) t
    refine XS.bipush X0.here hx rfl (hb hby d6_20) ?_
    show Steps p.tables e below (s₁.setTop (mkF m 22 #[.val (.int (3 : Int32)), .val (.int x0), .val (.int x1), .val (.int x2), .val (.int x3)] [(.int (46 : Int32)), (.int x2)])) t
    refine XS.icmpYes X0.here hx rfl (pc0 := 22) (pc' := 27) rfl (hb hby d6_22) rfl (feq (hv2 : ¬ (x2 = (46 : Int32)))).2 (by decide) (by decide) ?_
    show Steps p.tables e below (s₁.setTop (mkF m 27 #[.val (.int (3 : Int32)), .val (.int x0), .val (.int x1), .val (.int x2), .val (.int x3)] [])) t
    refine XS.iloadN X0.here hx rfl (hb hby d6_27) rfl ?_
    show Steps p.tables e below (s₁.setTop (mkF m 28 #[.val (.int (3 : Int32)), .val (.int x0), .val (.int x1), .val (.int x2), .val (.int x3)] [(.int (3 : Int32))])) t
    refine XS.iconst X0.here hx rfl (hb hby d6_28) ?_
    show Steps p.tables e below (s₁.setTop (mkF m 29 #[.val (.int (3 : Int32)), .val (.int x0), .val (.int x1), .val (.int x2), .val (.int x3)] [(.int (2 : Int32)), (.int (3 : Int32))])) t
    refine XS.icmpNo X0.here hx rfl (hb hby d6_29) rfl (flt ((by decide) : ¬ ((3 : Int32) < (2 : Int32)))).1 ?_
    show Steps p.tables e below (s₁.setTop (mkF m 32 #[.val (.int (3 : Int32)), .val (.int x0), .val (.int x1), .val (.int x2), .val (.int x3)] [])) t
    refine XS.iloadN X0.here hx rfl (hb hby d6_32) rfl ?_
    show Steps p.tables e below (s₁.setTop (mkF m 33 #[.val (.int (3 : Int32)), .val (.int x0), .val (.int x1), .val (.int x2), .val (.int x3)] [(.int x1)])) t
    refine XS.bipush X0.here hx rfl (hb hby d6_33) ?_
    show Steps p.tables e below (s₁.setTop (mkF m 35 #[.val (.int (3 : Int32)), .val (.int x0), .val (.int x1), .val (.int x2), .val (.int x3)] [(.int (46 : Int32)), (.int x1)])) t
    refine XS.icmpYes X0.here hx rfl (pc0 := 35) (pc' := 40) rfl (hb hby d6_35) rfl (feq (hv1 : ¬ (x1 = (46 : Int32)))).2 (by decide) (by decide) ?_
    show Steps p.tables e below (s₁.setTop (mkF m 40 #[.val (.int (3 : Int32)), .val (.int x0), .val (.int x1), .val (.int x2), .val (.int x3)] [])) t
    refine XS.iloadN X0.here hx rfl (hb hby d6_40) rfl ?_
    show Steps p.tables e below (s₁.setTop (mkF m 41 #[.val (.int (3 : Int32)), .val (.int x0), .val (.int x1), .val (.int x2), .val (.int x3)] [(.int (3 : Int32))])) t
    refine XS.iconst X0.here hx rfl (hb hby d6_41) ?_
    show Steps p.tables e below (s₁.setTop (mkF m 42 #[.val (.int (3 : Int32)), .val (.int x0), .val (.int x1), .val (.int x2), .val (.int x3)] [(.int (1 : Int32)), (.int (3 : Int32))])) t
    refine XS.icmpNo X0.here hx rfl (hb hby d6_42) rfl (flt ((by decide) : ¬ ((3 : Int32) < (1 : Int32)))).1 ?_
    show Steps p.tables e below (s₁.setTop (mkF m 45 #[.val (.int (3 : Int32)), .val (.int x0), .val (.int x1), .val (.int x2), .val (.int x3)] [])) t
    refine XS.iloadN X0.here hx rfl (hb hby d6_45) rfl ?_
    show Steps p.tables e below (s₁.setTop (mkF m 46 #[.val (.int (3 : Int32)), .val (.int x0), .val (.int x1), .val (.int x2), .val (.int x3)] [(.int x0)])) t
    refine XS.bipush X0.here hx rfl (hb hby d6_46) ?_
    show Steps p.tables e below (s₁.setTop (mkF m 48 #[.val (.int (3 : Int32)), .val (.int x0), .val (.int x1), .val (.int x2), .val (.int x3)] [(.int (46 : Int32)), (.int x0)])) t
    refine XS.icmpNo X0.here hx rfl (hb hby d6_48) rfl (teq (hv0 : x0 = (46 : Int32))).2 ?_
    show Steps p.tables e below (s₁.setTop (mkF m 51 #[.val (.int (3 : Int32)), .val (.int x0), .val (.int x1), .val (.int x2), .val (.int x3)] [])) t
    refine XS.iconst X0.here hx rfl (hb hby d6_51) ?_
    exact k
  obtain ⟨fs, hr, hrun, hended, hW, hsame⟩ := X0.leave (v := some (.int (0 : Int32))) (fun h => by rw [Bd.returns] at h; cases h)
  refine ⟨_, _, R1 _ ?_, hrun, hended, _, _, rfl, ?_, ⟨_, rfl⟩, hW, hsame.mono (by decide) (by decide)⟩
  · show Steps p.tables e below (s₁.setTop (mkF m 52 #[.val (.int (3 : Int32)), .val (.int x0), .val (.int x1), .val (.int x2), .val (.int x3)] [(.int (0 : Int32))])) _
    exact retOut X0 hx Bd.returns rfl (Or.inl ⟨rfl, Or.inl rfl, _, rfl⟩) (hb hby d6_52) hr
  · show Q_ld3_0 Z zCS x0 x1 x2 x3 h0 n0 _ s₁.heap _
    rw [e0]
    exact ⟨rfl, N0, rfl⟩
theorem ef_ld3_1 (m : MethodId) (x0 : Int32) (x1 : Int32) (x2 : Int32) (x3 : Int32) : entryFrame m #[(.int (3 : Int32)), (.int x0), (.int x1), (.int x2), (.int x3)] 5 = mkF m 0 #[.val (.int (3 : Int32)), .val (.int x0), .val (.int x1), .val (.int x2), .val (.int x3)] [] := by first | (simp [entryFrame, mkF, argsToLocals, Value.category]; done) | rfl
def Q_ld3_1 (Z : State) (zCS : Int32) (x0 : Int32) (x1 : Int32) (x2 : Int32) (x3 : Int32) (h0 : Heap) (n0 : Nat) (vv_ : Option Value) (hh_ : Heap) (LL_ : List Loc) : Prop := vv_ = some (.int (1 : Int32)) ∧ (Fr n0 LL_) ∧ (hh_ = h0)
set_option maxRecDepth 65536 in
set_option maxHeartbeats 40000000 in
theorem ld3_1 (l : Launch) (Z : State) (a0 : Array Value) (hw : ∀ d ∈ tables_1, d.before a0 Z = true) (ws : List Jvm.Cond) (zCS : Int32) (x0 : Int32) (x1 : Int32) (x2 : Int32) (x3 : Int32) (h0 : Heap) (n0 : Nat) (O0 : Old Z n0 h0) (S_CS : Sta Z Z.heap "java/lang/String" "COMPACT_STRINGS" "Z" (.int zCS)) (hCS : ¬ (zCS = (0 : Int32))) (hcH : Jvm.Lit.constHeld Z "java/lang/String" 7) (hcW : Jvm.Lit.compactW.before a0 Z = true) (hv2 : ¬ (x2 = (46 : Int32))) (hv1 : x1 = (46 : Int32)) :
    MetFree l (⟨"com/example/wiring_from_blueprints/wiringfromblueprints/internal/StaticFieldCheckedPinLaw", "lastDot", "(ICCCC)I"⟩ : MethodName) (head1 (Jvm.Cond.code (⟨"com/example/wiring_from_blueprints/wiringfromblueprints/internal/StaticFieldCheckedPinLaw", "lastDot", "(ICCCC)I"⟩ : MethodName) method_3_code 5 (some .int) :: ws) ({ frames := 0, cells := 0, slots := 0, locals := 0 } : Room)) (fun aa_ U_ => aa_ = #[(.int (3 : Int32)), (.int x0), (.int x1), (.int x2), (.int x3)] ∧ Z.Warmed39 U_.vm ∧ U_.heap = h0) (fun _ _ _ _ _ => True) (fun _ U_ oo_ V_ => ∃ vv_ LL_, oo_ = .returned vv_ ∧ Q_ld3_1 Z zCS x0 x1 x2 x3 h0 n0 vv_ V_.heap LL_ ∧ FrameEnd U_ oo_ V_ LL_ ({ frames := 0, cells := 0, slots := 0, locals := 0 } : Room).cells ({ frames := 0, cells := 0, slots := 0, locals := 0 } : Room).slots) := by
  refine MetFree.of_bodySF (plainFor_of_name pn_com_example_wiring_from_blueprints_wiringfromblueprints_internal_StaticFieldCheckedPinLaw) hisR ?_
  intro p e s m args below meth c s₁ Bd hml0 hP hK
  obtain ⟨rfl, hZ, hh⟩ := hP
  have hx := Bd.exec
  have hby := Bd.bytes
  have hml : c.maxLocals = 5 := hml0
  have hown : s.vm.findClass "com/example/wiring_from_blueprints/wiringfromblueprints/internal/StaticFieldCheckedPinLaw" = some m.cls := findClass_of_methodNamed Bd.named
  have hnm := (name_of_methodNamed Bd.named Bd.method).1
  have X0 : Stand p l e ({ frames := 0, cells := 0, slots := 0, locals := 0 } : Room) s m #[(.int (3 : Int32)), (.int x0), (.int x1), (.int x2), (.int x3)] below meth c s₁ [] 0 0 := Stand.of_body Bd
  have e0 : s₁.heap = h0 := by rw [← hh, Bd.state]; rfl
  have N0 := Fr.nil n0
  have Z0 : n0 ≤ h0.size := O0.1 ▸ O0.2.1
  have hk0 := Nat.zero_le h0.size
  have K0 : Keep h0 h0 [] := Keep.refl _ _
  have R0 : ∀ t, Steps p.tables e below (s₁.setTop (mkF m 0 #[.val (.int (3 : Int32)), .val (.int x0), .val (.int x1), .val (.int x2), .val (.int x3)] [])) t → Steps p.tables e below (s₁.setTop (entryFrame m #[(.int (3 : Int32)), (.int x0), (.int x1), (.int x2), (.int x3)] 5)) t := fun t k => castTop (ef_ld3_1 m x0 x1 x2 x3) k
  have R1 : ∀ t, Steps p.tables e below (s₁.setTop (mkF m 39 #[.val (.int (3 : Int32)), .val (.int x0), .val (.int x1), .val (.int x2), .val (.int x3)] [(.int (1 : Int32))])) t → Steps p.tables e below (s₁.setTop (entryFrame m #[(.int (3 : Int32)), (.int x0), (.int x1), (.int x2), (.int x3)] 5)) t := by
    intro t k
    refine R0 t ?_
    show Steps p.tables e below (s₁.setTop (mkF m 0 #[.val (.int (3 : Int32)), .val (.int x0), .val (.int x1), .val (.int x2), .val (.int x3)] [])) t
    refine XS.iloadN X0.here hx rfl (hb hby d6_0) rfl ?_
    show Steps p.tables e below (s₁.setTop (mkF m 1 #[.val (.int (3 : Int32)), .val (.int x0), .val (.int x1), .val (.int x2), .val (.int x3)] [(.int (3 : Int32))])) t
    refine XS.iconst X0.here hx rfl (hb hby d6_1) ?_
    show Steps p.tables e below (s₁.setTop (mkF m 2 #[.val (.int (3 : Int32)), .val (.int x0), .val (.int x1), .val (.int x2), .val (.int x3)] [(.int (4 : Int32)), (.int (3 : Int32))])) t
    refine XS.icmpYes X0.here hx rfl (pc0 := 2) (pc' := 14) rfl (hb hby d6_2) rfl (tlt ((by decide) : (3 : Int32) < (4 : Int32))).1 (by decide) (by decide) ?_
    show Steps p.tables e below (s₁.setTop (mkF m 14 #[.val (.int (3 : Int32)), .val (.int x0), .val (.int x1), .val (.int x2), .val (.int x3)] [])) t
    refine XS.iloadN X0.here hx rfl (hb hby d6_14) rfl ?_
    show Steps p.tables e below (s₁.setTop (mkF m 15 #[.val (.int (3 : Int32)), .val (.int x0), .val (.int x1), .val (.int x2), .val (.int x3)] [(.int (3 : Int32))])) t
    refine XS.iconst X0.here hx rfl (hb hby d6_15) ?_
    show Steps p.tables e below (s₁.setTop (mkF m 16 #[.val (.int (3 : Int32)), .val (.int x0), .val (.int x1), .val (.int x2), .val (.int x3)] [(.int (3 : Int32)), (.int (3 : Int32))])) t
    refine XS.icmpNo X0.here hx rfl (hb hby d6_16) rfl (flt ((by decide) : ¬ ((3 : Int32) < (3 : Int32)))).1 ?_
    show Steps p.tables e below (s₁.setTop (mkF m 19 #[.val (.int (3 : Int32)), .val (.int x0), .val (.int x1), .val (.int x2), .val (.int x3)] [])) t
    refine XS.iloadN X0.here hx rfl (hb hby d6_19) rfl ?_
    show Steps p.tables e below (s₁.setTop (mkF m 20 #[.val (.int (3 : Int32)), .val (.int x0), .val (.int x1), .val (.int x2), .val (.int x3)] [(.int x2)])) t
    refine XS.bipush X0.here hx rfl (hb hby d6_20) ?_
    show Steps p.tables e below (s₁.setTop (mkF m 22 #[.val (.int (3 : Int32)), .val (.int x0), .val (.int x1), .val (.int x2), .val (.int x3)] [(.int (46 : Int32)), (.int x2)])) t
    refine XS.icmpYes X0.here hx rfl (pc0 := 22) (pc' := 27) rfl (hb hby d6_22) rfl (feq (hv2 : ¬ (x2 = (46 : Int32)))).2 (by decide) (by decide) ?_
    show Steps p.tables e below (s₁.setTop (mkF m 27 #[.val (.int (3 : Int32)), .val (.int x0), .val (.int x1), .val (.int x2), .val (.int x3)] [])) t
    refine XS.iloadN X0.here hx rfl (hb hby d6_27) rfl ?_
    show Steps p.tables e below (s₁.setTop (mkF m 28 #[.val (.int (3 : Int32)), .val (.int x0), .val (.int x1), .val (.int x2), .val (.int x3)] [(.int (3 : Int32))])) t
    refine XS.iconst X0.here hx rfl (hb hby d6_28) ?_
    show Steps p.tables e below (s₁.setTop (mkF m 29 #[.val (.int (3 : Int32)), .val (.int x0), .val (.int x1), .val (.int x2), .val (.int x3)] [(.int (2 : Int32)), (.int (3 : Int32))])) t
    refine XS.icmpNo X0.here hx rfl (hb hby d6_29) rfl (flt ((by decide) : ¬ ((3 : Int32) < (2 : Int32)))).1 ?_
    show Steps p.tables e below (s₁.setTop (mkF m 32 #[.val (.int (3 : Int32)), .val (.int x0), .val (.int x1), .val (.int x2), .val (.int x3)] [])) t
    refine XS.iloadN X0.here hx rfl (hb hby d6_32) rfl ?_
    show Steps p.tables e below (s₁.setTop (mkF m 33 #[.val (.int (3 : Int32)), .val (.int x0), .val (.int x1), .val (.int x2), .val (.int x3)] [(.int x1)])) t
    refine XS.bipush X0.here hx rfl (hb hby d6_33) ?_
    show Steps p.tables e below (s₁.setTop (mkF m 35 #[.val (.int (3 : Int32)), .val (.int x0), .val (.int x1), .val (.int x2), .val (.int x3)] [(.int (46 : Int32)), (.int x1)])) t
    refine XS.icmpNo X0.here hx rfl (hb hby d6_35) rfl (teq (hv1 : x1 = (46 : Int32))).2 ?_
    show Steps p.tables e below (s₁.setTop (mkF m 38 #[.val (.int (3 : Int32)), .val (.int x0), .val (.int x1), .val (.int x2), .val (.int x3)] [])) t
    refine XS.iconst X0.here hx rfl (hb hby d6_38) ?_
    exact k
  obtain ⟨fs, hr, hrun, hended, hW, hsame⟩ := X0.leave (v := some (.int (1 : Int32))) (fun h => by rw [Bd.returns] at h; cases h)
  refine ⟨_, _, R1 _ ?_, hrun, hended, _, _, rfl, ?_, ⟨_, rfl⟩, hW, hsame.mono (by decide) (by decide)⟩
  · show Steps p.tables e below (s₁.setTop (mkF m 39 #[.val (.int (3 : Int32)), .val (.int x0), .val (.int x1), .val (.int x2), .val (.int x3)] [(.int (1 : Int32))])) _
    exact retOut X0 hx Bd.returns rfl (Or.inl ⟨rfl, Or.inl rfl, _, rfl⟩) (hb hby d6_39) hr
  · show Q_ld3_1 Z zCS x0 x1 x2 x3 h0 n0 _ s₁.heap _
    rw [e0]
    exact ⟨rfl, N0, rfl⟩
theorem d6_25 : decode method_3_code 25 = .ok (.iconst 2, 1) := by decide +kernel
theorem d6_26 : decode method_3_code 26 = .ok (.ireturn, 1) := by decide +kernel
theorem ef_ld3_2 (m : MethodId) (x0 : Int32) (x1 : Int32) (x2 : Int32) (x3 : Int32) : entryFrame m #[(.int (3 : Int32)), (.int x0), (.int x1), (.int x2), (.int x3)] 5 = mkF m 0 #[.val (.int (3 : Int32)), .val (.int x0), .val (.int x1), .val (.int x2), .val (.int x3)] [] := by first | (simp [entryFrame, mkF, argsToLocals, Value.category]; done) | rfl
def Q_ld3_2 (Z : State) (zCS : Int32) (x0 : Int32) (x1 : Int32) (x2 : Int32) (x3 : Int32) (h0 : Heap) (n0 : Nat) (vv_ : Option Value) (hh_ : Heap) (LL_ : List Loc) : Prop := vv_ = some (.int (2 : Int32)) ∧ (Fr n0 LL_) ∧ (hh_ = h0)
set_option maxRecDepth 65536 in
set_option maxHeartbeats 40000000 in
theorem ld3_2 (l : Launch) (Z : State) (a0 : Array Value) (hw : ∀ d ∈ tables_1, d.before a0 Z = true) (ws : List Jvm.Cond) (zCS : Int32) (x0 : Int32) (x1 : Int32) (x2 : Int32) (x3 : Int32) (h0 : Heap) (n0 : Nat) (O0 : Old Z n0 h0) (S_CS : Sta Z Z.heap "java/lang/String" "COMPACT_STRINGS" "Z" (.int zCS)) (hCS : ¬ (zCS = (0 : Int32))) (hcH : Jvm.Lit.constHeld Z "java/lang/String" 7) (hcW : Jvm.Lit.compactW.before a0 Z = true) (hv2 : x2 = (46 : Int32)) :
    MetFree l (⟨"com/example/wiring_from_blueprints/wiringfromblueprints/internal/StaticFieldCheckedPinLaw", "lastDot", "(ICCCC)I"⟩ : MethodName) (head1 (Jvm.Cond.code (⟨"com/example/wiring_from_blueprints/wiringfromblueprints/internal/StaticFieldCheckedPinLaw", "lastDot", "(ICCCC)I"⟩ : MethodName) method_3_code 5 (some .int) :: ws) ({ frames := 0, cells := 0, slots := 0, locals := 0 } : Room)) (fun aa_ U_ => aa_ = #[(.int (3 : Int32)), (.int x0), (.int x1), (.int x2), (.int x3)] ∧ Z.Warmed39 U_.vm ∧ U_.heap = h0) (fun _ _ _ _ _ => True) (fun _ U_ oo_ V_ => ∃ vv_ LL_, oo_ = .returned vv_ ∧ Q_ld3_2 Z zCS x0 x1 x2 x3 h0 n0 vv_ V_.heap LL_ ∧ FrameEnd U_ oo_ V_ LL_ ({ frames := 0, cells := 0, slots := 0, locals := 0 } : Room).cells ({ frames := 0, cells := 0, slots := 0, locals := 0 } : Room).slots) := by
  refine MetFree.of_bodySF (plainFor_of_name pn_com_example_wiring_from_blueprints_wiringfromblueprints_internal_StaticFieldCheckedPinLaw) hisR ?_
  intro p e s m args below meth c s₁ Bd hml0 hP hK
  obtain ⟨rfl, hZ, hh⟩ := hP
  have hx := Bd.exec
  have hby := Bd.bytes
  have hml : c.maxLocals = 5 := hml0
  have hown : s.vm.findClass "com/example/wiring_from_blueprints/wiringfromblueprints/internal/StaticFieldCheckedPinLaw" = some m.cls := findClass_of_methodNamed Bd.named
  have hnm := (name_of_methodNamed Bd.named Bd.method).1
  have X0 : Stand p l e ({ frames := 0, cells := 0, slots := 0, locals := 0 } : Room) s m #[(.int (3 : Int32)), (.int x0), (.int x1), (.int x2), (.int x3)] below meth c s₁ [] 0 0 := Stand.of_body Bd
  have e0 : s₁.heap = h0 := by rw [← hh, Bd.state]; rfl
  have N0 := Fr.nil n0
  have Z0 : n0 ≤ h0.size := O0.1 ▸ O0.2.1
  have hk0 := Nat.zero_le h0.size
  have K0 : Keep h0 h0 [] := Keep.refl _ _
  have R0 : ∀ t, Steps p.tables e below (s₁.setTop (mkF m 0 #[.val (.int (3 : Int32)), .val (.int x0), .val (.int x1), .val (.int x2), .val (.int x3)] [])) t → Steps p.tables e below (s₁.setTop (entryFrame m #[(.int (3 : Int32)), (.int x0), (.int x1), (.int x2), (.int x3)] 5)) t := fun t k => castTop (ef_ld3_2 m x0 x1 x2 x3) k
  have R1 : ∀ t, Steps p.tables e below (s₁.setTop (mkF m 26 #[.val (.int (3 : Int32)), .val (.int x0), .val (.int x1), .val (.int x2), .val (.int x3)] [(.int (2 : Int32))])) t → Steps p.tables e below (s₁.setTop (entryFrame m #[(.int (3 : Int32)), (.int x0), (.int x1), (.int x2), (.int x3)] 5)) t := by
    intro t k
    refine R0 t ?_
    show Steps p.tables e below (s₁.setTop (mkF m 0 #[.val (.int (3 : Int32)), .val (.int x0), .val (.int x1), .val (.int x2), .val (.int x3)] [])) t
    refine XS.iloadN X0.here hx rfl (hb hby d6_0) rfl ?_
    show Steps p.tables e below (s₁.setTop (mkF m 1 #[.val (.int (3 : Int32)), .val (.int x0), .val (.int x1), .val (.int x2), .val (.int x3)] [(.int (3 : Int32))])) t
    refine XS.iconst X0.here hx rfl (hb hby d6_1) ?_
    show Steps p.tables e below (s₁.setTop (mkF m 2 #[.val (.int (3 : Int32)), .val (.int x0), .val (.int x1), .val (.int x2), .val (.int x3)] [(.int (4 : Int32)), (.int (3 : Int32))])) t
    refine XS.icmpYes X0.here hx rfl (pc0 := 2) (pc' := 14) rfl (hb hby d6_2) rfl (tlt ((by decide) : (3 : Int32) < (4 : Int32))).1 (by decide) (by decide) ?_
    show Steps p.tables e below (s₁.setTop (mkF m 14 #[.val (.int (3 : Int32)), .val (.int x0), .val (.int x1), .val (.int x2), .val (.int x3)] [])) t
    refine XS.iloadN X0.here hx rfl (hb hby d6_14) rfl ?_
    show Steps p.tables e below (s₁.setTop (mkF m 15 #[.val (.int (3 : Int32)), .val (.int x0), .val (.int x1), .val (.int x2), .val (.int x3)] [(.int (3 : Int32))])) t
    refine XS.iconst X0.here hx rfl (hb hby d6_15) ?_
    show Steps p.tables e below (s₁.setTop (mkF m 16 #[.val (.int (3 : Int32)), .val (.int x0), .val (.int x1), .val (.int x2), .val (.int x3)] [(.int (3 : Int32)), (.int (3 : Int32))])) t
    refine XS.icmpNo X0.here hx rfl (hb hby d6_16) rfl (flt ((by decide) : ¬ ((3 : Int32) < (3 : Int32)))).1 ?_
    show Steps p.tables e below (s₁.setTop (mkF m 19 #[.val (.int (3 : Int32)), .val (.int x0), .val (.int x1), .val (.int x2), .val (.int x3)] [])) t
    refine XS.iloadN X0.here hx rfl (hb hby d6_19) rfl ?_
    show Steps p.tables e below (s₁.setTop (mkF m 20 #[.val (.int (3 : Int32)), .val (.int x0), .val (.int x1), .val (.int x2), .val (.int x3)] [(.int x2)])) t
    refine XS.bipush X0.here hx rfl (hb hby d6_20) ?_
    show Steps p.tables e below (s₁.setTop (mkF m 22 #[.val (.int (3 : Int32)), .val (.int x0), .val (.int x1), .val (.int x2), .val (.int x3)] [(.int (46 : Int32)), (.int x2)])) t
    refine XS.icmpNo X0.here hx rfl (hb hby d6_22) rfl (teq (hv2 : x2 = (46 : Int32))).2 ?_
    show Steps p.tables e below (s₁.setTop (mkF m 25 #[.val (.int (3 : Int32)), .val (.int x0), .val (.int x1), .val (.int x2), .val (.int x3)] [])) t
    refine XS.iconst X0.here hx rfl (hb hby d6_25) ?_
    exact k
  obtain ⟨fs, hr, hrun, hended, hW, hsame⟩ := X0.leave (v := some (.int (2 : Int32))) (fun h => by rw [Bd.returns] at h; cases h)
  refine ⟨_, _, R1 _ ?_, hrun, hended, _, _, rfl, ?_, ⟨_, rfl⟩, hW, hsame.mono (by decide) (by decide)⟩
  · show Steps p.tables e below (s₁.setTop (mkF m 26 #[.val (.int (3 : Int32)), .val (.int x0), .val (.int x1), .val (.int x2), .val (.int x3)] [(.int (2 : Int32))])) _
    exact retOut X0 hx Bd.returns rfl (Or.inl ⟨rfl, Or.inl rfl, _, rfl⟩) (hb hby d6_26) hr
  · show Q_ld3_2 Z zCS x0 x1 x2 x3 h0 n0 _ s₁.heap _
    rw [e0]
    exact ⟨rfl, N0, rfl⟩
theorem d6_5 : decode method_3_code 5 = .ok (.iload 4, 2) := by decide +kernel
theorem d6_7 : decode method_3_code 7 = .ok (.bipush 46, 2) := by decide +kernel
theorem d6_9 : decode method_3_code 9 = .ok (.if_icmp .ne 5, 3) := by decide +kernel
theorem ef_ld4_m (m : MethodId) (x0 : Int32) (x1 : Int32) (x2 : Int32) (x3 : Int32) : entryFrame m #[(.int (4 : Int32)), (.int x0), (.int x1), (.int x2), (.int x3)] 5 = mkF m 0 #[.val (.int (4 : Int32)), .val (.int x0), .val (.int x1), .val (.int x2), .val (.int x3)] [] := by first | (simp [entryFrame, mkF, argsToLocals, Value.category]; done) | rfl
def Q_ld4_m (Z : State) (zCS : Int32) (x0 : Int32) (x1 : Int32) (x2 : Int32) (x3 : Int32) (h0 : Heap) (n0 : Nat) (vv_ : Option Value) (hh_ : Heap) (LL_ : List Loc) : Prop := vv_ = some (.int (-1 : Int32)) ∧ (Fr n0 LL_) ∧ (hh_ = h0)
set_option maxRecDepth 65536 in
set_option maxHeartbeats 40000000 in
theorem ld4_m (l : Launch) (Z : State) (a0 : Array Value) (hw : ∀ d ∈ tables_1, d.before a0 Z = true) (ws : List Jvm.Cond) (zCS : Int32) (x0 : Int32) (x1 : Int32) (x2 : Int32) (x3 : Int32) (h0 : Heap) (n0 : Nat) (O0 : Old Z n0 h0) (S_CS : Sta Z Z.heap "java/lang/String" "COMPACT_STRINGS" "Z" (.int zCS)) (hCS : ¬ (zCS = (0 : Int32))) (hcH : Jvm.Lit.constHeld Z "java/lang/String" 7) (hcW : Jvm.Lit.compactW.before a0 Z = true) (hv3 : ¬ (x3 = (46 : Int32))) (hv2 : ¬ (x2 = (46 : Int32))) (hv1 : ¬ (x1 = (46 : Int32))) (hv0 : ¬ (x0 = (46 : Int32))) :
    MetFree l (⟨"com/example/wiring_from_blueprints/wiringfromblueprints/internal/StaticFieldCheckedPinLaw", "lastDot", "(ICCCC)I"⟩ : MethodName) (head1 (Jvm.Cond.code (⟨"com/example/wiring_from_blueprints/wiringfromblueprints/internal/StaticFieldCheckedPinLaw", "lastDot", "(ICCCC)I"⟩ : MethodName) method_3_code 5 (some .int) :: ws) ({ frames := 0, cells := 0, slots := 0, locals := 0 } : Room)) (fun aa_ U_ => aa_ = #[(.int (4 : Int32)), (.int x0), (.int x1), (.int x2), (.int x3)] ∧ Z.Warmed39 U_.vm ∧ U_.heap = h0) (fun _ _ _ _ _ => True) (fun _ U_ oo_ V_ => ∃ vv_ LL_, oo_ = .returned vv_ ∧ Q_ld4_m Z zCS x0 x1 x2 x3 h0 n0 vv_ V_.heap LL_ ∧ FrameEnd U_ oo_ V_ LL_ ({ frames := 0, cells := 0, slots := 0, locals := 0 } : Room).cells ({ frames := 0, cells := 0, slots := 0, locals := 0 } : Room).slots) := by
  refine MetFree.of_bodySF (plainFor_of_name pn_com_example_wiring_from_blueprints_wiringfromblueprints_internal_StaticFieldCheckedPinLaw) hisR ?_
  intro p e s m args below meth c s₁ Bd hml0 hP hK
  obtain ⟨rfl, hZ, hh⟩ := hP
  have hx := Bd.exec
  have hby := Bd.bytes
  have hml : c.maxLocals = 5 := hml0
  have hown : s.vm.findClass "com/example/wiring_from_blueprints/wiringfromblueprints/internal/StaticFieldCheckedPinLaw" = some m.cls := findClass_of_methodNamed Bd.named
  have hnm := (name_of_methodNamed Bd.named Bd.method).1
  have X0 : Stand p l e ({ frames := 0, cells := 0, slots := 0, locals := 0 } : Room) s m #[(.int (4 : Int32)), (.int x0), (.int x1), (.int x2), (.int x3)] below meth c s₁ [] 0 0 := Stand.of_body Bd
  have e0 : s₁.heap = h0 := by rw [← hh, Bd.state]; rfl
  have N0 := Fr.nil n0
  have Z0 : n0 ≤ h0.size := O0.1 ▸ O0.2.1
  have hk0 := Nat.zero_le h0.size
  have K0 : Keep h0 h0 [] := Keep.refl _ _
  have R0 : ∀ t, Steps p.tables e below (s₁.setTop (mkF m 0 #[.val (.int (4 : Int32)), .val (.int x0), .val (.int x1), .val (.int x2), .val (.int x3)] [])) t → Steps p.tables e below (s₁.setTop (entryFrame m #[(.int (4 : Int32)), (.int x0), (.int x1), (.int x2), (.int x3)] 5)) t := fun t k => castTop (ef_ld4_m m x0 x1 x2 x3) k
  have R1 : ∀ t, Steps p.tables e below (s₁.setTop (mkF m 54 #[.val (.int (4 : Int32)), .val (.int x0), .val (.int x1), .val (.int x2), .val (.int x3)] [(.int (-1 : Int32))])) t → Steps p.tables e below (s₁.setTop (entryFrame m #[(.int (4 : Int32)), (.int x0), (.int x1), (.int x2), (.int x3)] 5)) t := by
    intro t k
    refine R0 t ?_
    show Steps p.tables e below (s₁.setTop (mkF m 0 #[.val (.int (4 : Int32)), .val (.int x0), .val (.int x1), .val (.int x2), .val (.int x3)] [])) t
    refine XS.iloadN X0.here hx rfl (hb hby d6_0) rfl ?_
    show Steps p.tables e below (s₁.setTop (mkF m 1 #[.val (.int (4 : Int32)), .val (.int x0), .val (.int x1), .val (.int x2), .val (.int x3)] [(.int (4 : Int32))])) t
    refine XS.iconst X0.here hx rfl (hb hby d6_1) ?_
    show Steps p.tables e below (s₁.setTop (mkF m 2 #[.val (.int (4 : Int32)), .val (.int x0), .val (.int x1), .val (.int x2), .val (.int x3)] [(.int (4 : Int32)), (.int (4 : Int32))])) t
    refine XS.icmpNo X0.here hx rfl (hb hby d6_2) rfl (flt ((by decide) : ¬ ((4 : Int32) < (4 : Int32)))).1 ?_
    show Steps p.tables e below (s₁.setTop (mkF m 5 #[.val (.int (4 : Int32)), .val (.int x0), .val (.int x1), .val (.int x2), .val (.int x3)] [])) t
    refine XS.iload X0.here hx rfl (hb hby d6_5) rfl ?_
    show Steps p.tables e below (s₁.setTop (mkF m 7 #[.val (.int (4 : Int32)), .val (.int x0), .val (.int x1), .val (.int x2), .val (.int x3)] [(.int x3)])) t
    refine XS.bipush X0.here hx rfl (hb hby d6_7) ?_
    show Steps p.tables e below (s₁.setTop (mkF m 9 #[.val (.int (4 : Int32)), .val (.int x0), .val (.int x1), .val (.int x2), .val (.int x3)] [(.int (46 : Int32)), (.int x3)])) t
    refine XS.icmpYes X0.here hx rfl (pc0 := 9) (pc' := 14) rfl (hb hby d6_9) rfl (feq (hv3 : ¬ (x3 = (46 : Int32)))).2 (by decide) (by decide) ?_
    show Steps p.tables e below (s₁.setTop (mkF m 14 #[.val (.int (4 : Int32)), .val (.int x0), .val (.int x1), .val (.int x2), .val (.int x3)] [])) t
    refine XS.iloadN X0.here hx rfl (hb hby d6_14) rfl ?_
    show Steps p.tables e below (s₁.setTop (mkF m 15 #[.val (.int (4 : Int32)), .val (.int x0), .val (.int x1), .val (.int x2), .val (.int x3)] [(.int (4 : Int32))])) t
    refine XS.iconst X0.here hx rfl (hb hby d6_15) ?_
    show Steps p.tables e below (s₁.setTop (mkF m 16 #[.val (.int (4 : Int32)), .val (.int x0), .val (.int x1), .val (.int x2), .val (.int x3)] [(.int (3 : Int32)), (.int (4 : Int32))])) t
    refine XS.icmpNo X0.here hx rfl (hb hby d6_16) rfl (flt ((by decide) : ¬ ((4 : Int32) < (3 : Int32)))).1 ?_
    show Steps p.tables e below (s₁.setTop (mkF m 19 #[.val (.int (4 : Int32)), .val (.int x0), .val (.int x1), .val (.int x2), .val (.int x3)] [])) t
    refine XS.iloadN X0.here hx rfl (hb hby d6_19) rfl ?_
    show Steps p.tables e below (s₁.setTop (mkF m 20 #[.val (.int (4 : Int32)), .val (.int x0), .val (.int x1), .val (.int x2), .val (.int x3)] [(.int x2)])) t
    refine XS.bipush X0.here hx rfl (hb hby d6_20) ?_
    show Steps p.tables e below (s₁.setTop (mkF m 22 #[.val (.int (4 : Int32)), .val (.int x0), .val (.int x1), .val (.int x2), .val (.int x3)] [(.int (46 : Int32)), (.int x2)])) t
    refine XS.icmpYes X0.here hx rfl (pc0 := 22) (pc' := 27) rfl (hb hby d6_22) rfl (feq (hv2 : ¬ (x2 = (46 : Int32)))).2 (by decide) (by decide) ?_
    show Steps p.tables e below (s₁.setTop (mkF m 27 #[.val (.int (4 : Int32)), .val (.int x0), .val (.int x1), .val (.int x2), .val (.int x3)] [])) t
    refine XS.iloadN X0.here hx rfl (hb hby d6_27) rfl ?_
    show Steps p.tables e below (s₁.setTop (mkF m 28 #[.val (.int (4 : Int32)), .val (.int x0), .val (.int x1), .val (.int x2), .val (.int x3)] [(.int (4 : Int32))])) t
    refine XS.iconst X0.here hx rfl (hb hby d6_28) ?_
    show Steps p.tables e below (s₁.setTop (mkF m 29 #[.val (.int (4 : Int32)), .val (.int x0), .val (.int x1), .val (.int x2), .val (.int x3)] [(.int (2 : Int32)), (.int (4 : Int32))])) t
    refine XS.icmpNo X0.here hx rfl (hb hby d6_29) rfl (flt ((by decide) : ¬ ((4 : Int32) < (2 : Int32)))).1 ?_
    show Steps p.tables e below (s₁.setTop (mkF m 32 #[.val (.int (4 : Int32)), .val (.int x0), .val (.int x1), .val (.int x2), .val (.int x3)] [])) t
    refine XS.iloadN X0.here hx rfl (hb hby d6_32) rfl ?_
    show Steps p.tables e below (s₁.setTop (mkF m 33 #[.val (.int (4 : Int32)), .val (.int x0), .val (.int x1), .val (.int x2), .val (.int x3)] [(.int x1)])) t
    refine XS.bipush X0.here hx rfl (hb hby d6_33) ?_
    show Steps p.tables e below (s₁.setTop (mkF m 35 #[.val (.int (4 : Int32)), .val (.int x0), .val (.int x1), .val (.int x2), .val (.int x3)] [(.int (46 : Int32)), (.int x1)])) t
    refine XS.icmpYes X0.here hx rfl (pc0 := 35) (pc' := 40) rfl (hb hby d6_35) rfl (feq (hv1 : ¬ (x1 = (46 : Int32)))).2 (by decide) (by decide) ?_
    show Steps p.tables e below (s₁.setTop (mkF m 40 #[.val (.int (4 : Int32)), .val (.int x0), .val (.int x1), .val (.int x2), .val (.int x3)] [])) t
    refine XS.iloadN X0.here hx rfl (hb hby d6_40) rfl ?_
    show Steps p.tables e below (s₁.setTop (mkF m 41 #[.val (.int (4 : Int32)), .val (.int x0), .val (.int x1), .val (.int x2), .val (.int x3)] [(.int (4 : Int32))])) t
    refine XS.iconst X0.here hx rfl (hb hby d6_41) ?_
    show Steps p.tables e below (s₁.setTop (mkF m 42 #[.val (.int (4 : Int32)), .val (.int x0), .val (.int x1), .val (.int x2), .val (.int x3)] [(.int (1 : Int32)), (.int (4 : Int32))])) t
    refine XS.icmpNo X0.here hx rfl (hb hby d6_42) rfl (flt ((by decide) : ¬ ((4 : Int32) < (1 : Int32)))).1 ?_
    show Steps p.tables e below (s₁.setTop (mkF m 45 #[.val (.int (4 : Int32)), .val (.int x0), .val (.int x1), .val (.int x2), .val (.int x3)] [])) t
    refine XS.iloadN X0.here hx rfl (hb hby d6_45) rfl ?_
    show Steps p.tables e below (s₁.setTop (mkF m 46 #[.val (.int (4 : Int32)), .val (.int x0), .val (.int x1), .val (.int x2), .val (.int x3)] [(.int x0)])) t
    refine XS.bipush X0.here hx rfl (hb hby d6_46) ?_
    show Steps p.tables e below (s₁.setTop (mkF m 48 #[.val (.int (4 : Int32)), .val (.int x0), .val (.int x1), .val (.int x2), .val (.int x3)] [(.int (46 : Int32)), (.int x0)])) t
    refine XS.icmpYes X0.here hx rfl (pc0 := 48) (pc' := 53) rfl (hb hby d6_48) rfl (feq (hv0 : ¬ (x0 = (46 : Int32)))).2 (by decide) (by decide) ?_
    show Steps p.tables e below (s₁.setTop (mkF m 53 #[.val (.int (4 : Int32)), .val (.int x0), .val (.int x1), .val (.int x2), .val (.int x3)] [])) t
    refine XS.iconst X0.here hx rfl (hb hby d6_53) ?_
    exact k
  obtain ⟨fs, hr, hrun, hended, hW, hsame⟩ := X0.leave (v := some (.int (-1 : Int32))) (fun h => by rw [Bd.returns] at h; cases h)
  refine ⟨_, _, R1 _ ?_, hrun, hended, _, _, rfl, ?_, ⟨_, rfl⟩, hW, hsame.mono (by decide) (by decide)⟩
  · show Steps p.tables e below (s₁.setTop (mkF m 54 #[.val (.int (4 : Int32)), .val (.int x0), .val (.int x1), .val (.int x2), .val (.int x3)] [(.int (-1 : Int32))])) _
    exact retOut X0 hx Bd.returns rfl (Or.inl ⟨rfl, Or.inl rfl, _, rfl⟩) (hb hby d6_54) hr
  · show Q_ld4_m Z zCS x0 x1 x2 x3 h0 n0 _ s₁.heap _
    rw [e0]
    exact ⟨rfl, N0, rfl⟩
theorem ef_ld4_0 (m : MethodId) (x0 : Int32) (x1 : Int32) (x2 : Int32) (x3 : Int32) : entryFrame m #[(.int (4 : Int32)), (.int x0), (.int x1), (.int x2), (.int x3)] 5 = mkF m 0 #[.val (.int (4 : Int32)), .val (.int x0), .val (.int x1), .val (.int x2), .val (.int x3)] [] := by first | (simp [entryFrame, mkF, argsToLocals, Value.category]; done) | rfl
def Q_ld4_0 (Z : State) (zCS : Int32) (x0 : Int32) (x1 : Int32) (x2 : Int32) (x3 : Int32) (h0 : Heap) (n0 : Nat) (vv_ : Option Value) (hh_ : Heap) (LL_ : List Loc) : Prop := vv_ = some (.int (0 : Int32)) ∧ (Fr n0 LL_) ∧ (hh_ = h0)
set_option maxRecDepth 65536 in
set_option maxHeartbeats 40000000 in
theorem ld4_0 (l : Launch) (Z : State) (a0 : Array Value) (hw : ∀ d ∈ tables_1, d.before a0 Z = true) (ws : List Jvm.Cond) (zCS : Int32) (x0 : Int32) (x1 : Int32) (x2 : Int32) (x3 : Int32) (h0 : Heap) (n0 : Nat) (O0 : Old Z n0 h0) (S_CS : Sta Z Z.heap "java/lang/String" "COMPACT_STRINGS" "Z" (.int zCS)) (hCS : ¬ (zCS = (0 : Int32))) (hcH : Jvm.Lit.constHeld Z "java/lang/String" 7) (hcW : Jvm.Lit.compactW.before a0 Z = true) (hv3 : ¬ (x3 = (46 : Int32))) (hv2 : ¬ (x2 = (46 : Int32))) (hv1 : ¬ (x1 = (46 : Int32))) (hv0 : x0 = (46 : Int32)) :
    MetFree l (⟨"com/example/wiring_from_blueprints/wiringfromblueprints/internal/StaticFieldCheckedPinLaw", "lastDot", "(ICCCC)I"⟩ : MethodName) (head1 (Jvm.Cond.code (⟨"com/example/wiring_from_blueprints/wiringfromblueprints/internal/StaticFieldCheckedPinLaw", "lastDot", "(ICCCC)I"⟩ : MethodName) method_3_code 5 (some .int) :: ws) ({ frames := 0, cells := 0, slots := 0, locals := 0 } : Room)) (fun aa_ U_ => aa_ = #[(.int (4 : Int32)), (.int x0), (.int x1), (.int x2), (.int x3)] ∧ Z.Warmed39 U_.vm ∧ U_.heap = h0) (fun _ _ _ _ _ => True) (fun _ U_ oo_ V_ => ∃ vv_ LL_, oo_ = .returned vv_ ∧ Q_ld4_0 Z zCS x0 x1 x2 x3 h0 n0 vv_ V_.heap LL_ ∧ FrameEnd U_ oo_ V_ LL_ ({ frames := 0, cells := 0, slots := 0, locals := 0 } : Room).cells ({ frames := 0, cells := 0, slots := 0, locals := 0 } : Room).slots) := by
  refine MetFree.of_bodySF (plainFor_of_name pn_com_example_wiring_from_blueprints_wiringfromblueprints_internal_StaticFieldCheckedPinLaw) hisR ?_
  intro p e s m args below meth c s₁ Bd hml0 hP hK
  obtain ⟨rfl, hZ, hh⟩ := hP
  have hx := Bd.exec
  have hby := Bd.bytes
  have hml : c.maxLocals = 5 := hml0
  have hown : s.vm.findClass "com/example/wiring_from_blueprints/wiringfromblueprints/internal/StaticFieldCheckedPinLaw" = some m.cls := findClass_of_methodNamed Bd.named
  have hnm := (name_of_methodNamed Bd.named Bd.method).1
  have X0 : Stand p l e ({ frames := 0, cells := 0, slots := 0, locals := 0 } : Room) s m #[(.int (4 : Int32)), (.int x0), (.int x1), (.int x2), (.int x3)] below meth c s₁ [] 0 0 := Stand.of_body Bd
  have e0 : s₁.heap = h0 := by rw [← hh, Bd.state]; rfl
  have N0 := Fr.nil n0
  have Z0 : n0 ≤ h0.size := O0.1 ▸ O0.2.1
  have hk0 := Nat.zero_le h0.size
  have K0 : Keep h0 h0 [] := Keep.refl _ _
  have R0 : ∀ t, Steps p.tables e below (s₁.setTop (mkF m 0 #[.val (.int (4 : Int32)), .val (.int x0), .val (.int x1), .val (.int x2), .val (.int x3)] [])) t → Steps p.tables e below (s₁.setTop (entryFrame m #[(.int (4 : Int32)), (.int x0), (.int x1), (.int x2), (.int x3)] 5)) t := fun t k => castTop (ef_ld4_0 m x0 x1 x2 x3) k
  have R1 : ∀ t, Steps p.tables e below (s₁.setTop (mkF m 52 #[.val (.int (4 : Int32)), .val (.int x0), .val (.int x1), .val (.int x2), .val (.int x3)] [(.int (0 : Int32))])) t → Steps p.tables e below (s₁.setTop (entryFrame m #[(.int (4 : Int32)), (.int x0), (.int x1), (.int x2), (.int x3)] 5)) t := by
    intro t k
    refine R0 t ?_
    show Steps p.tables e below (s₁.setTop (mkF m 0 #[.val (.int (4 : Int32)), .val (.int x0), .val (.int x1), .val (.int x2), .val (.int x3)] [])) t
    refine XS.iloadN X0.here hx rfl (hb hby d6_0) rfl ?_
    show Steps p.tables e below (s₁.setTop (mkF m 1 #[.val (.int (4 : Int32)), .val (.int x0), .val (.int x1), .val (.int x2), .val (.int x3)] [(.int (4 : Int32))])) t
    refine XS.iconst X0.here hx rfl (hb hby d6_1) ?_
    show Steps p.tables e below (s₁.setTop (mkF m 2 #[.val (.int (4 : Int32)), .val (.int x0), .val (.int x1), .val (.int x2), .val (.int x3)] [(.int (4 : Int32)), (.int (4 : Int32))])) t
    refine XS.icmpNo X0.here hx rfl (hb hby d6_2) rfl (flt ((by decide) : ¬ ((4 : Int32) < (4 : Int32)))).1 ?_
    show Steps p.tables e below (s₁.setTop (mkF m 5 #[.val (.int (4 : Int32)), .val (.int x0), .val (.int x1), .val (.int x2), .val (.int x3)] [])) t
    refine XS.iload X0.here hx rfl (hb hby d6_5) rfl ?_
    show Steps p.tables e below (s₁.setTop (mkF m 7 #[.val (.int (4 : Int32)), .val (.int x0), .val (.int x1), .val (.int x2), .val (.int x3)] [(.int x3)])) t
    refine XS.bipush X0.here hx rfl (hb hby d6_7) ?_
    show Steps p.tables e below (s₁.setTop (mkF m 9 #[.val (.int (4 : Int32)), .val (.int x0), .val (.int x1), .val (.int x2), .val (.int x3)] [(.int (46 : Int32)), (.int x3)])) t
    refine XS.icmpYes X0.here hx rfl (pc0 := 9) (pc' := 14) rfl (hb hby d6_9) rfl (feq (hv3 : ¬ (x3 = (46 : Int32)))).2 (by decide) (by decide) ?_
    show Steps p.tables e below (s₁.setTop (mkF m 14 #[.val (.int (4 : Int32)), .val (.int x0), .val (.int x1), .val (.int x2), .val (.int x3)] [])) t
    refine XS.iloadN X0.here hx rfl (hb hby d6_14) rfl ?_
    show Steps p.tables e below (s₁.setTop (mkF m 15 #[.val (.int (4 : Int32)), .val (.int x0), .val (.int x1), .val (.int x2), .val (.int x3)] [(.int (4 : Int32))])) t
    refine XS.iconst X0.here hx rfl (hb hby d6_15) ?_
    show Steps p.tables e below (s₁.setTop (mkF m 16 #[.val (.int (4 : Int32)), .val (.int x0), .val (.int x1), .val (.int x2), .val (.int x3)] [(.int (3 : Int32)), (.int (4 : Int32))])) t
    refine XS.icmpNo X0.here hx rfl (hb hby d6_16) rfl (flt ((by decide) : ¬ ((4 : Int32) < (3 : Int32)))).1 ?_
    show Steps p.tables e below (s₁.setTop (mkF m 19 #[.val (.int (4 : Int32)), .val (.int x0), .val (.int x1), .val (.int x2), .val (.int x3)] [])) t
    refine XS.iloadN X0.here hx rfl (hb hby d6_19) rfl ?_
    show Steps p.tables e below (s₁.setTop (mkF m 20 #[.val (.int (4 : Int32)), .val (.int x0), .val (.int x1), .val (.int x2), .val (.int x3)] [(.int x2)])) t
    refine XS.bipush X0.here hx rfl (hb hby d6_20) ?_
    show Steps p.tables e below (s₁.setTop (mkF m 22 #[.val (.int (4 : Int32)), .val (.int x0), .val (.int x1), .val (.int x2), .val (.int x3)] [(.int (46 : Int32)), (.int x2)])) t
    refine XS.icmpYes X0.here hx rfl (pc0 := 22) (pc' := 27) rfl (hb hby d6_22) rfl (feq (hv2 : ¬ (x2 = (46 : Int32)))).2 (by decide) (by decide) ?_
    show Steps p.tables e below (s₁.setTop (mkF m 27 #[.val (.int (4 : Int32)), .val (.int x0), .val (.int x1), .val (.int x2), .val (.int x3)] [])) t
    refine XS.iloadN X0.here hx rfl (hb hby d6_27) rfl ?_
    show Steps p.tables e below (s₁.setTop (mkF m 28 #[.val (.int (4 : Int32)), .val (.int x0), .val (.int x1), .val (.int x2), .val (.int x3)] [(.int (4 : Int32))])) t
    refine XS.iconst X0.here hx rfl (hb hby d6_28) ?_
    show Steps p.tables e below (s₁.setTop (mkF m 29 #[.val (.int (4 : Int32)), .val (.int x0), .val (.int x1), .val (.int x2), .val (.int x3)] [(.int (2 : Int32)), (.int (4 : Int32))])) t
    refine XS.icmpNo X0.here hx rfl (hb hby d6_29) rfl (flt ((by decide) : ¬ ((4 : Int32) < (2 : Int32)))).1 ?_
    show Steps p.tables e below (s₁.setTop (mkF m 32 #[.val (.int (4 : Int32)), .val (.int x0), .val (.int x1), .val (.int x2), .val (.int x3)] [])) t
    refine XS.iloadN X0.here hx rfl (hb hby d6_32) rfl ?_
    show Steps p.tables e below (s₁.setTop (mkF m 33 #[.val (.int (4 : Int32)), .val (.int x0), .val (.int x1), .val (.int x2), .val (.int x3)] [(.int x1)])) t
    refine XS.bipush X0.here hx rfl (hb hby d6_33) ?_
    show Steps p.tables e below (s₁.setTop (mkF m 35 #[.val (.int (4 : Int32)), .val (.int x0), .val (.int x1), .val (.int x2), .val (.int x3)] [(.int (46 : Int32)), (.int x1)])) t
    refine XS.icmpYes X0.here hx rfl (pc0 := 35) (pc' := 40) rfl (hb hby d6_35) rfl (feq (hv1 : ¬ (x1 = (46 : Int32)))).2 (by decide) (by decide) ?_
    show Steps p.tables e below (s₁.setTop (mkF m 40 #[.val (.int (4 : Int32)), .val (.int x0), .val (.int x1), .val (.int x2), .val (.int x3)] [])) t
    refine XS.iloadN X0.here hx rfl (hb hby d6_40) rfl ?_
    show Steps p.tables e below (s₁.setTop (mkF m 41 #[.val (.int (4 : Int32)), .val (.int x0), .val (.int x1), .val (.int x2), .val (.int x3)] [(.int (4 : Int32))])) t
    refine XS.iconst X0.here hx rfl (hb hby d6_41) ?_
    show Steps p.tables e below (s₁.setTop (mkF m 42 #[.val (.int (4 : Int32)), .val (.int x0), .val (.int x1), .val (.int x2), .val (.int x3)] [(.int (1 : Int32)), (.int (4 : Int32))])) t
    refine XS.icmpNo X0.here hx rfl (hb hby d6_42) rfl (flt ((by decide) : ¬ ((4 : Int32) < (1 : Int32)))).1 ?_
    show Steps p.tables e below (s₁.setTop (mkF m 45 #[.val (.int (4 : Int32)), .val (.int x0), .val (.int x1), .val (.int x2), .val (.int x3)] [])) t
    refine XS.iloadN X0.here hx rfl (hb hby d6_45) rfl ?_
    show Steps p.tables e below (s₁.setTop (mkF m 46 #[.val (.int (4 : Int32)), .val (.int x0), .val (.int x1), .val (.int x2), .val (.int x3)] [(.int x0)])) t
    refine XS.bipush X0.here hx rfl (hb hby d6_46) ?_
    show Steps p.tables e below (s₁.setTop (mkF m 48 #[.val (.int (4 : Int32)), .val (.int x0), .val (.int x1), .val (.int x2), .val (.int x3)] [(.int (46 : Int32)), (.int x0)])) t
    refine XS.icmpNo X0.here hx rfl (hb hby d6_48) rfl (teq (hv0 : x0 = (46 : Int32))).2 ?_
    show Steps p.tables e below (s₁.setTop (mkF m 51 #[.val (.int (4 : Int32)), .val (.int x0), .val (.int x1), .val (.int x2), .val (.int x3)] [])) t
    refine XS.iconst X0.here hx rfl (hb hby d6_51) ?_
    exact k
  obtain ⟨fs, hr, hrun, hended, hW, hsame⟩ := X0.leave (v := some (.int (0 : Int32))) (fun h => by rw [Bd.returns] at h; cases h)
  refine ⟨_, _, R1 _ ?_, hrun, hended, _, _, rfl, ?_, ⟨_, rfl⟩, hW, hsame.mono (by decide) (by decide)⟩
  · show Steps p.tables e below (s₁.setTop (mkF m 52 #[.val (.int (4 : Int32)), .val (.int x0), .val (.int x1), .val (.int x2), .val (.int x3)] [(.int (0 : Int32))])) _
    exact retOut X0 hx Bd.returns rfl (Or.inl ⟨rfl, Or.inl rfl, _, rfl⟩) (hb hby d6_52) hr
  · show Q_ld4_0 Z zCS x0 x1 x2 x3 h0 n0 _ s₁.heap _
    rw [e0]
    exact ⟨rfl, N0, rfl⟩
theorem ef_ld4_1 (m : MethodId) (x0 : Int32) (x1 : Int32) (x2 : Int32) (x3 : Int32) : entryFrame m #[(.int (4 : Int32)), (.int x0), (.int x1), (.int x2), (.int x3)] 5 = mkF m 0 #[.val (.int (4 : Int32)), .val (.int x0), .val (.int x1), .val (.int x2), .val (.int x3)] [] := by first | (simp [entryFrame, mkF, argsToLocals, Value.category]; done) | rfl
def Q_ld4_1 (Z : State) (zCS : Int32) (x0 : Int32) (x1 : Int32) (x2 : Int32) (x3 : Int32) (h0 : Heap) (n0 : Nat) (vv_ : Option Value) (hh_ : Heap) (LL_ : List Loc) : Prop := vv_ = some (.int (1 : Int32)) ∧ (Fr n0 LL_) ∧ (hh_ = h0)
set_option maxRecDepth 65536 in
set_option maxHeartbeats 40000000 in
theorem ld4_1 (l : Launch) (Z : State) (a0 : Array Value) (hw : ∀ d ∈ tables_1, d.before a0 Z = true) (ws : List Jvm.Cond) (zCS : Int32) (x0 : Int32) (x1 : Int32) (x2 : Int32) (x3 : Int32) (h0 : Heap) (n0 : Nat) (O0 : Old Z n0 h0) (S_CS : Sta Z Z.heap "java/lang/String" "COMPACT_STRINGS" "Z" (.int zCS)) (hCS : ¬ (zCS = (0 : Int32))) (hcH : Jvm.Lit.constHeld Z "java/lang/String" 7) (hcW : Jvm.Lit.compactW.before a0 Z = true) (hv3 : ¬ (x3 = (46 : Int32))) (hv2 : ¬ (x2 = (46 : Int32))) (hv1 : x1 = (46 : Int32)) :
    MetFree l (⟨"com/example/wiring_from_blueprints/wiringfromblueprints/internal/StaticFieldCheckedPinLaw", "lastDot", "(ICCCC)I"⟩ : MethodName) (head1 (Jvm.Cond.code (⟨"com/example/wiring_from_blueprints/wiringfromblueprints/internal/StaticFieldCheckedPinLaw", "lastDot", "(ICCCC)I"⟩ : MethodName) method_3_code 5 (some .int) :: ws) ({ frames := 0, cells := 0, slots := 0, locals := 0 } : Room)) (fun aa_ U_ => aa_ = #[(.int (4 : Int32)), (.int x0), (.int x1), (.int x2), (.int x3)] ∧ Z.Warmed39 U_.vm ∧ U_.heap = h0) (fun _ _ _ _ _ => True) (fun _ U_ oo_ V_ => ∃ vv_ LL_, oo_ = .returned vv_ ∧ Q_ld4_1 Z zCS x0 x1 x2 x3 h0 n0 vv_ V_.heap LL_ ∧ FrameEnd U_ oo_ V_ LL_ ({ frames := 0, cells := 0, slots := 0, locals := 0 } : Room).cells ({ frames := 0, cells := 0, slots := 0, locals := 0 } : Room).slots) := by
  refine MetFree.of_bodySF (plainFor_of_name pn_com_example_wiring_from_blueprints_wiringfromblueprints_internal_StaticFieldCheckedPinLaw) hisR ?_
  intro p e s m args below meth c s₁ Bd hml0 hP hK
  obtain ⟨rfl, hZ, hh⟩ := hP
  have hx := Bd.exec
  have hby := Bd.bytes
  have hml : c.maxLocals = 5 := hml0
  have hown : s.vm.findClass "com/example/wiring_from_blueprints/wiringfromblueprints/internal/StaticFieldCheckedPinLaw" = some m.cls := findClass_of_methodNamed Bd.named
  have hnm := (name_of_methodNamed Bd.named Bd.method).1
  have X0 : Stand p l e ({ frames := 0, cells := 0, slots := 0, locals := 0 } : Room) s m #[(.int (4 : Int32)), (.int x0), (.int x1), (.int x2), (.int x3)] below meth c s₁ [] 0 0 := Stand.of_body Bd
  have e0 : s₁.heap = h0 := by rw [← hh, Bd.state]; rfl
  have N0 := Fr.nil n0
  have Z0 : n0 ≤ h0.size := O0.1 ▸ O0.2.1
  have hk0 := Nat.zero_le h0.size
  have K0 : Keep h0 h0 [] := Keep.refl _ _
  have R0 : ∀ t, Steps p.tables e below (s₁.setTop (mkF m 0 #[.val (.int (4 : Int32)), .val (.int x0), .val (.int x1), .val (.int x2), .val (.int x3)] [])) t → Steps p.tables e below (s₁.setTop (entryFrame m #[(.int (4 : Int32)), (.int x0), (.int x1), (.int x2), (.int x3)] 5)) t := fun t k => castTop (ef_ld4_1 m x0 x1 x2 x3) k
  have R1 : ∀ t, Steps p.tables e below (s₁.setTop (mkF m 39 #[.val (.int (4 : Int32)), .val (.int x0), .val (.int x1), .val (.int x2), .val (.int x3)] [(.int (1 : Int32))])) t → Steps p.tables e below (s₁.setTop (entryFrame m #[(.int (4 : Int32)), (.int x0), (.int x1), (.int x2), (.int x3)] 5)) t := by
    intro t k
    refine R0 t ?_
    show Steps p.tables e below (s₁.setTop (mkF m 0 #[.val (.int (4 : Int32)), .val (.int x0), .val (.int x1), .val (.int x2), .val (.int x3)] [])) t
    refine XS.iloadN X0.here hx rfl (hb hby d6_0) rfl ?_
    show Steps p.tables e below (s₁.setTop (mkF m 1 #[.val (.int (4 : Int32)), .val (.int x0), .val (.int x1), .val (.int x2), .val (.int x3)] [(.int (4 : Int32))])) t
    refine XS.iconst X0.here hx rfl (hb hby d6_1) ?_
    show Steps p.tables e below (s₁.setTop (mkF m 2 #[.val (.int (4 : Int32)), .val (.int x0), .val (.int x1), .val (.int x2), .val (.int x3)] [(.int (4 : Int32)), (.int (4 : Int32))])) t
    refine XS.icmpNo X0.here hx rfl (hb hby d6_2) rfl (flt ((by decide) : ¬ ((4 : Int32) < (4 : Int32)))).1 ?_
    show Steps p.tables e below (s₁.setTop (mkF m 5 #[.val (.int (4 : Int32)), .val (.int x0), .val (.int x1), .val (.int x2), .val (.int x3)] [])) t
    refine XS.iload X0.here hx rfl (hb hby d6_5) rfl ?_
    show Steps p.tables e below (s₁.setTop (mkF m 7 #[.val (.int (4 : Int32)), .val (.int x0), .val (.int x1), .val (.int x2), .val (.int x3)] [(.int x3)])) t
    refine XS.bipush X0.here hx rfl (hb hby d6_7) ?_
    show Steps p.tables e below (s₁.setTop (mkF m 9 #[.val (.int (4 : Int32)), .val (.int x0), .val (.int x1), .val (.int x2), .val (.int x3)] [(.int (46 : Int32)), (.int x3)])) t
    refine XS.icmpYes X0.here hx rfl (pc0 := 9) (pc' := 14) rfl (hb hby d6_9) rfl (feq (hv3 : ¬ (x3 = (46 : Int32)))).2 (by decide) (by decide) ?_
    show Steps p.tables e below (s₁.setTop (mkF m 14 #[.val (.int (4 : Int32)), .val (.int x0), .val (.int x1), .val (.int x2), .val (.int x3)] [])) t
    refine XS.iloadN X0.here hx rfl (hb hby d6_14) rfl ?_
    show Steps p.tables e below (s₁.setTop (mkF m 15 #[.val (.int (4 : Int32)), .val (.int x0), .val (.int x1), .val (.int x2), .val (.int x3)] [(.int (4 : Int32))])) t
    refine XS.iconst X0.here hx rfl (hb hby d6_15) ?_
    show Steps p.tables e below (s₁.setTop (mkF m 16 #[.val (.int (4 : Int32)), .val (.int x0), .val (.int x1), .val (.int x2), .val (.int x3)] [(.int (3 : Int32)), (.int (4 : Int32))])) t
    refine XS.icmpNo X0.here hx rfl (hb hby d6_16) rfl (flt ((by decide) : ¬ ((4 : Int32) < (3 : Int32)))).1 ?_
    show Steps p.tables e below (s₁.setTop (mkF m 19 #[.val (.int (4 : Int32)), .val (.int x0), .val (.int x1), .val (.int x2), .val (.int x3)] [])) t
    refine XS.iloadN X0.here hx rfl (hb hby d6_19) rfl ?_
    show Steps p.tables e below (s₁.setTop (mkF m 20 #[.val (.int (4 : Int32)), .val (.int x0), .val (.int x1), .val (.int x2), .val (.int x3)] [(.int x2)])) t
    refine XS.bipush X0.here hx rfl (hb hby d6_20) ?_
    show Steps p.tables e below (s₁.setTop (mkF m 22 #[.val (.int (4 : Int32)), .val (.int x0), .val (.int x1), .val (.int x2), .val (.int x3)] [(.int (46 : Int32)), (.int x2)])) t
    refine XS.icmpYes X0.here hx rfl (pc0 := 22) (pc' := 27) rfl (hb hby d6_22) rfl (feq (hv2 : ¬ (x2 = (46 : Int32)))).2 (by decide) (by decide) ?_
    show Steps p.tables e below (s₁.setTop (mkF m 27 #[.val (.int (4 : Int32)), .val (.int x0), .val (.int x1), .val (.int x2), .val (.int x3)] [])) t
    refine XS.iloadN X0.here hx rfl (hb hby d6_27) rfl ?_
    show Steps p.tables e below (s₁.setTop (mkF m 28 #[.val (.int (4 : Int32)), .val (.int x0), .val (.int x1), .val (.int x2), .val (.int x3)] [(.int (4 : Int32))])) t
    refine XS.iconst X0.here hx rfl (hb hby d6_28) ?_
    show Steps p.tables e below (s₁.setTop (mkF m 29 #[.val (.int (4 : Int32)), .val (.int x0), .val (.int x1), .val (.int x2), .val (.int x3)] [(.int (2 : Int32)), (.int (4 : Int32))])) t
    refine XS.icmpNo X0.here hx rfl (hb hby d6_29) rfl (flt ((by decide) : ¬ ((4 : Int32) < (2 : Int32)))).1 ?_
    show Steps p.tables e below (s₁.setTop (mkF m 32 #[.val (.int (4 : Int32)), .val (.int x0), .val (.int x1), .val (.int x2), .val (.int x3)] [])) t
    refine XS.iloadN X0.here hx rfl (hb hby d6_32) rfl ?_
    show Steps p.tables e below (s₁.setTop (mkF m 33 #[.val (.int (4 : Int32)), .val (.int x0), .val (.int x1), .val (.int x2), .val (.int x3)] [(.int x1)])) t
    refine XS.bipush X0.here hx rfl (hb hby d6_33) ?_
    show Steps p.tables e below (s₁.setTop (mkF m 35 #[.val (.int (4 : Int32)), .val (.int x0), .val (.int x1), .val (.int x2), .val (.int x3)] [(.int (46 : Int32)), (.int x1)])) t
    refine XS.icmpNo X0.here hx rfl (hb hby d6_35) rfl (teq (hv1 : x1 = (46 : Int32))).2 ?_
    show Steps p.tables e below (s₁.setTop (mkF m 38 #[.val (.int (4 : Int32)), .val (.int x0), .val (.int x1), .val (.int x2), .val (.int x3)] [])) t
    refine XS.iconst X0.here hx rfl (hb hby d6_38) ?_
    exact k
  obtain ⟨fs, hr, hrun, hended, hW, hsame⟩ := X0.leave (v := some (.int (1 : Int32))) (fun h => by rw [Bd.returns] at h; cases h)
  refine ⟨_, _, R1 _ ?_, hrun, hended, _, _, rfl, ?_, ⟨_, rfl⟩, hW, hsame.mono (by decide) (by decide)⟩
  · show Steps p.tables e below (s₁.setTop (mkF m 39 #[.val (.int (4 : Int32)), .val (.int x0), .val (.int x1), .val (.int x2), .val (.int x3)] [(.int (1 : Int32))])) _
    exact retOut X0 hx Bd.returns rfl (Or.inl ⟨rfl, Or.inl rfl, _, rfl⟩) (hb hby d6_39) hr
  · show Q_ld4_1 Z zCS x0 x1 x2 x3 h0 n0 _ s₁.heap _
    rw [e0]
    exact ⟨rfl, N0, rfl⟩
theorem ef_ld4_2 (m : MethodId) (x0 : Int32) (x1 : Int32) (x2 : Int32) (x3 : Int32) : entryFrame m #[(.int (4 : Int32)), (.int x0), (.int x1), (.int x2), (.int x3)] 5 = mkF m 0 #[.val (.int (4 : Int32)), .val (.int x0), .val (.int x1), .val (.int x2), .val (.int x3)] [] := by first | (simp [entryFrame, mkF, argsToLocals, Value.category]; done) | rfl
def Q_ld4_2 (Z : State) (zCS : Int32) (x0 : Int32) (x1 : Int32) (x2 : Int32) (x3 : Int32) (h0 : Heap) (n0 : Nat) (vv_ : Option Value) (hh_ : Heap) (LL_ : List Loc) : Prop := vv_ = some (.int (2 : Int32)) ∧ (Fr n0 LL_) ∧ (hh_ = h0)
set_option maxRecDepth 65536 in
set_option maxHeartbeats 40000000 in
theorem ld4_2 (l : Launch) (Z : State) (a0 : Array Value) (hw : ∀ d ∈ tables_1, d.before a0 Z = true) (ws : List Jvm.Cond) (zCS : Int32) (x0 : Int32) (x1 : Int32) (x2 : Int32) (x3 : Int32) (h0 : Heap) (n0 : Nat) (O0 : Old Z n0 h0) (S_CS : Sta Z Z.heap "java/lang/String" "COMPACT_STRINGS" "Z" (.int zCS)) (hCS : ¬ (zCS = (0 : Int32))) (hcH : Jvm.Lit.constHeld Z "java/lang/String" 7) (hcW : Jvm.Lit.compactW.before a0 Z = true) (hv3 : ¬ (x3 = (46 : Int32))) (hv2 : x2 = (46 : Int32)) :
    MetFree l (⟨"com/example/wiring_from_blueprints/wiringfromblueprints/internal/StaticFieldCheckedPinLaw", "lastDot", "(ICCCC)I"⟩ : MethodName) (head1 (Jvm.Cond.code (⟨"com/example/wiring_from_blueprints/wiringfromblueprints/internal/StaticFieldCheckedPinLaw", "lastDot", "(ICCCC)I"⟩ : MethodName) method_3_code 5 (some .int) :: ws) ({ frames := 0, cells := 0, slots := 0, locals := 0 } : Room)) (fun aa_ U_ => aa_ = #[(.int (4 : Int32)), (.int x0), (.int x1), (.int x2), (.int x3)] ∧ Z.Warmed39 U_.vm ∧ U_.heap = h0) (fun _ _ _ _ _ => True) (fun _ U_ oo_ V_ => ∃ vv_ LL_, oo_ = .returned vv_ ∧ Q_ld4_2 Z zCS x0 x1 x2 x3 h0 n0 vv_ V_.heap LL_ ∧ FrameEnd U_ oo_ V_ LL_ ({ frames := 0, cells := 0, slots := 0, locals := 0 } : Room).cells ({ frames := 0, cells := 0, slots := 0, locals := 0 } : Room).slots) := by
  refine MetFree.of_bodySF (plainFor_of_name pn_com_example_wiring_from_blueprints_wiringfromblueprints_internal_StaticFieldCheckedPinLaw) hisR ?_
  intro p e s m args below meth c s₁ Bd hml0 hP hK
  obtain ⟨rfl, hZ, hh⟩ := hP
  have hx := Bd.exec
  have hby := Bd.bytes
  have hml : c.maxLocals = 5 := hml0
  have hown : s.vm.findClass "com/example/wiring_from_blueprints/wiringfromblueprints/internal/StaticFieldCheckedPinLaw" = some m.cls := findClass_of_methodNamed Bd.named
  have hnm := (name_of_methodNamed Bd.named Bd.method).1
  have X0 : Stand p l e ({ frames := 0, cells := 0, slots := 0, locals := 0 } : Room) s m #[(.int (4 : Int32)), (.int x0), (.int x1), (.int x2), (.int x3)] below meth c s₁ [] 0 0 := Stand.of_body Bd
  have e0 : s₁.heap = h0 := by rw [← hh, Bd.state]; rfl
  have N0 := Fr.nil n0
  have Z0 : n0 ≤ h0.size := O0.1 ▸ O0.2.1
  have hk0 := Nat.zero_le h0.size
  have K0 : Keep h0 h0 [] := Keep.refl _ _
  have R0 : ∀ t, Steps p.tables e below (s₁.setTop (mkF m 0 #[.val (.int (4 : Int32)), .val (.int x0), .val (.int x1), .val (.int x2), .val (.int x3)] [])) t → Steps p.tables e below (s₁.setTop (entryFrame m #[(.int (4 : Int32)), (.int x0), (.int x1), (.int x2), (.int x3)] 5)) t := fun t k => castTop (ef_ld4_2 m x0 x1 x2 x3) k
  have R1 : ∀ t, Steps p.tables e below (s₁.setTop (mkF m 26 #[.val (.int (4 : Int32)), .val (.int x0), .val (.int x1), .val (.int x2), .val (.int x3)] [(.int (2 : Int32))])) t → Steps p.tables e below (s₁.setTop (entryFrame m #[(.int (4 : Int32)), (.int x0), (.int x1), (.int x2), (.int x3)] 5)) t := by
    intro t k
    refine R0 t ?_
    show Steps p.tables e below (s₁.setTop (mkF m 0 #[.val (.int (4 : Int32)), .val (.int x0), .val (.int x1), .val (.int x2), .val (.int x3)] [])) t
    refine XS.iloadN X0.here hx rfl (hb hby d6_0) rfl ?_
    show Steps p.tables e below (s₁.setTop (mkF m 1 #[.val (.int (4 : Int32)), .val (.int x0), .val (.int x1), .val (.int x2), .val (.int x3)] [(.int (4 : Int32))])) t
    refine XS.iconst X0.here hx rfl (hb hby d6_1) ?_
    show Steps p.tables e below (s₁.setTop (mkF m 2 #[.val (.int (4 : Int32)), .val (.int x0), .val (.int x1), .val (.int x2), .val (.int x3)] [(.int (4 : Int32)), (.int (4 : Int32))])) t
    refine XS.icmpNo X0.here hx rfl (hb hby d6_2) rfl (flt ((by decide) : ¬ ((4 : Int32) < (4 : Int32)))).1 ?_
    show Steps p.tables e below (s₁.setTop (mkF m 5 #[.val (.int (4 : Int32)), .val (.int x0), .val (.int x1), .val (.int x2), .val (.int x3)] [])) t
    refine XS.iload X0.here hx rfl (hb hby d6_5) rfl ?_
    show Steps p.tables e below (s₁.setTop (mkF m 7 #[.val (.int (4 : Int32)), .val (.int x0), .val (.int x1), .val (.int x2), .val (.int x3)] [(.int x3)])) t
    refine XS.bipush X0.here hx rfl (hb hby d6_7) ?_
    show Steps p.tables e below (s₁.setTop (mkF m 9 #[.val (.int (4 : Int32)), .val (.int x0), .val (.int x1), .val (.int x2), .val (.int x3)] [(.int (46 : Int32)), (.int x3)])) t
    refine XS.icmpYes X0.here hx rfl (pc0 := 9) (pc' := 14) rfl (hb hby d6_9) rfl (feq (hv3 : ¬ (x3 = (46 : Int32)))).2 (by decide) (by decide) ?_
    show Steps p.tables e below (s₁.setTop (mkF m 14 #[.val (.int (4 : Int32)), .val (.int x0), .val (.int x1), .val (.int x2), .val (.int x3)] [])) t
    refine XS.iloadN X0.here hx rfl (hb hby d6_14) rfl ?_
    show Steps p.tables e below (s₁.setTop (mkF m 15 #[.val (.int (4 : Int32)), .val (.int x0), .val (.int x1), .val (.int x2), .val (.int x3)] [(.int (4 : Int32))])) t
    refine XS.iconst X0.here hx rfl (hb hby d6_15) ?_
    show Steps p.tables e below (s₁.setTop (mkF m 16 #[.val (.int (4 : Int32)), .val (.int x0), .val (.int x1), .val (.int x2), .val (.int x3)] [(.int (3 : Int32)), (.int (4 : Int32))])) t
    refine XS.icmpNo X0.here hx rfl (hb hby d6_16) rfl (flt ((by decide) : ¬ ((4 : Int32) < (3 : Int32)))).1 ?_
    show Steps p.tables e below (s₁.setTop (mkF m 19 #[.val (.int (4 : Int32)), .val (.int x0), .val (.int x1), .val (.int x2), .val (.int x3)] [])) t
    refine XS.iloadN X0.here hx rfl (hb hby d6_19) rfl ?_
    show Steps p.tables e below (s₁.setTop (mkF m 20 #[.val (.int (4 : Int32)), .val (.int x0), .val (.int x1), .val (.int x2), .val (.int x3)] [(.int x2)])) t
    refine XS.bipush X0.here hx rfl (hb hby d6_20) ?_
    show Steps p.tables e below (s₁.setTop (mkF m 22 #[.val (.int (4 : Int32)), .val (.int x0), .val (.int x1), .val (.int x2), .val (.int x3)] [(.int (46 : Int32)), (.int x2)])) t
    refine XS.icmpNo X0.here hx rfl (hb hby d6_22) rfl (teq (hv2 : x2 = (46 : Int32))).2 ?_
    show Steps p.tables e below (s₁.setTop (mkF m 25 #[.val (.int (4 : Int32)), .val (.int x0), .val (.int x1), .val (.int x2), .val (.int x3)] [])) t
    refine XS.iconst X0.here hx rfl (hb hby d6_25) ?_
    exact k
  obtain ⟨fs, hr, hrun, hended, hW, hsame⟩ := X0.leave (v := some (.int (2 : Int32))) (fun h => by rw [Bd.returns] at h; cases h)
  refine ⟨_, _, R1 _ ?_, hrun, hended, _, _, rfl, ?_, ⟨_, rfl⟩, hW, hsame.mono (by decide) (by decide)⟩
  · show Steps p.tables e below (s₁.setTop (mkF m 26 #[.val (.int (4 : Int32)), .val (.int x0), .val (.int x1), .val (.int x2), .val (.int x3)] [(.int (2 : Int32))])) _
    exact retOut X0 hx Bd.returns rfl (Or.inl ⟨rfl, Or.inl rfl, _, rfl⟩) (hb hby d6_26) hr
  · show Q_ld4_2 Z zCS x0 x1 x2 x3 h0 n0 _ s₁.heap _
    rw [e0]
    exact ⟨rfl, N0, rfl⟩
theorem d6_12 : decode method_3_code 12 = .ok (.iconst 3, 1) := by decide +kernel
theorem d6_13 : decode method_3_code 13 = .ok (.ireturn, 1) := by decide +kernel
theorem ef_ld4_3 (m : MethodId) (x0 : Int32) (x1 : Int32) (x2 : Int32) (x3 : Int32) : entryFrame m #[(.int (4 : Int32)), (.int x0), (.int x1), (.int x2), (.int x3)] 5 = mkF m 0 #[.val (.int (4 : Int32)), .val (.int x0), .val (.int x1), .val (.int x2), .val (.int x3)] [] := by first | (simp [entryFrame, mkF, argsToLocals, Value.category]; done) | rfl
def Q_ld4_3 (Z : State) (zCS : Int32) (x0 : Int32) (x1 : Int32) (x2 : Int32) (x3 : Int32) (h0 : Heap) (n0 : Nat) (vv_ : Option Value) (hh_ : Heap) (LL_ : List Loc) : Prop := vv_ = some (.int (3 : Int32)) ∧ (Fr n0 LL_) ∧ (hh_ = h0)
set_option maxRecDepth 65536 in
set_option maxHeartbeats 40000000 in
theorem ld4_3 (l : Launch) (Z : State) (a0 : Array Value) (hw : ∀ d ∈ tables_1, d.before a0 Z = true) (ws : List Jvm.Cond) (zCS : Int32) (x0 : Int32) (x1 : Int32) (x2 : Int32) (x3 : Int32) (h0 : Heap) (n0 : Nat) (O0 : Old Z n0 h0) (S_CS : Sta Z Z.heap "java/lang/String" "COMPACT_STRINGS" "Z" (.int zCS)) (hCS : ¬ (zCS = (0 : Int32))) (hcH : Jvm.Lit.constHeld Z "java/lang/String" 7) (hcW : Jvm.Lit.compactW.before a0 Z = true) (hv3 : x3 = (46 : Int32)) :
    MetFree l (⟨"com/example/wiring_from_blueprints/wiringfromblueprints/internal/StaticFieldCheckedPinLaw", "lastDot", "(ICCCC)I"⟩ : MethodName) (head1 (Jvm.Cond.code (⟨"com/example/wiring_from_blueprints/wiringfromblueprints/internal/StaticFieldCheckedPinLaw", "lastDot", "(ICCCC)I"⟩ : MethodName) method_3_code 5 (some .int) :: ws) ({ frames := 0, cells := 0, slots := 0, locals := 0 } : Room)) (fun aa_ U_ => aa_ = #[(.int (4 : Int32)), (.int x0), (.int x1), (.int x2), (.int x3)] ∧ Z.Warmed39 U_.vm ∧ U_.heap = h0) (fun _ _ _ _ _ => True) (fun _ U_ oo_ V_ => ∃ vv_ LL_, oo_ = .returned vv_ ∧ Q_ld4_3 Z zCS x0 x1 x2 x3 h0 n0 vv_ V_.heap LL_ ∧ FrameEnd U_ oo_ V_ LL_ ({ frames := 0, cells := 0, slots := 0, locals := 0 } : Room).cells ({ frames := 0, cells := 0, slots := 0, locals := 0 } : Room).slots) := by
  refine MetFree.of_bodySF (plainFor_of_name pn_com_example_wiring_from_blueprints_wiringfromblueprints_internal_StaticFieldCheckedPinLaw) hisR ?_
  intro p e s m args below meth c s₁ Bd hml0 hP hK
  obtain ⟨rfl, hZ, hh⟩ := hP
  have hx := Bd.exec
  have hby := Bd.bytes
  have hml : c.maxLocals = 5 := hml0
  have hown : s.vm.findClass "com/example/wiring_from_blueprints/wiringfromblueprints/internal/StaticFieldCheckedPinLaw" = some m.cls := findClass_of_methodNamed Bd.named
  have hnm := (name_of_methodNamed Bd.named Bd.method).1
  have X0 : Stand p l e ({ frames := 0, cells := 0, slots := 0, locals := 0 } : Room) s m #[(.int (4 : Int32)), (.int x0), (.int x1), (.int x2), (.int x3)] below meth c s₁ [] 0 0 := Stand.of_body Bd
  have e0 : s₁.heap = h0 := by rw [← hh, Bd.state]; rfl
  have N0 := Fr.nil n0
  have Z0 : n0 ≤ h0.size := O0.1 ▸ O0.2.1
  have hk0 := Nat.zero_le h0.size
  have K0 : Keep h0 h0 [] := Keep.refl _ _
  have R0 : ∀ t, Steps p.tables e below (s₁.setTop (mkF m 0 #[.val (.int (4 : Int32)), .val (.int x0), .val (.int x1), .val (.int x2), .val (.int x3)] [])) t → Steps p.tables e below (s₁.setTop (entryFrame m #[(.int (4 : Int32)), (.int x0), (.int x1), (.int x2), (.int x3)] 5)) t := fun t k => castTop (ef_ld4_3 m x0 x1 x2 x3) k
  have R1 : ∀ t, Steps p.tables e below (s₁.setTop (mkF m 13 #[.val (.int (4 : Int32)), .val (.int x0), .val (.int x1), .val (.int x2), .val (.int x3)] [(.int (3 : Int32))])) t → Steps p.tables e below (s₁.setTop (entryFrame m #[(.int (4 : Int32)), (.int x0), (.int x1), (.int x2), (.int x3)] 5)) t := by
    intro t k
    refine R0 t ?_
    show Steps p.tables e below (s₁.setTop (mkF m 0 #[.val (.int (4 : Int32)), .val (.int x0), .val (.int x1), .val (.int x2), .val (.int x3)] [])) t
    refine XS.iloadN X0.here hx rfl (hb hby d6_0) rfl ?_
    show Steps p.tables e below (s₁.setTop (mkF m 1 #[.val (.int (4 : Int32)), .val (.int x0), .val (.int x1), .val (.int x2), .val (.int x3)] [(.int (4 : Int32))])) t
    refine XS.iconst X0.here hx rfl (hb hby d6_1) ?_
    show Steps p.tables e below (s₁.setTop (mkF m 2 #[.val (.int (4 : Int32)), .val (.int x0), .val (.int x1), .val (.int x2), .val (.int x3)] [(.int (4 : Int32)), (.int (4 : Int32))])) t
    refine XS.icmpNo X0.here hx rfl (hb hby d6_2) rfl (flt ((by decide) : ¬ ((4 : Int32) < (4 : Int32)))).1 ?_
    show Steps p.tables e below (s₁.setTop (mkF m 5 #[.val (.int (4 : Int32)), .val (.int x0), .val (.int x1), .val (.int x2), .val (.int x3)] [])) t
    refine XS.iload X0.here hx rfl (hb hby d6_5) rfl ?_
    show Steps p.tables e below (s₁.setTop (mkF m 7 #[.val (.int (4 : Int32)), .val (.int x0), .val (.int x1), .val (.int x2), .val (.int x3)] [(.int x3)])) t
    refine XS.bipush X0.here hx rfl (hb hby d6_7) ?_
    show Steps p.tables e below (s₁.setTop (mkF m 9 #[.val (.int (4 : Int32)), .val (.int x0), .val (.int x1), .val (.int x2), .val (.int x3)] [(.int (46 : Int32)), (.int x3)])) t
    refine XS.icmpNo X0.here hx rfl (hb hby d6_9) rfl (teq (hv3 : x3 = (46 : Int32))).2 ?_
    show Steps p.tables e below (s₁.setTop (mkF m 12 #[.val (.int (4 : Int32)), .val (.int x0), .val (.int x1), .val (.int x2), .val (.int x3)] [])) t
    refine XS.iconst X0.here hx rfl (hb hby d6_12) ?_
    exact k
  obtain ⟨fs, hr, hrun, hended, hW, hsame⟩ := X0.leave (v := some (.int (3 : Int32))) (fun h => by rw [Bd.returns] at h; cases h)
  refine ⟨_, _, R1 _ ?_, hrun, hended, _, _, rfl, ?_, ⟨_, rfl⟩, hW, hsame.mono (by decide) (by decide)⟩
  · show Steps p.tables e below (s₁.setTop (mkF m 13 #[.val (.int (4 : Int32)), .val (.int x0), .val (.int x1), .val (.int x2), .val (.int x3)] [(.int (3 : Int32))])) _
    exact retOut X0 hx Bd.returns rfl (Or.inl ⟨rfl, Or.inl rfl, _, rfl⟩) (hb hby d6_13) hr
  · show Q_ld4_3 Z zCS x0 x1 x2 x3 h0 n0 _ s₁.heap _
    rw [e0]
    exact ⟨rfl, N0, rfl⟩
theorem d18_0 : decode jdk_43_method_4_code 0 = .ok (.iload_n 0, 1) := by decide +kernel
theorem d18_1 : decode jdk_43_method_4_code 1 = .ok (.ifCond .lt 14, 3) := by decide +kernel
theorem d18_4 : decode jdk_43_method_4_code 4 = .ok (.iload_n 0, 1) := by decide +kernel
theorem d18_5 : decode jdk_43_method_4_code 5 = .ok (.sipush 255, 3) := by decide +kernel
theorem d18_8 : decode jdk_43_method_4_code 8 = .ok (.if_icmp .gt 7, 3) := by decide +kernel
theorem d18_11 : decode jdk_43_method_4_code 11 = .ok (.iconst 1, 1) := by decide +kernel
theorem d18_12 : decode jdk_43_method_4_code 12 = .ok (.goto 4, 3) := by decide +kernel
theorem d18_16 : decode jdk_43_method_4_code 16 = .ok (.ireturn, 1) := by decide +kernel
theorem pn_java_lang_StringLatin1 : plainName "java/lang/StringLatin1" = true := by first | (simp [plainName, overriddenIn]; done) | decide +kernel
theorem ef_canEnc (m : MethodId)  : entryFrame m #[(.int (46 : Int32))] 1 = mkF m 0 #[.val (.int (46 : Int32))] [] := by first | (simp [entryFrame, mkF, argsToLocals, Value.category]; done) | rfl
def Q_canEnc (Z : State) (zCS : Int32)  (h0 : Heap) (n0 : Nat) (vv_ : Option Value) (hh_ : Heap) (LL_ : List Loc) : Prop := vv_ = some (.int (1 : Int32)) ∧ (Fr n0 LL_) ∧ (hh_ = h0)
set_option maxRecDepth 65536 in
set_option maxHeartbeats 40000000 in
theorem canEnc (l : Launch) (Z : State) (a0 : Array Value) (hw : ∀ d ∈ tables_1, d.before a0 Z = true) (ws : List Jvm.Cond) (zCS : Int32)  (h0 : Heap) (n0 : Nat) (O0 : Old Z n0 h0) (S_CS : Sta Z Z.heap "java/lang/String" "COMPACT_STRINGS" "Z" (.int zCS)) (hCS : ¬ (zCS = (0 : Int32))) (hcH : Jvm.Lit.constHeld Z "java/lang/String" 7) (hcW : Jvm.Lit.compactW.before a0 Z = true) :
    MetFree l (⟨"java/lang/StringLatin1", "canEncode", "(I)Z"⟩ : MethodName) (head1 (Jvm.Cond.code (⟨"java/lang/StringLatin1", "canEncode", "(I)Z"⟩ : MethodName) jdk_43_method_4_code 1 (some .boolean) :: ws) ({ frames := 0, cells := 0, slots := 0, locals := 0 } : Room)) (fun aa_ U_ => aa_ = #[(.int (46 : Int32))] ∧ Z.Warmed39 U_.vm ∧ U_.heap = h0) (fun _ _ _ _ _ => True) (fun _ U_ oo_ V_ => ∃ vv_ LL_, oo_ = .returned vv_ ∧ Q_canEnc Z zCS  h0 n0 vv_ V_.heap LL_ ∧ FrameEnd U_ oo_ V_ LL_ ({ frames := 0, cells := 0, slots := 0, locals := 0 } : Room).cells ({ frames := 0, cells := 0, slots := 0, locals := 0 } : Room).slots) := by
  refine MetFree.of_bodySF (plainFor_of_name pn_java_lang_StringLatin1) hisR ?_
  intro p e s m args below meth c s₁ Bd hml0 hP hK
  obtain ⟨rfl, hZ, hh⟩ := hP
  have hx := Bd.exec
  have hby := Bd.bytes
  have hml : c.maxLocals = 1 := hml0
  have hown : s.vm.findClass "java/lang/StringLatin1" = some m.cls := findClass_of_methodNamed Bd.named
  have hnm := (name_of_methodNamed Bd.named Bd.method).1
  have X0 : Stand p l e ({ frames := 0, cells := 0, slots := 0, locals := 0 } : Room) s m #[(.int (46 : Int32))] below meth c s₁ [] 0 0 := Stand.of_body Bd
  have e0 : s₁.heap = h0 := by rw [← hh, Bd.state]; rfl
  have N0 := Fr.nil n0
  have Z0 : n0 ≤ h0.size := O0.1 ▸ O0.2.1
  have hk0 := Nat.zero_le h0.size
  have K0 : Keep h0 h0 [] := Keep.refl _ _
  have R0 : ∀ t, Steps p.tables e below (s₁.setTop (mkF m 0 #[.val (.int (46 : Int32))] [])) t → Steps p.tables e below (s₁.setTop (entryFrame m #[(.int (46 : Int32))] 1)) t := fun t k => castTop (ef_canEnc m ) k
  have R1 : ∀ t, Steps p.tables e below (s₁.setTop (mkF m 16 #[.val (.int (46 : Int32))] [(.int (1 : Int32))])) t → Steps p.tables e below (s₁.setTop (entryFrame m #[(.int (46 : Int32))] 1)) t := by
    intro t k
    refine R0 t ?_
    show Steps p.tables e below (s₁.setTop (mkF m 0 #[.val (.int (46 : Int32))] [])) t
    refine XS.iloadN X0.here hx rfl (hb hby d18_0) rfl ?_
    show Steps p.tables e below (s₁.setTop (mkF m 1 #[.val (.int (46 : Int32))] [(.int (46 : Int32))])) t
    refine XS.ifNo X0.here hx rfl (hb hby d18_1) rfl ((if0 _ _).trans (flt ((by decide) : ¬ ((46 : Int32) < (0 : Int32)))).1) ?_
    show Steps p.tables e below (s₁.setTop (mkF m 4 #[.val (.int (46 : Int32))] [])) t
    refine XS.iloadN X0.here hx rfl (hb hby d18_4) rfl ?_
    show Steps p.tables e below (s₁.setTop (mkF m 5 #[.val (.int (46 : Int32))] [(.int (46 : Int32))])) t
    refine XS.sipush X0.here hx rfl (hb hby d18_5) ?_
    show Steps p.tables e below (s₁.setTop (mkF m 8 #[.val (.int (46 : Int32))] [(.int (255 : Int32)), (.int (46 : Int32))])) t
    refine XS.icmpNo X0.here hx rfl (hb hby d18_8) rfl (flt ((by decide) : ¬ ((255 : Int32) < (46 : Int32)))).2.2.1 ?_
    show Steps p.tables e below (s₁.setTop (mkF m 11 #[.val (.int (46 : Int32))] [])) t
    refine XS.iconst X0.here hx rfl (hb hby d18_11) ?_
    show Steps p.tables e below (s₁.setTop (mkF m 12 #[.val (.int (46 : Int32))] [(.int (1 : Int32))])) t
    refine XS.goto X0.here hx rfl (pc0 := 12) (pc' := 16) rfl (hb hby d18_12) (by decide) (by decide) ?_
    exact k
  obtain ⟨fs, hr, hrun, hended, hW, hsame⟩ := X0.leave (v := some (.int (1 : Int32))) (fun h => by rw [Bd.returns] at h; cases h)
  refine ⟨_, _, R1 _ ?_, hrun, hended, _, _, rfl, ?_, ⟨_, rfl⟩, hW, hsame.mono (by decide) (by decide)⟩
  · show Steps p.tables e below (s₁.setTop (mkF m 16 #[.val (.int (46 : Int32))] [(.int (1 : Int32))])) _
    exact retN X0 hx (t := .boolean) Bd.returns (by simp) (hb hby d18_16) hr
  · show Q_canEnc Z zCS  h0 n0 _ s₁.heap _
    rw [e0]
    exact ⟨rfl, N0, rfl⟩
theorem d11_0 : decode jdk_31_method_11_code 0 = .ok (.aload_n 0, 1) := by decide +kernel
theorem d11_1 : decode jdk_31_method_11_code 1 = .ok (.ifnonnull 12, 3) := by decide +kernel
theorem d11_13 : decode jdk_31_method_11_code 13 = .ok (.aload_n 0, 1) := by decide +kernel
theorem d11_14 : decode jdk_31_method_11_code 14 = .ok (.areturn, 1) := by decide +kernel
theorem pn_java_util_Objects : plainName "java/util/Objects" = true := by first | (simp [plainName, overriddenIn]; done) | decide +kernel
theorem ef_rnn (m : MethodId) (a : Addr) (mm : Addr) : entryFrame m #[(.ref a), (.ref mm)] 2 = mkF m 0 #[.val (.ref a), .val (.ref mm)] [] := by first | (simp [entryFrame, mkF, argsToLocals, Value.category]; done) | rfl
def Q_rnn (Z : State) (zCS : Int32) (a : Addr) (mm : Addr) (h0 : Heap) (n0 : Nat) (vv_ : Option Value) (hh_ : Heap) (LL_ : List Loc) : Prop := vv_ = some (.ref a) ∧ (Fr n0 LL_) ∧ (hh_ = h0)
set_option maxRecDepth 65536 in
set_option maxHeartbeats 40000000 in
theorem rnn (l : Launch) (Z : State) (a0 : Array Value) (hw : ∀ d ∈ tables_1, d.before a0 Z = true) (ws : List Jvm.Cond) (zCS : Int32) (a : Addr) (mm : Addr) (h0 : Heap) (n0 : Nat) (O0 : Old Z n0 h0) (S_CS : Sta Z Z.heap "java/lang/String" "COMPACT_STRINGS" "Z" (.int zCS)) (hCS : ¬ (zCS = (0 : Int32))) (hcH : Jvm.Lit.constHeld Z "java/lang/String" 7) (hcW : Jvm.Lit.compactW.before a0 Z = true) :
    MetFree l (⟨"java/util/Objects", "requireNonNull", "(Ljava/lang/Object;Ljava/lang/String;)Ljava/lang/Object;"⟩ : MethodName) (head1 (Jvm.Cond.code (⟨"java/util/Objects", "requireNonNull", "(Ljava/lang/Object;Ljava/lang/String;)Ljava/lang/Object;"⟩ : MethodName) jdk_31_method_11_code 2 (some (.object "java/lang/Object")) :: ws) ({ frames := 0, cells := 0, slots := 0, locals := 0 } : Room)) (fun aa_ U_ => aa_ = #[(.ref a), (.ref mm)] ∧ Z.Warmed39 U_.vm ∧ U_.heap = h0) (fun _ _ _ _ _ => True) (fun _ U_ oo_ V_ => ∃ vv_ LL_, oo_ = .returned vv_ ∧ Q_rnn Z zCS a mm h0 n0 vv_ V_.heap LL_ ∧ FrameEnd U_ oo_ V_ LL_ ({ frames := 0, cells := 0, slots := 0, locals := 0 } : Room).cells ({ frames := 0, cells := 0, slots := 0, locals := 0 } : Room).slots) := by
  refine MetFree.of_bodySF (plainFor_of_name pn_java_util_Objects) hisR ?_
  intro p e s m args below meth c s₁ Bd hml0 hP hK
  obtain ⟨rfl, hZ, hh⟩ := hP
  have hx := Bd.exec
  have hby := Bd.bytes
  have hml : c.maxLocals = 2 := hml0
  have hown : s.vm.findClass "java/util/Objects" = some m.cls := findClass_of_methodNamed Bd.named
  have hnm := (name_of_methodNamed Bd.named Bd.method).1
  have X0 : Stand p l e ({ frames := 0, cells := 0, slots := 0, locals := 0 } : Room) s m #[(.ref a), (.ref mm)] below meth c s₁ [] 0 0 := Stand.of_body Bd
  have e0 : s₁.heap = h0 := by rw [← hh, Bd.state]; rfl
  have N0 := Fr.nil n0
  have Z0 : n0 ≤ h0.size := O0.1 ▸ O0.2.1
  have hk0 := Nat.zero_le h0.size
  have K0 : Keep h0 h0 [] := Keep.refl _ _
  have R0 : ∀ t, Steps p.tables e below (s₁.setTop (mkF m 0 #[.val (.ref a), .val (.ref mm)] [])) t → Steps p.tables e below (s₁.setTop (entryFrame m #[(.ref a), (.ref mm)] 2)) t := fun t k => castTop (ef_rnn m a mm) k
  have R1 : ∀ t, Steps p.tables e below (s₁.setTop (mkF m 14 #[.val (.ref a), .val (.ref mm)] [(.ref a)])) t → Steps p.tables e below (s₁.setTop (entryFrame m #[(.ref a), (.ref mm)] 2)) t := by
    intro t k
    refine R0 t ?_
    show Steps p.tables e below (s₁.setTop (mkF m 0 #[.val (.ref a), .val (.ref mm)] [])) t
    refine XS.aloadN X0.here hx rfl (hb hby d11_0) rfl rfl ?_
    show Steps p.tables e below (s₁.setTop (mkF m 1 #[.val (.ref a), .val (.ref mm)] [(.ref a)])) t
    refine XS.ifnonnullYes X0.here hx rfl (pc0 := 1) (pc' := 13) rfl (hb hby d11_1) rfl (by decide) (by decide) ?_
    show Steps p.tables e below (s₁.setTop (mkF m 13 #[.val (.ref a), .val (.ref mm)] [])) t
    refine XS.aloadN X0.here hx rfl (hb hby d11_13) rfl rfl ?_
    exact k
  obtain ⟨fs, hr, hrun, hended, hW, hsame⟩ := X0.leave (v := some (.ref a)) (fun h => by rw [Bd.returns] at h; cases h)
  refine ⟨_, _, R1 _ ?_, hrun, hended, _, _, rfl, ?_, ⟨_, rfl⟩, hW, hsame.mono (by decide) (by decide)⟩
  · show Steps p.tables e below (s₁.setTop (mkF m 14 #[.val (.ref a), .val (.ref mm)] [(.ref a)])) _
    exact retOut X0 hx Bd.returns rfl (Or.inr (Or.inr (Or.inr (Or.inr ⟨rfl, rfl, rfl⟩)))) (hb hby d11_14) hr
  · show Q_rnn Z zCS a mm h0 n0 _ s₁.heap _
    rw [e0]
    exact ⟨rfl, N0, rfl⟩
theorem d14_0 : decode jdk_42_method_152_code 0 = .ok (.getstatic 38, 3) := by decide +kernel
theorem d14_3 : decode jdk_42_method_152_code 3 = .ok (.ifCond .eq 10, 3) := by decide +kernel
theorem d14_6 : decode jdk_42_method_152_code 6 = .ok (.aload_n 0, 1) := by decide +kernel
theorem d14_7 : decode jdk_42_method_152_code 7 = .ok (.getfield 15, 3) := by decide +kernel
theorem d14_10 : decode jdk_42_method_152_code 10 = .ok (.goto 4, 3) := by decide +kernel
theorem d14_14 : decode jdk_42_method_152_code 14 = .ok (.ireturn, 1) := by decide +kernel
theorem ef_coder (m : MethodId) (a : Addr) : entryFrame m #[(.ref a)] 1 = mkF m 0 #[.val (.ref a)] [] := by first | (simp [entryFrame, mkF, argsToLocals, Value.category]; done) | rfl
def Q_coder (Z : State) (zCS : Int32) (a : Addr) (h0 : Heap) (n0 : Nat) (vv_ : Option Value) (hh_ : Heap) (LL_ : List Loc) : Prop := vv_ = some (.int (0 : Int32)) ∧ (Fr n0 LL_) ∧ (hh_ = h0)
set_option maxRecDepth 65536 in
set_option maxHeartbeats 40000000 in
theorem coder (l : Launch) (Z : State) (a0 : Array Value) (hw : ∀ d ∈ tables_1, d.before a0 Z = true) (ws : List Jvm.Cond) (zCS : Int32) (a : Addr) (h0 : Heap) (n0 : Nat) (O0 : Old Z n0 h0) (S_CS : Sta Z Z.heap "java/lang/String" "COMPACT_STRINGS" "Z" (.int zCS)) (hCS : ¬ (zCS = (0 : Int32))) (hcH : Jvm.Lit.constHeld Z "java/lang/String" 7) (hcW : Jvm.Lit.compactW.before a0 Z = true) (Ea : Exa Z h0 a "java/lang/String") (Fc : Fld Z h0 a "java/lang/String" "coder" "B" (.int (0 : Int32))) :
    MetFree l (⟨"java/lang/String", "coder", "()B"⟩ : MethodName) (head1 (Jvm.Cond.code (⟨"java/lang/String", "coder", "()B"⟩ : MethodName) jdk_42_method_152_code 1 (some .byte) :: ws) ({ frames := 0, cells := 0, slots := 0, locals := 0 } : Room)) (fun aa_ U_ => aa_ = #[(.ref a)] ∧ Z.Warmed39 U_.vm ∧ U_.heap = h0) (fun _ _ _ _ _ => True) (fun _ U_ oo_ V_ => ∃ vv_ LL_, oo_ = .returned vv_ ∧ Q_coder Z zCS a h0 n0 vv_ V_.heap LL_ ∧ FrameEnd U_ oo_ V_ LL_ ({ frames := 0, cells := 0, slots := 0, locals := 0 } : Room).cells ({ frames := 0, cells := 0, slots := 0, locals := 0 } : Room).slots) := by
  refine MetFree.of_bodySF (plainFor_of_name pn_java_lang_String) hisR ?_
  intro p e s m args below meth c s₁ Bd hml0 hP hK
  obtain ⟨rfl, hZ, hh⟩ := hP
  have hx := Bd.exec
  have hby := Bd.bytes
  have hml : c.maxLocals = 1 := hml0
  have hown : s.vm.findClass "java/lang/String" = some m.cls := findClass_of_methodNamed Bd.named
  have hnm := (name_of_methodNamed Bd.named Bd.method).1
  have X0 : Stand p l e ({ frames := 0, cells := 0, slots := 0, locals := 0 } : Room) s m #[(.ref a)] below meth c s₁ [] 0 0 := Stand.of_body Bd
  have e0 : s₁.heap = h0 := by rw [← hh, Bd.state]; rfl
  have N0 := Fr.nil n0
  have Z0 : n0 ≤ h0.size := O0.1 ▸ O0.2.1
  have hk0 := Nat.zero_le h0.size
  have K0 : Keep h0 h0 [] := Keep.refl _ _
  have R0 : ∀ t, Steps p.tables e below (s₁.setTop (mkF m 0 #[.val (.ref a)] [])) t → Steps p.tables e below (s₁.setTop (entryFrame m #[(.ref a)] 1)) t := fun t k => castTop (ef_coder m a) k
  obtain ⟨T1, X1, e1, st1⟩ := getS2 X0 hx hZ hown (host := "") (Or.inl (hw _ (List.mem_of_getElem? (i := 33) rfl))) Via.refl e0 (S_CS.ext O0.2) (g := (mkF m 0 #[.val (.ref a)] [])) rfl (hb hby d14_0)
  obtain ⟨T2, X2, e2, st2⟩ := getF X1 hx hZ hown (host := "") (Or.inl (hw _ (List.mem_of_getElem? (i := 29) rfl))) Via.refl e1 Fc (g := (mkF m 7 #[.val (.ref a)] [(.ref a)])) rfl rfl (hb hby d14_7)
  have R3 : ∀ t, Steps p.tables e below (T2.setTop (mkF m 14 #[.val (.ref a)] [(.int (0 : Int32))])) t → Steps p.tables e below (s₁.setTop (entryFrame m #[(.ref a)] 1)) t := by
    intro t k
    refine R0 t ?_
    show Steps p.tables e below (s₁.setTop (mkF m 0 #[.val (.ref a)] [])) t
    refine st1 _ ?_
    show Steps p.tables e below (T1.setTop (mkF m 3 #[.val (.ref a)] [(.int zCS)])) t
    refine XS.ifNo X1.here hx rfl (hb hby d14_3) rfl ((if0 _ _).trans (feq (hCS : ¬ (zCS = (0 : Int32)))).1) ?_
    show Steps p.tables e below (T1.setTop (mkF m 6 #[.val (.ref a)] [])) t
    refine XS.aloadN X1.here hx rfl (hb hby d14_6) rfl rfl ?_
    show Steps p.tables e below (T1.setTop (mkF m 7 #[.val (.ref a)] [(.ref a)])) t
    refine st2 _ ?_
    show Steps p.tables e below (T2.setTop (mkF m 10 #[.val (.ref a)] [(.int (0 : Int32))])) t
    refine XS.goto X2.here hx rfl (pc0 := 10) (pc' := 14) rfl (hb hby d14_10) (by decide) (by decide) ?_
    exact k
  obtain ⟨fs, hr, hrun, hended, hW, hsame⟩ := X2.leave (v := some (.int (0 : Int32))) (fun h => by rw [Bd.returns] at h; cases h)
  refine ⟨_, _, R3 _ ?_, hrun, hended, _, _, rfl, ?_, ⟨_, rfl⟩, hW, hsame.mono (by decide) (by decide)⟩
  · show Steps p.tables e below (T2.setTop (mkF m 14 #[.val (.ref a)] [(.int (0 : Int32))])) _
    exact retN X2 hx (t := .byte) Bd.returns (by simp) (hb hby d14_14) hr
  · show Q_coder Z zCS a h0 n0 _ T2.heap _
    rw [e2]
    exact ⟨rfl, N0, rfl⟩
theorem d16_0 : decode jdk_42_method_154_code 0 = .ok (.getstatic 38, 3) := by decide +kernel
theorem d16_3 : decode jdk_42_method_154_code 3 = .ok (.ifCond .eq 14, 3) := by decide +kernel
theorem d16_6 : decode jdk_42_method_154_code 6 = .ok (.aload_n 0, 1) := by decide +kernel
theorem d16_7 : decode jdk_42_method_154_code 7 = .ok (.getfield 15, 3) := by decide +kernel
theorem d16_10 : decode jdk_42_method_154_code 10 = .ok (.ifCond .ne 7, 3) := by decide +kernel
theorem d16_13 : decode jdk_42_method_154_code 13 = .ok (.iconst 1, 1) := by decide +kernel
theorem d16_14 : decode jdk_42_method_154_code 14 = .ok (.goto 4, 3) := by decide +kernel
theorem d16_18 : decode jdk_42_method_154_code 18 = .ok (.ireturn, 1) := by decide +kernel
theorem ef_isLat (m : MethodId) (a : Addr) : entryFrame m #[(.ref a)] 1 = mkF m 0 #[.val (.ref a)] [] := by first | (simp [entryFrame, mkF, argsToLocals, Value.category]; done) | rfl
def Q_isLat (Z : State) (zCS : Int32) (a : Addr) (h0 : Heap) (n0 : Nat) (vv_ : Option Value) (hh_ : Heap) (LL_ : List Loc) : Prop := vv_ = some (.int (1 : Int32)) ∧ (Fr n0 LL_) ∧ (hh_ = h0)
set_option maxRecDepth 65536 in
set_option maxHeartbeats 40000000 in
theorem isLat (l : Launch) (Z : State) (a0 : Array Value) (hw : ∀ d ∈ tables_1, d.before a0 Z = true) (ws : List Jvm.Cond) (zCS : Int32) (a : Addr) (h0 : Heap) (n0 : Nat) (O0 : Old Z n0 h0) (S_CS : Sta Z Z.heap "java/lang/String" "COMPACT_STRINGS" "Z" (.int zCS)) (hCS : ¬ (zCS = (0 : Int32))) (hcH : Jvm.Lit.constHeld Z "java/lang/String" 7) (hcW : Jvm.Lit.compactW.before a0 Z = true) (Ea : Exa Z h0 a "java/lang/String") (Fc : Fld Z h0 a "java/lang/String" "coder" "B" (.int (0 : Int32))) :
    MetFree l (⟨"java/lang/String", "isLatin1", "()Z"⟩ : MethodName) (head1 (Jvm.Cond.code (⟨"java/lang/String", "isLatin1", "()Z"⟩ : MethodName) jdk_42_method_154_code 1 (some .boolean) :: ws) ({ frames := 0, cells := 0, slots := 0, locals := 0 } : Room)) (fun aa_ U_ => aa_ = #[(.ref a)] ∧ Z.Warmed39 U_.vm ∧ U_.heap = h0) (fun _ _ _ _ _ => True) (fun _ U_ oo_ V_ => ∃ vv_ LL_, oo_ = .returned vv_ ∧ Q_isLat Z zCS a h0 n0 vv_ V_.heap LL_ ∧ FrameEnd U_ oo_ V_ LL_ ({ frames := 0, cells := 0, slots := 0, locals := 0 } : Room).cells ({ frames := 0, cells := 0, slots := 0, locals := 0 } : Room).slots) := by
  refine MetFree.of_bodySF (plainFor_of_name pn_java_lang_String) hisR ?_
  intro p e s m args below meth c s₁ Bd hml0 hP hK
  obtain ⟨rfl, hZ, hh⟩ := hP
  have hx := Bd.exec
  have hby := Bd.bytes
  have hml : c.maxLocals = 1 := hml0
  have hown : s.vm.findClass "java/lang/String" = some m.cls := findClass_of_methodNamed Bd.named
  have hnm := (name_of_methodNamed Bd.named Bd.method).1
  have X0 : Stand p l e ({ frames := 0, cells := 0, slots := 0, locals := 0 } : Room) s m #[(.ref a)] below meth c s₁ [] 0 0 := Stand.of_body Bd
  have e0 : s₁.heap = h0 := by rw [← hh, Bd.state]; rfl
  have N0 := Fr.nil n0
  have Z0 : n0 ≤ h0.size := O0.1 ▸ O0.2.1
  have hk0 := Nat.zero_le h0.size
  have K0 : Keep h0 h0 [] := Keep.refl _ _
  have R0 : ∀ t, Steps p.tables e below (s₁.setTop (mkF m 0 #[.val (.ref a)] [])) t → Steps p.tables e below (s₁.setTop (entryFrame m #[(.ref a)] 1)) t := fun t k => castTop (ef_isLat m a) k
  obtain ⟨T1, X1, e1, st1⟩ := getS2 X0 hx hZ hown (host := "") (Or.inl (hw _ (List.mem_of_getElem? (i := 33) rfl))) Via.refl e0 (S_CS.ext O0.2) (g := (mkF m 0 #[.val (.ref a)] [])) rfl (hb hby d16_0)
  obtain ⟨T2, X2, e2, st2⟩ := getF X1 hx hZ hown (host := "") (Or.inl (hw _ (List.mem_of_getElem? (i := 29) rfl))) Via.refl e1 Fc (g := (mkF m 7 #[.val (.ref a)] [(.ref a)])) rfl rfl (hb hby d16_7)
  have R3 : ∀ t, Steps p.tables e below (T2.setTop (mkF m 18 #[.val (.ref a)] [(.int (1 : Int32))])) t → Steps p.tables e below (s₁.setTop (entryFrame m #[(.ref a)] 1)) t := by
    intro t k
    refine R0 t ?_
    show Steps p.tables e below (s₁.setTop (mkF m 0 #[.val (.ref a)] [])) t
    refine st1 _ ?_
    show Steps p.tables e below (T1.setTop (mkF m 3 #[.val (.ref a)] [(.int zCS)])) t
    refine XS.ifNo X1.here hx rfl (hb hby d16_3) rfl ((if0 _ _).trans (feq (hCS : ¬ (zCS = (0 : Int32)))).1) ?_
    show Steps p.tables e below (T1.setTop (mkF m 6 #[.val (.ref a)] [])) t
    refine XS.aloadN X1.here hx rfl (hb hby d16_6) rfl rfl ?_
    show Steps p.tables e below (T1.setTop (mkF m 7 #[.val (.ref a)] [(.ref a)])) t
    refine st2 _ ?_
    show Steps p.tables e below (T2.setTop (mkF m 10 #[.val (.ref a)] [(.int (0 : Int32))])) t
    refine XS.ifNo X2.here hx rfl (hb hby d16_10) rfl ((if0 _ _).trans (teq ((by decide) : (0 : Int32) = (0 : Int32))).2) ?_
    show Steps p.tables e below (T2.setTop (mkF m 13 #[.val (.ref a)] [])) t
    refine XS.iconst X2.here hx rfl (hb hby d16_13) ?_
    show Steps p.tables e below (T2.setTop (mkF m 14 #[.val (.ref a)] [(.int (1 : Int32))])) t
    refine XS.goto X2.here hx rfl (pc0 := 14) (pc' := 18) rfl (hb hby d16_14) (by decide) (by decide) ?_
    exact k
  obtain ⟨fs, hr, hrun, hended, hW, hsame⟩ := X2.leave (v := some (.int (1 : Int32))) (fun h => by rw [Bd.returns] at h; cases h)
  refine ⟨_, _, R3 _ ?_, hrun, hended, _, _, rfl, ?_, ⟨_, rfl⟩, hW, hsame.mono (by decide) (by decide)⟩
  · show Steps p.tables e below (T2.setTop (mkF m 18 #[.val (.ref a)] [(.int (1 : Int32))])) _
    exact retN X2 hx (t := .boolean) Bd.returns (by simp) (hb hby d16_18) hr
  · show Q_isLat Z zCS a h0 n0 _ T2.heap _
    rw [e2]
    exact ⟨rfl, N0, rfl⟩
theorem d19_0 : decode jdk_29_method_69_code 0 = .ok (.iload_n 0, 1) := by decide +kernel
theorem d19_1 : decode jdk_29_method_69_code 1 = .ok (.iload_n 1, 1) := by decide +kernel
theorem d19_2 : decode jdk_29_method_69_code 2 = .ok (.if_icmp .gt 7, 3) := by decide +kernel
theorem d19_5 : decode jdk_29_method_69_code 5 = .ok (.iload_n 0, 1) := by decide +kernel
theorem d19_6 : decode jdk_29_method_69_code 6 = .ok (.goto 4, 3) := by decide +kernel
theorem d19_10 : decode jdk_29_method_69_code 10 = .ok (.ireturn, 1) := by decide +kernel
theorem ef_min3_1 (m : MethodId)  : entryFrame m #[(.int (2 : Int32)), (.int (2 : Int32))] 2 = mkF m 0 #[.val (.int (2 : Int32)), .val (.int (2 : Int32))] [] := by first | (simp [entryFrame, mkF, argsToLocals, Value.category]; done) | rfl
def Q_min3_1 (Z : State) (zCS : Int32)  (h0 : Heap) (n0 : Nat) (vv_ : Option Value) (hh_ : Heap) (LL_ : List Loc) : Prop := vv_ = some (.int (2 : Int32)) ∧ (Fr n0 LL_) ∧ (hh_ = h0)
set_option maxRecDepth 65536 in
set_option maxHeartbeats 40000000 in
theorem min3_1 (l : Launch) (Z : State) (a0 : Array Value) (hw : ∀ d ∈ tables_1, d.before a0 Z = true) (ws : List Jvm.Cond) (zCS : Int32)  (h0 : Heap) (n0 : Nat) (O0 : Old Z n0 h0) (S_CS : Sta Z Z.heap "java/lang/String" "COMPACT_STRINGS" "Z" (.int zCS)) (hCS : ¬ (zCS = (0 : Int32))) (hcH : Jvm.Lit.constHeld Z "java/lang/String" 7) (hcW : Jvm.Lit.compactW.before a0 Z = true) :
    MetFree l (⟨"java/lang/Math", "min", "(II)I"⟩ : MethodName) (head1 (Jvm.Cond.code (⟨"java/lang/Math", "min", "(II)I"⟩ : MethodName) jdk_29_method_69_code 2 (some .int) :: ws) ({ frames := 0, cells := 0, slots := 0, locals := 0 } : Room)) (fun aa_ U_ => aa_ = #[(.int (2 : Int32)), (.int (2 : Int32))] ∧ Z.Warmed39 U_.vm ∧ U_.heap = h0) (fun _ _ _ _ _ => True) (fun _ U_ oo_ V_ => ∃ vv_ LL_, oo_ = .returned vv_ ∧ Q_min3_1 Z zCS  h0 n0 vv_ V_.heap LL_ ∧ FrameEnd U_ oo_ V_ LL_ ({ frames := 0, cells := 0, slots := 0, locals := 0 } : Room).cells ({ frames := 0, cells := 0, slots := 0, locals := 0 } : Room).slots) := by
  refine MetFree.of_bodySF (Jvm.Free.JP.mathPlain rfl (by decide +kernel)) hisR ?_
  intro p e s m args below meth c s₁ Bd hml0 hP hK
  obtain ⟨rfl, hZ, hh⟩ := hP
  have hx := Bd.exec
  have hby := Bd.bytes
  have hml : c.maxLocals = 2 := hml0
  have hown : s.vm.findClass "java/lang/Math" = some m.cls := findClass_of_methodNamed Bd.named
  have hnm := (name_of_methodNamed Bd.named Bd.method).1
  have X0 : Stand p l e ({ frames := 0, cells := 0, slots := 0, locals := 0 } : Room) s m #[(.int (2 : Int32)), (.int (2 : Int32))] below meth c s₁ [] 0 0 := Stand.of_body Bd
  have e0 : s₁.heap = h0 := by rw [← hh, Bd.state]; rfl
  have N0 := Fr.nil n0
  have Z0 : n0 ≤ h0.size := O0.1 ▸ O0.2.1
  have hk0 := Nat.zero_le h0.size
  have K0 : Keep h0 h0 [] := Keep.refl _ _
  have R0 : ∀ t, Steps p.tables e below (s₁.setTop (mkF m 0 #[.val (.int (2 : Int32)), .val (.int (2 : Int32))] [])) t → Steps p.tables e below (s₁.setTop (entryFrame m #[(.int (2 : Int32)), (.int (2 : Int32))] 2)) t := fun t k => castTop (ef_min3_1 m ) k
  have R1 : ∀ t, Steps p.tables e below (s₁.setTop (mkF m 10 #[.val (.int (2 : Int32)), .val (.int (2 : Int32))] [(.int (2 : Int32))])) t → Steps p.tables e below (s₁.setTop (entryFrame m #[(.int (2 : Int32)), (.int (2 : Int32))] 2)) t := by
    intro t k
    refine R0 t ?_
    show Steps p.tables e below (s₁.setTop (mkF m 0 #[.val (.int (2 : Int32)), .val (.int (2 : Int32))] [])) t
    refine XS.iloadN X0.here hx rfl (hb hby d19_0) rfl ?_
    show Steps p.tables e below (s₁.setTop (mkF m 1 #[.val (.int (2 : Int32)), .val (.int (2 : Int32))] [(.int (2 : Int32))])) t
    refine XS.iloadN X0.here hx rfl (hb hby d19_1) rfl ?_
    show Steps p.tables e below (s₁.setTop (mkF m 2 #[.val (.int (2 : Int32)), .val (.int (2 : Int32))] [(.int (2 : Int32)), (.int (2 : Int32))])) t
    refine XS.icmpNo X0.here hx rfl (hb hby d19_2) rfl (flt ((by decide) : ¬ ((2 : Int32) < (2 : Int32)))).2.2.1 ?_
    show Steps p.tables e below (s₁.setTop (mkF m 5 #[.val (.int (2 : Int32)), .val (.int (2 : Int32))] [])) t
    refine XS.iloadN X0.here hx rfl (hb hby d19_5) rfl ?_
    show Steps p.tables e below (s₁.setTop (mkF m 6 #[.val (.int (2 : Int32)), .val (.int (2 : Int32))] [(.int (2 : Int32))])) t
    refine XS.goto X0.here hx rfl (pc0 := 6) (pc' := 10) rfl (hb hby d19_6) (by decide) (by decide) ?_
    exact k
  obtain ⟨fs, hr, hrun, hended, hW, hsame⟩ := X0.leave (v := some (.int (2 : Int32))) (fun h => by rw [Bd.returns] at h; cases h)
  refine ⟨_, _, R1 _ ?_, hrun, hended, _, _, rfl, ?_, ⟨_, rfl⟩, hW, hsame.mono (by decide) (by decide)⟩
  · show Steps p.tables e below (s₁.setTop (mkF m 10 #[.val (.int (2 : Int32)), .val (.int (2 : Int32))] [(.int (2 : Int32))])) _
    exact retOut X0 hx Bd.returns rfl (Or.inl ⟨rfl, Or.inl rfl, _, rfl⟩) (hb hby d19_10) hr
  · show Q_min3_1 Z zCS  h0 n0 _ s₁.heap _
    rw [e0]
    exact ⟨rfl, N0, rfl⟩
theorem d17_0 : decode jdk_43_method_27_code 0 = .ok (.iload_n 1, 1) := by decide +kernel
theorem pd_2 : parseMethodDescriptor "(I)Z" = some ⟨[.int], some .boolean⟩ := by decide +kernel
theorem d17_1 : decode jdk_43_method_27_code 1 = .ok (.invokestatic 88, 3) := by decide +kernel
theorem d17_4 : decode jdk_43_method_27_code 4 = .ok (.ifCond .ne 5, 3) := by decide +kernel
theorem d17_9 : decode jdk_43_method_27_code 9 = .ok (.iload_n 2, 1) := by decide +kernel
theorem d17_10 : decode jdk_43_method_27_code 10 = .ok (.aload_n 0, 1) := by decide +kernel
theorem d17_11 : decode jdk_43_method_27_code 11 = .ok (.arraylength, 1) := by decide +kernel
theorem d17_12 : decode jdk_43_method_27_code 12 = .ok (.iconst 1, 1) := by decide +kernel
theorem d17_13 : decode jdk_43_method_27_code 13 = .ok (.isub, 1) := by decide +kernel
theorem pd_3 : parseMethodDescriptor "(II)I" = some ⟨[.int, .int], some .int⟩ := by decide +kernel
theorem d17_14 : decode jdk_43_method_27_code 14 = .ok (.invokestatic 38, 3) := by decide +kernel
theorem d17_17 : decode jdk_43_method_27_code 17 = .ok (.istore_n 3, 1) := by decide +kernel
theorem d17_18 : decode jdk_43_method_27_code 18 = .ok (.iload_n 3, 1) := by decide +kernel
theorem d17_19 : decode jdk_43_method_27_code 19 = .ok (.ifCond .lt 19, 3) := by decide +kernel
theorem d17_22 : decode jdk_43_method_27_code 22 = .ok (.aload_n 0, 1) := by decide +kernel
theorem d17_23 : decode jdk_43_method_27_code 23 = .ok (.iload_n 3, 1) := by decide +kernel
theorem d17_24 : decode jdk_43_method_27_code 24 = .ok (.baload, 1) := by decide +kernel
theorem d17_25 : decode jdk_43_method_27_code 25 = .ok (.iload_n 1, 1) := by decide +kernel
theorem d17_26 : decode jdk_43_method_27_code 26 = .ok (.i2b, 1) := by decide +kernel
theorem d17_27 : decode jdk_43_method_27_code 27 = .ok (.if_icmp .ne 5, 3) := by decide +kernel
theorem d17_32 : decode jdk_43_method_27_code 32 = .ok (.iinc 3 (-1), 3) := by decide +kernel
theorem d17_35 : decode jdk_43_method_27_code 35 = .ok (.goto (-17), 3) := by decide +kernel
theorem d17_30 : decode jdk_43_method_27_code 30 = .ok (.iload_n 3, 1) := by decide +kernel
theorem d17_31 : decode jdk_43_method_27_code 31 = .ok (.ireturn, 1) := by decide +kernel
theorem ef_li3_3_1 (m : MethodId) (tt : Addr) (kb : ClassId) (v0 : Int32) (v1 : Int32) (v2 : Int32) : entryFrame m #[(.ref tt), (.int (46 : Int32)), (.int (2 : Int32))] 4 = mkF m 0 #[.val (.ref tt), .val (.int (46 : Int32)), .val (.int (2 : Int32)), .unset] [] := by first | (simp [entryFrame, mkF, argsToLocals, Value.category]; done) | rfl
def Q_li3_3_1 (Z : State) (zCS : Int32) (tt : Addr) (kb : ClassId) (v0 : Int32) (v1 : Int32) (v2 : Int32) (h0 : Heap) (n0 : Nat) (vv_ : Option Value) (hh_ : Heap) (LL_ : List Loc) : Prop := vv_ = some (.int (1 : Int32)) ∧ (Fr n0 LL_) ∧ (hh_ = h0)
set_option maxRecDepth 65536 in
set_option maxHeartbeats 40000000 in
theorem li3_3_1 (l : Launch) (Z : State) (a0 : Array Value) (hw : ∀ d ∈ tables_1, d.before a0 Z = true) (ws : List Jvm.Cond) (zCS : Int32) (tt : Addr) (kb : ClassId) (v0 : Int32) (v1 : Int32) (v2 : Int32) (h0 : Heap) (n0 : Nat) (O0 : Old Z n0 h0) (S_CS : Sta Z Z.heap "java/lang/String" "COMPACT_STRINGS" "Z" (.int zCS)) (hCS : ¬ (zCS = (0 : Int32))) (hcH : Jvm.Lit.constHeld Z "java/lang/String" 7) (hcW : Jvm.Lit.compactW.before a0 Z = true) (At : Arv Z h0 tt kb .byte (3 : Int32) [(.int v0), (.int v1), (.int v2)] (.int 0)) (hv2 : ¬ (v2 = (46 : Int32))) (hv1 : v1 = (46 : Int32)) :
    MetFree l (⟨"java/lang/StringLatin1", "lastIndexOf", "([BII)I"⟩ : MethodName) (head1 (Jvm.Cond.code (⟨"java/lang/StringLatin1", "lastIndexOf", "([BII)I"⟩ : MethodName) jdk_43_method_27_code 4 (some .int) :: ws) ({ frames := 1, cells := 0, slots := 0, locals := 13 } : Room)) (fun aa_ U_ => aa_ = #[(.ref tt), (.int (46 : Int32)), (.int (2 : Int32))] ∧ Z.Warmed39 U_.vm ∧ U_.heap = h0) (fun _ _ _ _ _ => True) (fun _ U_ oo_ V_ => ∃ vv_ LL_, oo_ = .returned vv_ ∧ Q_li3_3_1 Z zCS tt kb v0 v1 v2 h0 n0 vv_ V_.heap LL_ ∧ FrameEnd U_ oo_ V_ LL_ ({ frames := 1, cells := 0, slots := 0, locals := 13 } : Room).cells ({ frames := 1, cells := 0, slots := 0, locals := 13 } : Room).slots) := by
  refine MetFree.of_bodySF (plainFor_of_name pn_java_lang_StringLatin1) hisR ?_
  intro p e s m args below meth c s₁ Bd hml0 hP hK
  obtain ⟨rfl, hZ, hh⟩ := hP
  have hx := Bd.exec
  have hby := Bd.bytes
  have hml : c.maxLocals = 4 := hml0
  have hown : s.vm.findClass "java/lang/StringLatin1" = some m.cls := findClass_of_methodNamed Bd.named
  have hnm := (name_of_methodNamed Bd.named Bd.method).1
  have X0 : Stand p l e ({ frames := 1, cells := 0, slots := 0, locals := 13 } : Room) s m #[(.ref tt), (.int (46 : Int32)), (.int (2 : Int32))] below meth c s₁ [] 0 0 := Stand.of_body Bd
  have e0 : s₁.heap = h0 := by rw [← hh, Bd.state]; rfl
  have N0 := Fr.nil n0
  have Z0 : n0 ≤ h0.size := O0.1 ▸ O0.2.1
  have hk0 := Nat.zero_le h0.size
  have K0 : Keep h0 h0 [] := Keep.refl _ _
  have R0 : ∀ t, Steps p.tables e below (s₁.setTop (mkF m 0 #[.val (.ref tt), .val (.int (46 : Int32)), .val (.int (2 : Int32)), .unset] [])) t → Steps p.tables e below (s₁.setTop (entryFrame m #[(.ref tt), (.int (46 : Int32)), (.int (2 : Int32))] 4)) t := fun t k => castTop (ef_li3_3_1 m tt kb v0 v1 v2) k
  obtain ⟨_, _, ⟨T1, L1, k1, n1⟩, -, X1, ⟨Lc1, hQ1, cl_1, cy_1, cz_1⟩, st1⟩ := Jvm.LawKit.callS X0 hx (y := (⟨"java/lang/StringLatin1", "canEncode", "(I)Z"⟩ : MethodName)) hown (mvT hZ (hw _ (List.mem_of_getElem? (i := 83) rfl))) (mvT hZ (hw _ (List.mem_of_getElem? (i := 84) rfl))) (mvT hZ (hw _ (List.mem_of_getElem? (i := 81) rfl))) (mvT hZ (hw _ (List.mem_of_getElem? (i := 85) rfl))) (by decide) (backOf (W := 0) (canEnc l Z a0 hw [] zCS  h0 n0 O0 S_CS hCS hcH hcW   ) hZ (hw _ (List.mem_of_getElem? (i := 85) rfl)) (hw _ (List.mem_of_getElem? (i := 81) rfl)) (by decide) (by decide)) (g := (mkF m 1 #[.val (.ref tt), .val (.int (46 : Int32)), .val (.int (2 : Int32)), .unset] [(.int (46 : Int32))])) rfl (by rw [hml]; rfl) (argsL := [(.int (46 : Int32))]) (rest := []) (lenOf pd_2 rfl) rfl (by show 2 * 0 + _ ≤ _; exact Nat.le_of_eq rfl) (hb hby d17_1) (fun _ _ => ⟨rfl, e0, (by decide : 0 + 0 ≤ _), (by decide : 0 + 0 ≤ _)⟩)
  dsimp only [Pt.U, Pt.locs, Pt.cells, Pt.slots] at X1 cl_1 cy_1 cz_1 st1 hQ1
  rw [cl_1, cy_1, cz_1] at X1
  obtain ⟨rfl, N1q, e1⟩ := hQ1
  have N1 := Fr.app N0 N1q
  obtain ⟨cl2, Ar2, -, S2, M2, -, -⟩ := id At
  obtain ⟨_, _, ⟨T3, L3, k3, n3⟩, -, X3, ⟨Lc3, hQ3, cl_3, cy_3, cz_3⟩, st3⟩ := Jvm.LawKit.callS X1 hx (y := (⟨"java/lang/Math", "min", "(II)I"⟩ : MethodName)) hown (mvT hZ (hw _ (List.mem_of_getElem? (i := 86) rfl))) (mvT hZ (hw _ (List.mem_of_getElem? (i := 87) rfl))) (mvT hZ (hw _ (List.mem_of_getElem? (i := 88) rfl))) (mvT hZ (hw _ (List.mem_of_getElem? (i := 89) rfl))) (by decide) (backOf (W := 0) (min3_1 l Z a0 hw [] zCS  h0 n0 O0 S_CS hCS hcH hcW   ) hZ (hw _ (List.mem_of_getElem? (i := 89) rfl)) (hw _ (List.mem_of_getElem? (i := 88) rfl)) (by decide) (by decide)) (g := (mkF m 14 #[.val (.ref tt), .val (.int (46 : Int32)), .val (.int (2 : Int32)), .unset] [(.int (2 : Int32)), (.int (2 : Int32))])) rfl (by rw [hml]; rfl) (argsL := [(.int (2 : Int32)), (.int (2 : Int32))]) (rest := []) (lenOf pd_3 rfl) rfl (by show 2 * 0 + _ ≤ _; exact Nat.le_of_eq rfl) (hb hby d17_14) (fun _ _ => ⟨rfl, e1, (by decide : 0 + 0 ≤ _), (by decide : 0 + 0 ≤ _)⟩)
  dsimp only [Pt.U, Pt.locs, Pt.cells, Pt.slots] at X3 cl_3 cy_3 cz_3 st3 hQ3
  rw [cl_3, cy_3, cz_3] at X3
  obtain ⟨rfl, N3q, e3⟩ := hQ3
  have N3 := Fr.app N1 N3q
  obtain ⟨cl4, Ar4, q4, S4, M4, H4, G4⟩ := id At
  have in4 : ¬ ((2 : Int32) < 0 ∨ cl4.slots.size ≤ ((2 : Int32)).toNatClampNeg) := inb_of S4 ⟨by decide, by decide⟩
  have at4 : cl4.slots[((2 : Int32)).toNatClampNeg]? = some (.int v2) := H4.at in4 rfl
  obtain ⟨cl5, Ar5, q5, S5, M5, H5, G5⟩ := id At
  have in5 : ¬ ((1 : Int32) < 0 ∨ cl5.slots.size ≤ ((1 : Int32)).toNatClampNeg) := inb_of S5 ⟨by decide, by decide⟩
  have at5 : cl5.slots[((1 : Int32)).toNatClampNeg]? = some (.int v1) := H5.at in5 rfl
  have R6 : ∀ t, Steps p.tables e below (T3.setTop (mkF m 31 #[.val (.ref tt), .val (.int (46 : Int32)), .val (.int (2 : Int32)), .val (.int (1 : Int32))] [(.int (1 : Int32))])) t → Steps p.tables e below (s₁.setTop (entryFrame m #[(.ref tt), (.int (46 : Int32)), (.int (2 : Int32))] 4)) t := by
    intro t k
    refine R0 t ?_
    show Steps p.tables e below (s₁.setTop (mkF m 0 #[.val (.ref tt), .val (.int (46 : Int32)), .val (.int (2 : Int32)), .unset] [])) t
    refine XS.iloadN X0.here hx rfl (hb hby d17_0) rfl ?_
    show Steps p.tables e below (s₁.setTop (mkF m 1 #[.val (.ref tt), .val (.int (46 : Int32)), .val (.int (2 : Int32)), .unset] [(.int (46 : Int32))])) t
    refine st1 _ ?_
    show Steps p.tables e below (T1.setTop (mkF m 4 #[.val (.ref tt), .val (.int (46 : Int32)), .val (.int (2 : Int32)), .unset] [(.int (1 : Int32))])) t
    refine XS.ifYes X1.here hx rfl (pc0 := 4) (pc' := 9) rfl (hb hby d17_4) rfl ((if0 _ _).trans (feq ((by decide) : ¬ ((1 : Int32) = (0 : Int32)))).2) (by decide) (by decide) ?_
    show Steps p.tables e below (T1.setTop (mkF m 9 #[.val (.ref tt), .val (.int (46 : Int32)), .val (.int (2 : Int32)), .unset] [])) t
    refine XS.iloadN X1.here hx rfl (hb hby d17_9) rfl ?_
    show Steps p.tables e below (T1.setTop (mkF m 10 #[.val (.ref tt), .val (.int (46 : Int32)), .val (.int (2 : Int32)), .unset] [(.int (2 : Int32))])) t
    refine XS.aloadN X1.here hx rfl (hb hby d17_10) rfl rfl ?_
    show Steps p.tables e below (T1.setTop (mkF m 11 #[.val (.ref tt), .val (.int (46 : Int32)), .val (.int (2 : Int32)), .unset] [(.ref tt), (.int (2 : Int32))])) t
    refine X1.arraylength hx (by rw [e1]; exact Ar2.1) (State.isArrayOf_alike hZ.alike Ar2.2.1) (g := (mkF m 11 #[.val (.ref tt), .val (.int (46 : Int32)), .val (.int (2 : Int32)), .unset] [(.ref tt), (.int (2 : Int32))])) rfl rfl (hb hby d17_11) _ ?_
    rw [len_of S2 M2]
    show Steps p.tables e below (T1.setTop (mkF m 12 #[.val (.ref tt), .val (.int (46 : Int32)), .val (.int (2 : Int32)), .unset] [(.int (3 : Int32)), (.int (2 : Int32))])) t
    refine XS.iconst X1.here hx rfl (hb hby d17_12) ?_
    show Steps p.tables e below (T1.setTop (mkF m 13 #[.val (.ref tt), .val (.int (46 : Int32)), .val (.int (2 : Int32)), .unset] [(.int (1 : Int32)), (.int (3 : Int32)), (.int (2 : Int32))])) t
    refine XS.isub X1.here hx rfl (hb hby d17_13) rfl ?_
    show Steps p.tables e below (T1.setTop (mkF m 14 #[.val (.ref tt), .val (.int (46 : Int32)), .val (.int (2 : Int32)), .unset] [(.int ((3 : Int32) - (1 : Int32))), (.int (2 : Int32))])) t
    rw [show ((3 : Int32) - (1 : Int32)) = (2 : Int32) from by decide]
    show Steps p.tables e below (T1.setTop (mkF m 14 #[.val (.ref tt), .val (.int (46 : Int32)), .val (.int (2 : Int32)), .unset] [(.int (2 : Int32)), (.int (2 : Int32))])) t
    refine st3 _ ?_
    show Steps p.tables e below (T3.setTop (mkF m 17 #[.val (.ref tt), .val (.int (46 : Int32)), .val (.int (2 : Int32)), .unset] [(.int (2 : Int32))])) t
    refine XS.istoreN X3.here hx rfl (hb hby d17_17) rfl (l' := #[.val (.ref tt), .val (.int (46 : Int32)), .val (.int (2 : Int32)), .val (.int (2 : Int32))]) rfl ?_
    show Steps p.tables e below (T3.setTop (mkF m 18 #[.val (.ref tt), .val (.int (46 : Int32)), .val (.int (2 : Int32)), .val (.int (2 : Int32))] [])) t
    refine XS.iloadN X3.here hx rfl (hb hby d17_18) rfl ?_
    show Steps p.tables e below (T3.setTop (mkF m 19 #[.val (.ref tt), .val (.int (46 : Int32)), .val (.int (2 : Int32)), .val (.int (2 : Int32))] [(.int (2 : Int32))])) t
    refine XS.ifNo X3.here hx rfl (hb hby d17_19) rfl ((if0 _ _).trans (flt ((by decide) : ¬ ((2 : Int32) < (0 : Int32)))).1) ?_
    show Steps p.tables e below (T3.setTop (mkF m 22 #[.val (.ref tt), .val (.int (46 : Int32)), .val (.int (2 : Int32)), .val (.int (2 : Int32))] [])) t
    refine XS.aloadN X3.here hx rfl (hb hby d17_22) rfl rfl ?_
    show Steps p.tables e below (T3.setTop (mkF m 23 #[.val (.ref tt), .val (.int (46 : Int32)), .val (.int (2 : Int32)), .val (.int (2 : Int32))] [(.ref tt)])) t
    refine XS.iloadN X3.here hx rfl (hb hby d17_23) rfl ?_
    show Steps p.tables e below (T3.setTop (mkF m 24 #[.val (.ref tt), .val (.int (46 : Int32)), .val (.int (2 : Int32)), .val (.int (2 : Int32))] [(.int (2 : Int32)), (.ref tt)])) t
    refine X3.baloadBytes hx (j := (2 : Int32)) (v := (.int v2)) (by rw [e3]; exact Ar4.1) (State.isArrayOf_alike hZ.alike Ar4.2.1) Ar4.2.2 in4 at4 (g := (mkF m 24 #[.val (.ref tt), .val (.int (46 : Int32)), .val (.int (2 : Int32)), .val (.int (2 : Int32))] [(.int (2 : Int32)), (.ref tt)])) rfl rfl (hb hby d17_24) _ ?_
    show Steps p.tables e below (T3.setTop (mkF m 25 #[.val (.ref tt), .val (.int (46 : Int32)), .val (.int (2 : Int32)), .val (.int (2 : Int32))] [(.int v2)])) t
    refine XS.iloadN X3.here hx rfl (hb hby d17_25) rfl ?_
    show Steps p.tables e below (T3.setTop (mkF m 26 #[.val (.ref tt), .val (.int (46 : Int32)), .val (.int (2 : Int32)), .val (.int (2 : Int32))] [(.int (46 : Int32)), (.int v2)])) t
    refine XS.i2b X3.here hx rfl (hb hby d17_26) rfl ?_
    show Steps p.tables e below (T3.setTop (mkF m 27 #[.val (.ref tt), .val (.int (46 : Int32)), .val (.int (2 : Int32)), .val (.int (2 : Int32))] [(.int ((46 : Int32).toInt8.toInt32)), (.int v2)])) t
    rw [show ((46 : Int32).toInt8.toInt32) = (46 : Int32) from by decide]
    show Steps p.tables e below (T3.setTop (mkF m 27 #[.val (.ref tt), .val (.int (46 : Int32)), .val (.int (2 : Int32)), .val (.int (2 : Int32))] [(.int (46 : Int32)), (.int v2)])) t
    refine XS.icmpYes X3.here hx rfl (pc0 := 27) (pc' := 32) rfl (hb hby d17_27) rfl (feq (hv2 : ¬ (v2 = (46 : Int32)))).2 (by decide) (by decide) ?_
    show Steps p.tables e below (T3.setTop (mkF m 32 #[.val (.ref tt), .val (.int (46 : Int32)), .val (.int (2 : Int32)), .val (.int (2 : Int32))] [])) t
    refine XS.iinc X3.here hx rfl (hb hby d17_32) rfl (l' := #[.val (.ref tt), .val (.int (46 : Int32)), .val (.int (2 : Int32)), .val (.int (1 : Int32))]) rfl ?_
    show Steps p.tables e below (T3.setTop (mkF m 35 #[.val (.ref tt), .val (.int (46 : Int32)), .val (.int (2 : Int32)), .val (.int (1 : Int32))] [])) t
    refine XS.goto X3.here hx rfl (pc0 := 35) (pc' := 18) rfl (hb hby d17_35) (by decide) (by decide) ?_
    show Steps p.tables e below (T3.setTop (mkF m 18 #[.val (.ref tt), .val (.int (46 : Int32)), .val (.int (2 : Int32)), .val (.int (1 : Int32))] [])) t
    refine XS.iloadN X3.here hx rfl (hb hby d17_18) rfl ?_
    show Steps p.tables e below (T3.setTop (mkF m 19 #[.val (.ref tt), .val (.int (46 : Int32)), .val (.int (2 : Int32)), .val (.int (1 : Int32))] [(.int (1 : Int32))])) t
    refine XS.ifNo X3.here hx rfl (hb hby d17_19) rfl ((if0 _ _).trans (flt ((by decide) : ¬ ((1 : Int32) < (0 : Int32)))).1) ?_
    show Steps p.tables e below (T3.setTop (mkF m 22 #[.val (.ref tt), .val (.int (46 : Int32)), .val (.int (2 : Int32)), .val (.int (1 : Int32))] [])) t
    refine XS.aloadN X3.here hx rfl (hb hby d17_22) rfl rfl ?_
    show Steps p.tables e below (T3.setTop (mkF m 23 #[.val (.ref tt), .val (.int (46 : Int32)), .val (.int (2 : Int32)), .val (.int (1 : Int32))] [(.ref tt)])) t
    refine XS.iloadN X3.here hx rfl (hb hby d17_23) rfl ?_
    show Steps p.tables e below (T3.setTop (mkF m 24 #[.val (.ref tt), .val (.int (46 : Int32)), .val (.int (2 : Int32)), .val (.int (1 : Int32))] [(.int (1 : Int32)), (.ref tt)])) t
    refine X3.baloadBytes hx (j := (1 : Int32)) (v := (.int v1)) (by rw [e3]; exact Ar5.1) (State.isArrayOf_alike hZ.alike Ar5.2.1) Ar5.2.2 in5 at5 (g := (mkF m 24 #[.val (.ref tt), .val (.int (46 : Int32)), .val (.int (2 : Int32)), .val (.int (1 : Int32))] [(.int (1 : Int32)), (.ref tt)])) rfl rfl (hb hby d17_24) _ ?_
    show Steps p.tables e below (T3.setTop (mkF m 25 #[.val (.ref tt), .val (.int (46 : Int32)), .val (.int (2 : Int32)), .val (.int (1 : Int32))] [(.int v1)])) t
    refine XS.iloadN X3.here hx rfl (hb hby d17_25) rfl ?_
    show Steps p.tables e below (T3.setTop (mkF m 26 #[.val (.ref tt), .val (.int (46 : Int32)), .val (.int (2 : Int32)), .val (.int (1 : Int32))] [(.int (46 : Int32)), (.int v1)])) t
    refine XS.i2b X3.here hx rfl (hb hby d17_26) rfl ?_
    show Steps p.tables e below (T3.setTop (mkF m 27 #[.val (.ref tt), .val (.int (46 : Int32)), .val (.int (2 : Int32)), .val (.int (1 : Int32))] [(.int ((46 : Int32).toInt8.toInt32)), (.int v1)])) t
    rw [show ((46 : Int32).toInt8.toInt32) = (46 : Int32) from by decide]
    show Steps p.tables e below (T3.setTop (mkF m 27 #[.val (.ref tt), .val (.int (46 : Int32)), .val (.int (2 : Int32)), .val (.int (1 : Int32))] [(.int (46 : Int32)), (.int v1)])) t
    refine XS.icmpNo X3.here hx rfl (hb hby d17_27) rfl (teq (hv1 : v1 = (46 : Int32))).2 ?_
    show Steps p.tables e below (T3.setTop (mkF m 30 #[.val (.ref tt), .val (.int (46 : Int32)), .val (.int (2 : Int32)), .val (.int (1 : Int32))] [])) t
    refine XS.iloadN X3.here hx rfl (hb hby d17_30) rfl ?_
    exact k
  obtain ⟨fs, hr, hrun, hended, hW, hsame⟩ := X3.leave (v := some (.int (1 : Int32))) (fun h => by rw [Bd.returns] at h; cases h)
  refine ⟨_, _, R6 _ ?_, hrun, hended, _, _, rfl, ?_, ⟨_, rfl⟩, hW, hsame.mono (by decide) (by decide)⟩
  · show Steps p.tables e below (T3.setTop (mkF m 31 #[.val (.ref tt), .val (.int (46 : Int32)), .val (.int (2 : Int32)), .val (.int (1 : Int32))] [(.int (1 : Int32))])) _
    exact retOut X3 hx Bd.returns rfl (Or.inl ⟨rfl, Or.inl rfl, _, rfl⟩) (hb hby d17_31) hr
  · show Q_li3_3_1 Z zCS tt kb v0 v1 v2 h0 n0 _ T3.heap _
    rw [e3]
    exact ⟨rfl, N3, rfl⟩
theorem d15_0 : decode jdk_42_method_83_code 0 = .ok (.aload_n 0, 1) := by decide +kernel
theorem pd_4 : parseMethodDescriptor "()Z" = some ⟨[], some .boolean⟩ := by decide +kernel
theorem d15_1 : decode jdk_42_method_83_code 1 = .ok (.invokevirtual 492, 3) := by decide +kernel
theorem d15_4 : decode jdk_42_method_83_code 4 = .ok (.ifCond .eq 15, 3) := by decide +kernel
theorem d15_7 : decode jdk_42_method_83_code 7 = .ok (.aload_n 0, 1) := by decide +kernel
theorem d15_8 : decode jdk_42_method_83_code 8 = .ok (.getfield 9, 3) := by decide +kernel
theorem d15_11 : decode jdk_42_method_83_code 11 = .ok (.iload_n 1, 1) := by decide +kernel
theorem d15_12 : decode jdk_42_method_83_code 12 = .ok (.iload_n 2, 1) := by decide +kernel
theorem pd_5 : parseMethodDescriptor "([BII)I" = some ⟨[(.array .byte), .int, .int], some .int⟩ := by decide +kernel
theorem d15_13 : decode jdk_42_method_83_code 13 = .ok (.invokestatic 644, 3) := by decide +kernel
theorem d15_16 : decode jdk_42_method_83_code 16 = .ok (.goto 12, 3) := by decide +kernel
theorem d15_28 : decode jdk_42_method_83_code 28 = .ok (.ireturn, 1) := by decide +kernel
theorem ef_li2_3_1 (m : MethodId) (a : Addr) (tt : Addr) (kb : ClassId) (v0 : Int32) (v1 : Int32) (v2 : Int32) : entryFrame m #[(.ref a), (.int (46 : Int32)), (.int (2 : Int32))] 3 = mkF m 0 #[.val (.ref a), .val (.int (46 : Int32)), .val (.int (2 : Int32))] [] := by first | (simp [entryFrame, mkF, argsToLocals, Value.category]; done) | rfl
def Q_li2_3_1 (Z : State) (zCS : Int32) (a : Addr) (tt : Addr) (kb : ClassId) (v0 : Int32) (v1 : Int32) (v2 : Int32) (h0 : Heap) (n0 : Nat) (vv_ : Option Value) (hh_ : Heap) (LL_ : List Loc) : Prop := vv_ = some (.int (1 : Int32)) ∧ (Fr n0 LL_) ∧ (hh_ = h0)
set_option maxRecDepth 65536 in
set_option maxHeartbeats 40000000 in
theorem li2_3_1 (l : Launch) (Z : State) (a0 : Array Value) (hw : ∀ d ∈ tables_1, d.before a0 Z = true) (ws : List Jvm.Cond) (zCS : Int32) (a : Addr) (tt : Addr) (kb : ClassId) (v0 : Int32) (v1 : Int32) (v2 : Int32) (h0 : Heap) (n0 : Nat) (O0 : Old Z n0 h0) (S_CS : Sta Z Z.heap "java/lang/String" "COMPACT_STRINGS" "Z" (.int zCS)) (hCS : ¬ (zCS = (0 : Int32))) (hcH : Jvm.Lit.constHeld Z "java/lang/String" 7) (hcW : Jvm.Lit.compactW.before a0 Z = true) (Ea : Exa Z h0 a "java/lang/String") (Fc : Fld Z h0 a "java/lang/String" "coder" "B" (.int (0 : Int32))) (Fv : Fld Z h0 a "java/lang/String" "value" "[B" (.ref tt)) (At : Arv Z h0 tt kb .byte (3 : Int32) [(.int v0), (.int v1), (.int v2)] (.int 0)) (hv2 : ¬ (v2 = (46 : Int32))) (hv1 : v1 = (46 : Int32)) :
    MetFree l (⟨"java/lang/String", "lastIndexOf", "(II)I"⟩ : MethodName) (head1 (Jvm.Cond.code (⟨"java/lang/String", "lastIndexOf", "(II)I"⟩ : MethodName) jdk_42_method_83_code 3 (some .int) :: ws) ({ frames := 2, cells := 0, slots := 0, locals := 28 } : Room)) (fun aa_ U_ => aa_ = #[(.ref a), (.int (46 : Int32)), (.int (2 : Int32))] ∧ Z.Warmed39 U_.vm ∧ U_.heap = h0) (fun _ _ _ _ _ => True) (fun _ U_ oo_ V_ => ∃ vv_ LL_, oo_ = .returned vv_ ∧ Q_li2_3_1 Z zCS a tt kb v0 v1 v2 h0 n0 vv_ V_.heap LL_ ∧ FrameEnd U_ oo_ V_ LL_ ({ frames := 2, cells := 0, slots := 0, locals := 28 } : Room).cells ({ frames := 2, cells := 0, slots := 0, locals := 28 } : Room).slots) := by
  refine MetFree.of_bodySF (plainFor_of_name pn_java_lang_String) hisR ?_
  intro p e s m args below meth c s₁ Bd hml0 hP hK
  obtain ⟨rfl, hZ, hh⟩ := hP
  have hx := Bd.exec
  have hby := Bd.bytes
  have hml : c.maxLocals = 3 := hml0
  have hown : s.vm.findClass "java/lang/String" = some m.cls := findClass_of_methodNamed Bd.named
  have hnm := (name_of_methodNamed Bd.named Bd.method).1
  have X0 : Stand p l e ({ frames := 2, cells := 0, slots := 0, locals := 28 } : Room) s m #[(.ref a), (.int (46 : Int32)), (.int (2 : Int32))] below meth c s₁ [] 0 0 := Stand.of_body Bd
  have e0 : s₁.heap = h0 := by rw [← hh, Bd.state]; rfl
  have N0 := Fr.nil n0
  have Z0 : n0 ≤ h0.size := O0.1 ▸ O0.2.1
  have hk0 := Nat.zero_le h0.size
  have K0 : Keep h0 h0 [] := Keep.refl _ _
  have R0 : ∀ t, Steps p.tables e below (s₁.setTop (mkF m 0 #[.val (.ref a), .val (.int (46 : Int32)), .val (.int (2 : Int32))] [])) t → Steps p.tables e below (s₁.setTop (entryFrame m #[(.ref a), (.int (46 : Int32)), (.int (2 : Int32))] 3)) t := fun t k => castTop (ef_li2_3_1 m a tt kb v0 v1 v2) k
  obtain ⟨cq1, kq1, q1a, q1b, q1c⟩ := isOf hZ e0 Ea
  obtain ⟨_, _, ⟨T1, L1, k1, n1⟩, -, X1, ⟨Lc1, hQ1, cl_1, cy_1, cz_1⟩, st1⟩ := X0.virtualBack hx (y := (⟨"java/lang/String", "isLatin1", "()Z"⟩ : MethodName)) (z := (⟨"java/lang/String", "isLatin1", "()Z"⟩ : MethodName)) hown (mvT hZ (hw _ (List.mem_of_getElem? (i := 74) rfl))) (mvT hZ (hw _ (List.mem_of_getElem? (i := 75) rfl))) (notFace_of_selects (args := #[]) (mvT hZ (hw _ (List.mem_of_getElem? (i := 77) rfl)))) (mvT hZ (hw _ (List.mem_of_getElem? (i := 77) rfl))) (mvT hZ (hw _ (List.mem_of_getElem? (i := 76) rfl))) (by decide) (backOf (W := 0) (isLat l Z a0 hw [] zCS a h0 n0 O0 S_CS hCS hcH hcW   Ea Fc) hZ (hw _ (List.mem_of_getElem? (i := 78) rfl)) (hw _ (List.mem_of_getElem? (i := 10) rfl)) (by decide) (by decide)) q1a q1c (g := (mkF m 1 #[.val (.ref a), .val (.int (46 : Int32)), .val (.int (2 : Int32))] [(.ref a)])) rfl (by rw [hml]; rfl) (Steps.refl _) (argsL := []) (rest := []) (lenOf pd_4 rfl) rfl (by show 2 * 0 + _ ≤ _; exact Nat.le_of_eq rfl) (hb hby d15_1) (fun _ _ => ⟨rfl, e0, (by decide : 0 + 0 ≤ _), (by decide : 0 + 0 ≤ _)⟩)
  dsimp only [Pt.U, Pt.locs, Pt.cells, Pt.slots] at X1 cl_1 cy_1 cz_1 st1 hQ1
  rw [cl_1, cy_1, cz_1] at X1
  obtain ⟨rfl, N1q, e1⟩ := hQ1
  have N1 := Fr.app N0 N1q
  obtain ⟨T2, X2, e2, st2⟩ := getF X1 hx hZ hown (host := "") (Or.inl (hw _ (List.mem_of_getElem? (i := 28) rfl))) Via.refl e1 Fv (g := (mkF m 8 #[.val (.ref a), .val (.int (46 : Int32)), .val (.int (2 : Int32))] [(.ref a)])) rfl rfl (hb hby d15_8)
  obtain ⟨_, _, ⟨T3, L3, k3, n3⟩, -, X3, ⟨Lc3, hQ3, cl_3, cy_3, cz_3⟩, st3⟩ := Jvm.LawKit.callS X2 hx (y := (⟨"java/lang/StringLatin1", "lastIndexOf", "([BII)I"⟩ : MethodName)) hown (mvT hZ (hw _ (List.mem_of_getElem? (i := 79) rfl))) (mvT hZ (hw _ (List.mem_of_getElem? (i := 80) rfl))) (mvT hZ (hw _ (List.mem_of_getElem? (i := 81) rfl))) (mvT hZ (hw _ (List.mem_of_getElem? (i := 82) rfl))) (by decide) (backOf (W := 0) (li3_3_1 l Z a0 hw [] zCS tt kb v0 v1 v2 h0 n0 O0 S_CS hCS hcH hcW   At hv2 hv1) hZ (hw _ (List.mem_of_getElem? (i := 82) rfl)) (hw _ (List.mem_of_getElem? (i := 81) rfl)) (by decide) (by decide)) (g := (mkF m 13 #[.val (.ref a), .val (.int (46 : Int32)), .val (.int (2 : Int32))] [(.int (2 : Int32)), (.int (46 : Int32)), (.ref tt)])) rfl (by rw [hml]; rfl) (argsL := [(.ref tt), (.int (46 : Int32)), (.int (2 : Int32))]) (rest := []) (lenOf pd_5 rfl) rfl (by show 2 * 0 + _ ≤ _; exact Nat.le_of_eq rfl) (hb hby d15_13) (fun _ _ => ⟨rfl, e2, (by decide : 0 + 0 ≤ _), (by decide : 0 + 0 ≤ _)⟩)
  dsimp only [Pt.U, Pt.locs, Pt.cells, Pt.slots] at X3 cl_3 cy_3 cz_3 st3 hQ3
  rw [cl_3, cy_3, cz_3] at X3
  obtain ⟨rfl, N3q, e3⟩ := hQ3
  have N3 := Fr.app N1 N3q
  have R4 : ∀ t, Steps p.tables e below (T3.setTop (mkF m 28 #[.val (.ref a), .val (.int (46 : Int32)), .val (.int (2 : Int32))] [(.int (1 : Int32))])) t → Steps p.tables e below (s₁.setTop (entryFrame m #[(.ref a), (.int (46 : Int32)), (.int (2 : Int32))] 3)) t := by
    intro t k
    refine R0 t ?_
    show Steps p.tables e below (s₁.setTop (mkF m 0 #[.val (.ref a), .val (.int (46 : Int32)), .val (.int (2 : Int32))] [])) t
    refine XS.aloadN X0.here hx rfl (hb hby d15_0) rfl rfl ?_
    show Steps p.tables e below (s₁.setTop (mkF m 1 #[.val (.ref a), .val (.int (46 : Int32)), .val (.int (2 : Int32))] [(.ref a)])) t
    refine st1.trans ?_
    show Steps p.tables e below (T1.setTop (mkF m 4 #[.val (.ref a), .val (.int (46 : Int32)), .val (.int (2 : Int32))] [(.int (1 : Int32))])) t
    refine XS.ifNo X1.here hx rfl (hb hby d15_4) rfl ((if0 _ _).trans (feq ((by decide) : ¬ ((1 : Int32) = (0 : Int32)))).1) ?_
    show Steps p.tables e below (T1.setTop (mkF m 7 #[.val (.ref a), .val (.int (46 : Int32)), .val (.int (2 : Int32))] [])) t
    refine XS.aloadN X1.here hx rfl (hb hby d15_7) rfl rfl ?_
    show Steps p.tables e below (T1.setTop (mkF m 8 #[.val (.ref a), .val (.int (46 : Int32)), .val (.int (2 : Int32))] [(.ref a)])) t
    refine st2 _ ?_
    show Steps p.tables e below (T2.setTop (mkF m 11 #[.val (.ref a), .val (.int (46 : Int32)), .val (.int (2 : Int32))] [(.ref tt)])) t
    refine XS.iloadN X2.here hx rfl (hb hby d15_11) rfl ?_
    show Steps p.tables e below (T2.setTop (mkF m 12 #[.val (.ref a), .val (.int (46 : Int32)), .val (.int (2 : Int32))] [(.int (46 : Int32)), (.ref tt)])) t
    refine XS.iloadN X2.here hx rfl (hb hby d15_12) rfl ?_
    show Steps p.tables e below (T2.setTop (mkF m 13 #[.val (.ref a), .val (.int (46 : Int32)), .val (.int (2 : Int32))] [(.int (2 : Int32)), (.int (46 : Int32)), (.ref tt)])) t
    refine st3 _ ?_
    show Steps p.tables e below (T3.setTop (mkF m 16 #[.val (.ref a), .val (.int (46 : Int32)), .val (.int (2 : Int32))] [(.int (1 : Int32))])) t
    refine XS.goto X3.here hx rfl (pc0 := 16) (pc' := 28) rfl (hb hby d15_16) (by decide) (by decide) ?_
    exact k
  obtain ⟨fs, hr, hrun, hended, hW, hsame⟩ := X3.leave (v := some (.int (1 : Int32))) (fun h => by rw [Bd.returns] at h; cases h)
  refine ⟨_, _, R4 _ ?_, hrun, hended, _, _, rfl, ?_, ⟨_, rfl⟩, hW, hsame.mono (by decide) (by decide)⟩
  · show Steps p.tables e below (T3.setTop (mkF m 28 #[.val (.ref a), .val (.int (46 : Int32)), .val (.int (2 : Int32))] [(.int (1 : Int32))])) _
    exact retOut X3 hx Bd.returns rfl (Or.inl ⟨rfl, Or.inl rfl, _, rfl⟩) (hb hby d15_28) hr
  · show Q_li2_3_1 Z zCS a tt kb v0 v1 v2 h0 n0 _ T3.heap _
    rw [e3]
    exact ⟨rfl, N3, rfl⟩
theorem d13_0 : decode jdk_42_method_54_code 0 = .ok (.aload_n 0, 1) := by decide +kernel
theorem d13_1 : decode jdk_42_method_54_code 1 = .ok (.getfield 9, 3) := by decide +kernel
theorem d13_4 : decode jdk_42_method_54_code 4 = .ok (.arraylength, 1) := by decide +kernel
theorem d13_5 : decode jdk_42_method_54_code 5 = .ok (.aload_n 0, 1) := by decide +kernel
theorem pd_6 : parseMethodDescriptor "()B" = some ⟨[], some .byte⟩ := by decide +kernel
theorem d13_6 : decode jdk_42_method_54_code 6 = .ok (.invokevirtual 335, 3) := by decide +kernel
theorem d13_9 : decode jdk_42_method_54_code 9 = .ok (.ishr, 1) := by decide +kernel
theorem d13_10 : decode jdk_42_method_54_code 10 = .ok (.ireturn, 1) := by decide +kernel
theorem ef_slen3_1 (m : MethodId) (a : Addr) (tt : Addr) (kb : ClassId) (v0 : Int32) (v1 : Int32) (v2 : Int32) : entryFrame m #[(.ref a)] 1 = mkF m 0 #[.val (.ref a)] [] := by first | (simp [entryFrame, mkF, argsToLocals, Value.category]; done) | rfl
def Q_slen3_1 (Z : State) (zCS : Int32) (a : Addr) (tt : Addr) (kb : ClassId) (v0 : Int32) (v1 : Int32) (v2 : Int32) (h0 : Heap) (n0 : Nat) (vv_ : Option Value) (hh_ : Heap) (LL_ : List Loc) : Prop := vv_ = some (.int (3 : Int32)) ∧ (Fr n0 LL_) ∧ (hh_ = h0)
set_option maxRecDepth 65536 in
set_option maxHeartbeats 40000000 in
theorem slen3_1 (l : Launch) (Z : State) (a0 : Array Value) (hw : ∀ d ∈ tables_1, d.before a0 Z = true) (ws : List Jvm.Cond) (zCS : Int32) (a : Addr) (tt : Addr) (kb : ClassId) (v0 : Int32) (v1 : Int32) (v2 : Int32) (h0 : Heap) (n0 : Nat) (O0 : Old Z n0 h0) (S_CS : Sta Z Z.heap "java/lang/String" "COMPACT_STRINGS" "Z" (.int zCS)) (hCS : ¬ (zCS = (0 : Int32))) (hcH : Jvm.Lit.constHeld Z "java/lang/String" 7) (hcW : Jvm.Lit.compactW.before a0 Z = true) (Ea : Exa Z h0 a "java/lang/String") (Fc : Fld Z h0 a "java/lang/String" "coder" "B" (.int (0 : Int32))) (Fv : Fld Z h0 a "java/lang/String" "value" "[B" (.ref tt)) (At : Arv Z h0 tt kb .byte (3 : Int32) [(.int v0), (.int v1), (.int v2)] (.int 0)) :
    MetFree l (⟨"java/lang/String", "length", "()I"⟩ : MethodName) (head1 (Jvm.Cond.code (⟨"java/lang/String", "length", "()I"⟩ : MethodName) jdk_42_method_54_code 1 (some .int) :: ws) ({ frames := 1, cells := 0, slots := 0, locals := 13 } : Room)) (fun aa_ U_ => aa_ = #[(.ref a)] ∧ Z.Warmed39 U_.vm ∧ U_.heap = h0) (fun _ _ _ _ _ => True) (fun _ U_ oo_ V_ => ∃ vv_ LL_, oo_ = .returned vv_ ∧ Q_slen3_1 Z zCS a tt kb v0 v1 v2 h0 n0 vv_ V_.heap LL_ ∧ FrameEnd U_ oo_ V_ LL_ ({ frames := 1, cells := 0, slots := 0, locals := 13 } : Room).cells ({ frames := 1, cells := 0, slots := 0, locals := 13 } : Room).slots) := by
  refine MetFree.of_bodySF (plainFor_of_name pn_java_lang_String) hisR ?_
  intro p e s m args below meth c s₁ Bd hml0 hP hK
  obtain ⟨rfl, hZ, hh⟩ := hP
  have hx := Bd.exec
  have hby := Bd.bytes
  have hml : c.maxLocals = 1 := hml0
  have hown : s.vm.findClass "java/lang/String" = some m.cls := findClass_of_methodNamed Bd.named
  have hnm := (name_of_methodNamed Bd.named Bd.method).1
  have X0 : Stand p l e ({ frames := 1, cells := 0, slots := 0, locals := 13 } : Room) s m #[(.ref a)] below meth c s₁ [] 0 0 := Stand.of_body Bd
  have e0 : s₁.heap = h0 := by rw [← hh, Bd.state]; rfl
  have N0 := Fr.nil n0
  have Z0 : n0 ≤ h0.size := O0.1 ▸ O0.2.1
  have hk0 := Nat.zero_le h0.size
  have K0 : Keep h0 h0 [] := Keep.refl _ _
  have R0 : ∀ t, Steps p.tables e below (s₁.setTop (mkF m 0 #[.val (.ref a)] [])) t → Steps p.tables e below (s₁.setTop (entryFrame m #[(.ref a)] 1)) t := fun t k => castTop (ef_slen3_1 m a tt kb v0 v1 v2) k
  obtain ⟨T1, X1, e1, st1⟩ := getF X0 hx hZ hown (host := "") (Or.inl (hw _ (List.mem_of_getElem? (i := 28) rfl))) Via.refl e0 Fv (g := (mkF m 1 #[.val (.ref a)] [(.ref a)])) rfl rfl (hb hby d13_1)
  obtain ⟨cl2, Ar2, -, S2, M2, -, -⟩ := id At
  obtain ⟨cq3, kq3, q3a, q3b, q3c⟩ := isOf hZ e1 Ea
  obtain ⟨_, _, ⟨T3, L3, k3, n3⟩, -, X3, ⟨Lc3, hQ3, cl_3, cy_3, cz_3⟩, st3⟩ := X1.virtualBack hx (y := (⟨"java/lang/String", "coder", "()B"⟩ : MethodName)) (z := (⟨"java/lang/String", "coder", "()B"⟩ : MethodName)) hown (mvT hZ (hw _ (List.mem_of_getElem? (i := 64) rfl))) (mvT hZ (hw _ (List.mem_of_getElem? (i := 65) rfl))) (notFace_of_selects (args := #[]) (mvT hZ (hw _ (List.mem_of_getElem? (i := 67) rfl)))) (mvT hZ (hw _ (List.mem_of_getElem? (i := 67) rfl))) (mvT hZ (hw _ (List.mem_of_getElem? (i := 66) rfl))) (by decide) (backOf (W := 1) (coder l Z a0 hw [] zCS a h0 n0 O0 S_CS hCS hcH hcW   Ea Fc) hZ (hw _ (List.mem_of_getElem? (i := 68) rfl)) (hw _ (List.mem_of_getElem? (i := 10) rfl)) (by decide) (by decide)) q3a q3c (g := (mkF m 6 #[.val (.ref a)] [(.ref a), (.int (3 : Int32))])) rfl (by rw [hml]; rfl) (Steps.refl _) (argsL := []) (rest := [(.int (3 : Int32))]) (lenOf pd_6 rfl) rfl (by show 2 * 0 + _ ≤ _; exact Nat.le_of_eq rfl) (hb hby d13_6) (fun _ _ => ⟨rfl, e1, (by decide : 0 + 0 ≤ _), (by decide : 0 + 0 ≤ _)⟩)
  dsimp only [Pt.U, Pt.locs, Pt.cells, Pt.slots] at X3 cl_3 cy_3 cz_3 st3 hQ3
  rw [cl_3, cy_3, cz_3] at X3
  obtain ⟨rfl, N3q, e3⟩ := hQ3
  have N3 := Fr.app N0 N3q
  have R4 : ∀ t, Steps p.tables e below (T3.setTop (mkF m 10 #[.val (.ref a)] [(.int (3 : Int32))])) t → Steps p.tables e below (s₁.setTop (entryFrame m #[(.ref a)] 1)) t := by
    intro t k
    refine R0 t ?_
    show Steps p.tables e below (s₁.setTop (mkF m 0 #[.val (.ref a)] [])) t
    refine XS.aloadN X0.here hx rfl (hb hby d13_0) rfl rfl ?_
    show Steps p.tables e below (s₁.setTop (mkF m 1 #[.val (.ref a)] [(.ref a)])) t
    refine st1 _ ?_
    show Steps p.tables e below (T1.setTop (mkF m 4 #[.val (.ref a)] [(.ref tt)])) t
    refine X1.arraylength hx (by rw [e1]; exact Ar2.1) (State.isArrayOf_alike hZ.alike Ar2.2.1) (g := (mkF m 4 #[.val (.ref a)] [(.ref tt)])) rfl rfl (hb hby d13_4) _ ?_
    rw [len_of S2 M2]
    show Steps p.tables e below (T1.setTop (mkF m 5 #[.val (.ref a)] [(.int (3 : Int32))])) t
    refine XS.aloadN X1.here hx rfl (hb hby d13_5) rfl rfl ?_
    show Steps p.tables e below (T1.setTop (mkF m 6 #[.val (.ref a)] [(.ref a), (.int (3 : Int32))])) t
    refine st3.trans ?_
    show Steps p.tables e below (T3.setTop (mkF m 9 #[.val (.ref a)] [(.int (0 : Int32)), (.int (3 : Int32))])) t
    refine XS.ishr X3.here hx rfl (hb hby d13_9) rfl ?_
    show Steps p.tables e below (T3.setTop (mkF m 10 #[.val (.ref a)] [(.int ((3 : Int32) >>> ((0 : Int32) &&& 31)))])) t
    rw [show ((3 : Int32) >>> ((0 : Int32) &&& 31)) = (3 : Int32) from by decide]
    exact k
  obtain ⟨fs, hr, hrun, hended, hW, hsame⟩ := X3.leave (v := some (.int (3 : Int32))) (fun h => by rw [Bd.returns] at h; cases h)
  refine ⟨_, _, R4 _ ?_, hrun, hended, _, _, rfl, ?_, ⟨_, rfl⟩, hW, hsame.mono (by decide) (by decide)⟩
  · show Steps p.tables e below (T3.setTop (mkF m 10 #[.val (.ref a)] [(.int (3 : Int32))])) _
    exact retOut X3 hx Bd.returns rfl (Or.inl ⟨rfl, Or.inl rfl, _, rfl⟩) (hb hby d13_10) hr
  · show Q_slen3_1 Z zCS a tt kb v0 v1 v2 h0 n0 _ T3.heap _
    rw [e3]
    exact ⟨rfl, N3, rfl⟩
theorem d12_0 : decode jdk_42_method_82_code 0 = .ok (.aload_n 0, 1) := by decide +kernel
theorem d12_1 : decode jdk_42_method_82_code 1 = .ok (.iload_n 1, 1) := by decide +kernel
theorem d12_2 : decode jdk_42_method_82_code 2 = .ok (.aload_n 0, 1) := by decide +kernel
theorem pd_7 : parseMethodDescriptor "()I" = some ⟨[], some .int⟩ := by decide +kernel
theorem d12_3 : decode jdk_42_method_82_code 3 = .ok (.invokevirtual 505, 3) := by decide +kernel
theorem d12_6 : decode jdk_42_method_82_code 6 = .ok (.iconst 1, 1) := by decide +kernel
theorem d12_7 : decode jdk_42_method_82_code 7 = .ok (.isub, 1) := by decide +kernel
theorem d12_8 : decode jdk_42_method_82_code 8 = .ok (.invokevirtual 641, 3) := by decide +kernel
theorem d12_11 : decode jdk_42_method_82_code 11 = .ok (.ireturn, 1) := by decide +kernel
theorem ef_li1_3_1 (m : MethodId) (a : Addr) (tt : Addr) (kb : ClassId) (v0 : Int32) (v1 : Int32) (v2 : Int32) : entryFrame m #[(.ref a), (.int (46 : Int32))] 2 = mkF m 0 #[.val (.ref a), .val (.int (46 : Int32))] [] := by first | (simp [entryFrame, mkF, argsToLocals, Value.category]; done) | rfl
def Q_li1_3_1 (Z : State) (zCS : Int32) (a : Addr) (tt : Addr) (kb : ClassId) (v0 : Int32) (v1 : Int32) (v2 : Int32) (h0 : Heap) (n0 : Nat) (vv_ : Option Value) (hh_ : Heap) (LL_ : List Loc) : Prop := vv_ = some (.int (1 : Int32)) ∧ (Fr n0 LL_) ∧ (hh_ = h0)
set_option maxRecDepth 65536 in
set_option maxHeartbeats 40000000 in
theorem li1_3_1 (l : Launch) (Z : State) (a0 : Array Value) (hw : ∀ d ∈ tables_1, d.before a0 Z = true) (ws : List Jvm.Cond) (zCS : Int32) (a : Addr) (tt : Addr) (kb : ClassId) (v0 : Int32) (v1 : Int32) (v2 : Int32) (h0 : Heap) (n0 : Nat) (O0 : Old Z n0 h0) (S_CS : Sta Z Z.heap "java/lang/String" "COMPACT_STRINGS" "Z" (.int zCS)) (hCS : ¬ (zCS = (0 : Int32))) (hcH : Jvm.Lit.constHeld Z "java/lang/String" 7) (hcW : Jvm.Lit.compactW.before a0 Z = true) (Ea : Exa Z h0 a "java/lang/String") (Fc : Fld Z h0 a "java/lang/String" "coder" "B" (.int (0 : Int32))) (Fv : Fld Z h0 a "java/lang/String" "value" "[B" (.ref tt)) (At : Arv Z h0 tt kb .byte (3 : Int32) [(.int v0), (.int v1), (.int v2)] (.int 0)) (hv2 : ¬ (v2 = (46 : Int32))) (hv1 : v1 = (46 : Int32)) :
    MetFree l (⟨"java/lang/String", "lastIndexOf", "(I)I"⟩ : MethodName) (head1 (Jvm.Cond.code (⟨"java/lang/String", "lastIndexOf", "(I)I"⟩ : MethodName) jdk_42_method_82_code 2 (some .int) :: ws) ({ frames := 3, cells := 0, slots := 0, locals := 42 } : Room)) (fun aa_ U_ => aa_ = #[(.ref a), (.int (46 : Int32))] ∧ Z.Warmed39 U_.vm ∧ U_.heap = h0) (fun _ _ _ _ _ => True) (fun _ U_ oo_ V_ => ∃ vv_ LL_, oo_ = .returned vv_ ∧ Q_li1_3_1 Z zCS a tt kb v0 v1 v2 h0 n0 vv_ V_.heap LL_ ∧ FrameEnd U_ oo_ V_ LL_ ({ frames := 3, cells := 0, slots := 0, locals := 42 } : Room).cells ({ frames := 3, cells := 0, slots := 0, locals := 42 } : Room).slots) := by
  refine MetFree.of_bodySF (plainFor_of_name pn_java_lang_String) hisR ?_
  intro p e s m args below meth c s₁ Bd hml0 hP hK
  obtain ⟨rfl, hZ, hh⟩ := hP
  have hx := Bd.exec
  have hby := Bd.bytes
  have hml : c.maxLocals = 2 := hml0
  have hown : s.vm.findClass "java/lang/String" = some m.cls := findClass_of_methodNamed Bd.named
  have hnm := (name_of_methodNamed Bd.named Bd.method).1
  have X0 : Stand p l e ({ frames := 3, cells := 0, slots := 0, locals := 42 } : Room) s m #[(.ref a), (.int (46 : Int32))] below meth c s₁ [] 0 0 := Stand.of_body Bd
  have e0 : s₁.heap = h0 := by rw [← hh, Bd.state]; rfl
  have N0 := Fr.nil n0
  have Z0 : n0 ≤ h0.size := O0.1 ▸ O0.2.1
  have hk0 := Nat.zero_le h0.size
  have K0 : Keep h0 h0 [] := Keep.refl _ _
  have R0 : ∀ t, Steps p.tables e below (s₁.setTop (mkF m 0 #[.val (.ref a), .val (.int (46 : Int32))] [])) t → Steps p.tables e below (s₁.setTop (entryFrame m #[(.ref a), (.int (46 : Int32))] 2)) t := fun t k => castTop (ef_li1_3_1 m a tt kb v0 v1 v2) k
  obtain ⟨cq1, kq1, q1a, q1b, q1c⟩ := isOf hZ e0 Ea
  obtain ⟨_, _, ⟨T1, L1, k1, n1⟩, -, X1, ⟨Lc1, hQ1, cl_1, cy_1, cz_1⟩, st1⟩ := X0.virtualBack hx (y := (⟨"java/lang/String", "length", "()I"⟩ : MethodName)) (z := (⟨"java/lang/String", "length", "()I"⟩ : MethodName)) hown (mvT hZ (hw _ (List.mem_of_getElem? (i := 59) rfl))) (mvT hZ (hw _ (List.mem_of_getElem? (i := 60) rfl))) (notFace_of_selects (args := #[]) (mvT hZ (hw _ (List.mem_of_getElem? (i := 62) rfl)))) (mvT hZ (hw _ (List.mem_of_getElem? (i := 62) rfl))) (mvT hZ (hw _ (List.mem_of_getElem? (i := 61) rfl))) (by decide) (backOf (W := 2) (slen3_1 l Z a0 hw [] zCS a tt kb v0 v1 v2 h0 n0 O0 S_CS hCS hcH hcW   Ea Fc Fv At) hZ (hw _ (List.mem_of_getElem? (i := 63) rfl)) (hw _ (List.mem_of_getElem? (i := 10) rfl)) (by decide) (by decide)) q1a q1c (g := (mkF m 3 #[.val (.ref a), .val (.int (46 : Int32))] [(.ref a), (.int (46 : Int32)), (.ref a)])) rfl (by rw [hml]; rfl) (Steps.refl _) (argsL := []) (rest := [(.int (46 : Int32)), (.ref a)]) (lenOf pd_7 rfl) rfl (by show 2 * 0 + _ ≤ _; exact Nat.le_of_eq rfl) (hb hby d12_3) (fun _ _ => ⟨rfl, e0, (by decide : 0 + 0 ≤ _), (by decide : 0 + 0 ≤ _)⟩)
  dsimp only [Pt.U, Pt.locs, Pt.cells, Pt.slots] at X1 cl_1 cy_1 cz_1 st1 hQ1
  rw [cl_1, cy_1, cz_1] at X1
  obtain ⟨rfl, N1q, e1⟩ := hQ1
  have N1 := Fr.app N0 N1q
  obtain ⟨cq2, kq2, q2a, q2b, q2c⟩ := isOf hZ e1 Ea
  obtain ⟨_, _, ⟨T2, L2, k2, n2⟩, -, X2, ⟨Lc2, hQ2, cl_2, cy_2, cz_2⟩, st2⟩ := X1.virtualBack hx (y := (⟨"java/lang/String", "lastIndexOf", "(II)I"⟩ : MethodName)) (z := (⟨"java/lang/String", "lastIndexOf", "(II)I"⟩ : MethodName)) hown (mvT hZ (hw _ (List.mem_of_getElem? (i := 69) rfl))) (mvT hZ (hw _ (List.mem_of_getElem? (i := 70) rfl))) (notFace_of_selects (args := #[]) (mvT hZ (hw _ (List.mem_of_getElem? (i := 72) rfl)))) (mvT hZ (hw _ (List.mem_of_getElem? (i := 72) rfl))) (mvT hZ (hw _ (List.mem_of_getElem? (i := 71) rfl))) (by decide) (backOf (W := 0) (li2_3_1 l Z a0 hw [] zCS a tt kb v0 v1 v2 h0 n0 O0 S_CS hCS hcH hcW   Ea Fc Fv At hv2 hv1) hZ (hw _ (List.mem_of_getElem? (i := 73) rfl)) (hw _ (List.mem_of_getElem? (i := 10) rfl)) (by decide) (by decide)) q2a q2c (g := (mkF m 8 #[.val (.ref a), .val (.int (46 : Int32))] [(.int (2 : Int32)), (.int (46 : Int32)), (.ref a)])) rfl (by rw [hml]; rfl) (Steps.refl _) (argsL := [(.int (46 : Int32)), (.int (2 : Int32))]) (rest := []) (lenOf pd_3 rfl) rfl (by show 2 * 0 + _ ≤ _; exact Nat.le_of_eq rfl) (hb hby d12_8) (fun _ _ => ⟨rfl, e1, (by decide : 0 + 0 ≤ _), (by decide : 0 + 0 ≤ _)⟩)
  dsimp only [Pt.U, Pt.locs, Pt.cells, Pt.slots] at X2 cl_2 cy_2 cz_2 st2 hQ2
  rw [cl_2, cy_2, cz_2] at X2
  obtain ⟨rfl, N2q, e2⟩ := hQ2
  have N2 := Fr.app N1 N2q
  have R3 : ∀ t, Steps p.tables e below (T2.setTop (mkF m 11 #[.val (.ref a), .val (.int (46 : Int32))] [(.int (1 : Int32))])) t → Steps p.tables e below (s₁.setTop (entryFrame m #[(.ref a), (.int (46 : Int32))] 2)) t := by
    intro t k
    refine R0 t ?_
    show Steps p.tables e below (s₁.setTop (mkF m 0 #[.val (.ref a), .val (.int (46 : Int32))] [])) t
    refine XS.aloadN X0.here hx rfl (hb hby d12_0) rfl rfl ?_
    show Steps p.tables e below (s₁.setTop (mkF m 1 #[.val (.ref a), .val (.int (46 : Int32))] [(.ref a)])) t
    refine XS.iloadN X0.here hx rfl (hb hby d12_1) rfl ?_
    show Steps p.tables e below (s₁.setTop (mkF m 2 #[.val (.ref a), .val (.int (46 : Int32))] [(.int (46 : Int32)), (.ref a)])) t
    refine XS.aloadN X0.here hx rfl (hb hby d12_2) rfl rfl ?_
    show Steps p.tables e below (s₁.setTop (mkF m 3 #[.val (.ref a), .val (.int (46 : Int32))] [(.ref a), (.int (46 : Int32)), (.ref a)])) t
    refine st1.trans ?_
    show Steps p.tables e below (T1.setTop (mkF m 6 #[.val (.ref a), .val (.int (46 : Int32))] [(.int (3 : Int32)), (.int (46 : Int32)), (.ref a)])) t
    refine XS.iconst X1.here hx rfl (hb hby d12_6) ?_
    show Steps p.tables e below (T1.setTop (mkF m 7 #[.val (.ref a), .val (.int (46 : Int32))] [(.int (1 : Int32)), (.int (3 : Int32)), (.int (46 : Int32)), (.ref a)])) t
    refine XS.isub X1.here hx rfl (hb hby d12_7) rfl ?_
    show Steps p.tables e below (T1.setTop (mkF m 8 #[.val (.ref a), .val (.int (46 : Int32))] [(.int ((3 : Int32) - (1 : Int32))), (.int (46 : Int32)), (.ref a)])) t
    rw [show ((3 : Int32) - (1 : Int32)) = (2 : Int32) from by decide]
    show Steps p.tables e below (T1.setTop (mkF m 8 #[.val (.ref a), .val (.int (46 : Int32))] [(.int (2 : Int32)), (.int (46 : Int32)), (.ref a)])) t
    refine st2.trans ?_
    exact k
  obtain ⟨fs, hr, hrun, hended, hW, hsame⟩ := X2.leave (v := some (.int (1 : Int32))) (fun h => by rw [Bd.returns] at h; cases h)
  refine ⟨_, _, R3 _ ?_, hrun, hended, _, _, rfl, ?_, ⟨_, rfl⟩, hW, hsame.mono (by decide) (by decide)⟩
  · show Steps p.tables e below (T2.setTop (mkF m 11 #[.val (.ref a), .val (.int (46 : Int32))] [(.int (1 : Int32))])) _
    exact retOut X2 hx Bd.returns rfl (Or.inl ⟨rfl, Or.inl rfl, _, rfl⟩) (hb hby d12_11) hr
  · show Q_li1_3_1 Z zCS a tt kb v0 v1 v2 h0 n0 _ T2.heap _
    rw [e2]
    exact ⟨rfl, N2, rfl⟩
theorem d10_0 : decode prog_22_method_2_code 0 = .ok (.aload_n 0, 1) := by decide +kernel
theorem d10_1 : decode prog_22_method_2_code 1 = .ok (.ldc 33, 2) := by decide +kernel
theorem pd_8 : parseMethodDescriptor "(Ljava/lang/Object;Ljava/lang/String;)Ljava/lang/Object;" = some ⟨[(.object "java/lang/Object"), (.object "java/lang/String")], some (.object "java/lang/Object")⟩ := by decide +kernel
theorem d10_3 : decode prog_22_method_2_code 3 = .ok (.invokestatic 35, 3) := by decide +kernel
theorem d10_6 : decode prog_22_method_2_code 6 = .ok (.checkcast 14, 3) := by decide +kernel
theorem d10_9 : decode prog_22_method_2_code 9 = .ok (.bipush 46, 2) := by decide +kernel
theorem pd_9 : parseMethodDescriptor "(I)I" = some ⟨[.int], some .int⟩ := by decide +kernel
theorem d10_11 : decode prog_22_method_2_code 11 = .ok (.invokevirtual 13, 3) := by decide +kernel
theorem d10_14 : decode prog_22_method_2_code 14 = .ok (.istore_n 1, 1) := by decide +kernel
theorem d10_15 : decode prog_22_method_2_code 15 = .ok (.iload_n 1, 1) := by decide +kernel
theorem d10_16 : decode prog_22_method_2_code 16 = .ok (.ifCond .le 13, 3) := by decide +kernel
theorem d10_19 : decode prog_22_method_2_code 19 = .ok (.iload_n 1, 1) := by decide +kernel
theorem d10_20 : decode prog_22_method_2_code 20 = .ok (.aload_n 0, 1) := by decide +kernel
theorem d10_21 : decode prog_22_method_2_code 21 = .ok (.invokevirtual 41, 3) := by decide +kernel
theorem d10_24 : decode prog_22_method_2_code 24 = .ok (.iconst 1, 1) := by decide +kernel
theorem d10_25 : decode prog_22_method_2_code 25 = .ok (.isub, 1) := by decide +kernel
theorem d10_26 : decode prog_22_method_2_code 26 = .ok (.if_icmp .ne 17, 3) := by decide +kernel
theorem d10_43 : decode prog_22_method_2_code 43 = .ok (.aload_n 0, 1) := by decide +kernel
theorem d10_44 : decode prog_22_method_2_code 44 = .ok (.areturn, 1) := by decide +kernel
theorem pn_com_example_wiring_from_blueprints_wiringfromblueprints_internal_StaticField : plainName "com/example/wiring_from_blueprints/wiringfromblueprints/internal/StaticField" = true := by first | (simp [plainName, overriddenIn]; done) | decide +kernel
theorem ef_checked3_1 (m : MethodId) (a : Addr) (tt : Addr) (kb : ClassId) (v0 : Int32) (v1 : Int32) (v2 : Int32) : entryFrame m #[(.ref a)] 2 = mkF m 0 #[.val (.ref a), .unset] [] := by first | (simp [entryFrame, mkF, argsToLocals, Value.category]; done) | rfl
def Q_checked3_1 (Z : State) (zCS : Int32) (a : Addr) (tt : Addr) (kb : ClassId) (v0 : Int32) (v1 : Int32) (v2 : Int32) (h0 : Heap) (n0 : Nat) (vv_ : Option Value) (hh_ : Heap) (LL_ : List Loc) : Prop := vv_ = some (.ref a) ∧ (Fr n0 LL_) ∧ (Keep h0 hh_ [])
set_option maxRecDepth 65536 in
set_option maxHeartbeats 40000000 in
theorem checked3_1 (l : Launch) (Z : State) (a0 : Array Value) (hw : ∀ d ∈ tables_1, d.before a0 Z = true) (ws : List Jvm.Cond) (zCS : Int32) (a : Addr) (tt : Addr) (kb : ClassId) (v0 : Int32) (v1 : Int32) (v2 : Int32) (h0 : Heap) (n0 : Nat) (O0 : Old Z n0 h0) (S_CS : Sta Z Z.heap "java/lang/String" "COMPACT_STRINGS" "Z" (.int zCS)) (hCS : ¬ (zCS = (0 : Int32))) (hcH : Jvm.Lit.constHeld Z "java/lang/String" 7) (hcW : Jvm.Lit.compactW.before a0 Z = true) (Ea : Exa Z h0 a "java/lang/String") (Fc : Fld Z h0 a "java/lang/String" "coder" "B" (.int (0 : Int32))) (Fv : Fld Z h0 a "java/lang/String" "value" "[B" (.ref tt)) (At : Arv Z h0 tt kb .byte (3 : Int32) [(.int v0), (.int v1), (.int v2)] (.int 0)) (hv2 : ¬ (v2 = (46 : Int32))) (hv1 : v1 = (46 : Int32)) :
    MetFree l (⟨"com/example/wiring_from_blueprints/wiringfromblueprints/internal/StaticField", "checked", "(Ljava/lang/String;)Ljava/lang/String;"⟩ : MethodName) (head1 (Jvm.Cond.code (⟨"com/example/wiring_from_blueprints/wiringfromblueprints/internal/StaticField", "checked", "(Ljava/lang/String;)Ljava/lang/String;"⟩ : MethodName) prog_22_method_2_code 2 (some (.object "java/lang/String")) :: ws) ({ frames := 4, cells := 2, slots := 48, locals := 55 } : Room)) (fun aa_ U_ => aa_ = #[(.ref a)] ∧ Z.Warmed39 U_.vm ∧ U_.heap = h0) (fun _ _ _ _ _ => True) (fun _ U_ oo_ V_ => ∃ vv_ LL_, oo_ = .returned vv_ ∧ Q_checked3_1 Z zCS a tt kb v0 v1 v2 h0 n0 vv_ V_.heap LL_ ∧ ReturnedEndW U_ oo_ V_ LL_ ({ frames := 4, cells := 2, slots := 48, locals := 55 } : Room).cells ({ frames := 4, cells := 2, slots := 48, locals := 55 } : Room).slots) := by
  refine MetFree.of_bodySF (plainFor_of_name pn_com_example_wiring_from_blueprints_wiringfromblueprints_internal_StaticField) hisR ?_
  intro p e s m args below meth c s₁ Bd hml0 hP hK
  obtain ⟨rfl, hZ, hh⟩ := hP
  have hx := Bd.exec
  have hby := Bd.bytes
  have hml : c.maxLocals = 2 := hml0
  have hown : s.vm.findClass "com/example/wiring_from_blueprints/wiringfromblueprints/internal/StaticField" = some m.cls := findClass_of_methodNamed Bd.named
  have hnm := (name_of_methodNamed Bd.named Bd.method).1
  have hZ0 : Z.Warmed39 (s.setVm s.vm).vm := hZ
  have hown0 : (s.setVm s.vm).vm.findClass "com/example/wiring_from_blueprints/wiringfromblueprints/internal/StaticField" = some m.cls := hown
  have hS0 : s.Since s.vm 0 := ⟨State.Warmed39.refl s, fun j p h1 h2 => absurd (Array.getElem?_eq_some_iff.mp h2).1 (Nat.not_lt.mpr h1)⟩
  have X0 : Stand p l e ({ frames := 4, cells := 2, slots := 48, locals := 55 } : Room) (s.setVm s.vm) m #[(.ref a)] below meth c s₁ [] 0 0 := Stand.of_body Bd
  have e0 : s₁.heap = h0 := by rw [← hh, Bd.state]; rfl
  have N0 := Fr.nil n0
  have Z0 : n0 ≤ h0.size := O0.1 ▸ O0.2.1
  have hk0 := Nat.zero_le h0.size
  have K0 : Keep h0 h0 [] := Keep.refl _ _
  have R0 : ∀ t, Steps p.tables e below (s₁.setTop (mkF m 0 #[.val (.ref a), .unset] [])) t → Steps p.tables e below (s₁.setTop (entryFrame m #[(.ref a)] 2)) t := fun t k => castTop (ef_checked3_1 m a tt kb v0 v1 v2) k
  obtain ⟨a1, T1, h1, k1, X1, e1, E1, hS1, hk1, hZ1, hown1, st1⟩ := ldcS X0 hx hZ0 hown0 (hw _ (List.mem_of_getElem? (i := 48) rfl)) (own_sat hw) e0 hS0 hk0 (g := (mkF m 1 #[.val (.ref a), .unset] [(.ref a)])) rfl (hb hby d10_1) (n := 44) (by decide) (by decide) (by decide) (by decide)
  have Z1 : n0 ≤ h1.size := Nat.le_trans Z0 E1.1
  have K1 : Keep h0 h1 [] := K0.ext E1
  have O1 : Old Z n0 h1 := O0.ext E1
  obtain ⟨_, _, ⟨T2, L2, k2, n2⟩, -, X2, ⟨Lc2, hQ2, cl_2, cy_2, cz_2⟩, st2⟩ := Jvm.LawKit.callS X1 hx (y := (⟨"java/util/Objects", "requireNonNull", "(Ljava/lang/Object;Ljava/lang/String;)Ljava/lang/Object;"⟩ : MethodName)) hown1 (mvT hZ1 (hw _ (List.mem_of_getElem? (i := 49) rfl))) (mvT hZ1 (hw _ (List.mem_of_getElem? (i := 50) rfl))) (mvT hZ1 (hw _ (List.mem_of_getElem? (i := 51) rfl))) (mvT hZ1 (hw _ (List.mem_of_getElem? (i := 52) rfl))) (by decide) (backOf (W := 0) (rnn l Z a0 hw [] zCS a a1 h1 n0 O1 S_CS hCS hcH hcW   ) hZ1 (hw _ (List.mem_of_getElem? (i := 52) rfl)) (hw _ (List.mem_of_getElem? (i := 51) rfl)) (by decide) (by decide)) (g := (mkF m 3 #[.val (.ref a), .unset] [(.ref a1), (.ref a)])) rfl (by rw [hml]; rfl) (argsL := [(.ref a), (.ref a1)]) (rest := []) (lenOf pd_8 rfl) rfl (by show 2 * 0 + _ ≤ _; exact Nat.le_of_eq rfl) (hb hby d10_3) (fun _ _ => ⟨rfl, e1, (by decide : 2 + 0 ≤ _), (by decide : 48 + 0 ≤ _)⟩)
  dsimp only [Pt.U, Pt.locs, Pt.cells, Pt.slots] at X2 cl_2 cy_2 cz_2 st2 hQ2
  rw [cl_2, cy_2, cz_2] at X2
  obtain ⟨rfl, N2q, e2⟩ := hQ2
  have N2 := Fr.app N0 N2q
  have f4 : Exa Z h1 a "java/lang/String" := (Ea.ext E1)
  obtain ⟨T3, X3, e3, st3⟩ := castY X2 hx hZ1 hown1 (hw _ (List.mem_of_getElem? (i := 53) rfl)) e2 (Ins.self f4) (g := (mkF m 6 #[.val (.ref a), .unset] [(.ref a)])) rfl rfl (hb hby d10_6)
  have f6 : Fld Z h1 a "java/lang/String" "coder" "B" (.int (0 : Int32)) := (Fc.ext E1)
  have f7 : Fld Z h1 a "java/lang/String" "value" "[B" (.ref tt) := (Fv.ext E1)
  have f8 : Arv Z h1 tt kb .byte (3 : Int32) [(.int v0), (.int v1), (.int v2)] (.int 0) := (At.ext E1)
  obtain ⟨cq5, kq5, q5a, q5b, q5c⟩ := isOf hZ1 e3 f4
  obtain ⟨_, _, ⟨T5, L5, k5, n5⟩, -, X5, ⟨Lc5, hQ5, cl_5, cy_5, cz_5⟩, st5⟩ := X3.virtualBack hx (y := (⟨"java/lang/String", "lastIndexOf", "(I)I"⟩ : MethodName)) (z := (⟨"java/lang/String", "lastIndexOf", "(I)I"⟩ : MethodName)) hown1 (mvT hZ1 (hw _ (List.mem_of_getElem? (i := 54) rfl))) (mvT hZ1 (hw _ (List.mem_of_getElem? (i := 55) rfl))) (notFace_of_selects (args := #[]) (mvT hZ1 (hw _ (List.mem_of_getElem? (i := 57) rfl)))) (mvT hZ1 (hw _ (List.mem_of_getElem? (i := 57) rfl))) (mvT hZ1 (hw _ (List.mem_of_getElem? (i := 56) rfl))) (by decide) (backOf (W := 0) (li1_3_1 l Z a0 hw [] zCS a tt kb v0 v1 v2 h1 n0 O1 S_CS hCS hcH hcW   f4 f6 f7 f8 hv2 hv1) hZ1 (hw _ (List.mem_of_getElem? (i := 58) rfl)) (hw _ (List.mem_of_getElem? (i := 10) rfl)) (by decide) (by decide)) q5a q5c (g := (mkF m 11 #[.val (.ref a), .unset] [(.int (46 : Int32)), (.ref a)])) rfl (by rw [hml]; rfl) (Steps.refl _) (argsL := [(.int (46 : Int32))]) (rest := []) (lenOf pd_9 rfl) rfl (by show 2 * 0 + _ ≤ _; exact Nat.le_of_eq rfl) (hb hby d10_11) (fun _ _ => ⟨rfl, e3, (by decide : 2 + 0 ≤ _), (by decide : 48 + 0 ≤ _)⟩)
  dsimp only [Pt.U, Pt.locs, Pt.cells, Pt.slots] at X5 cl_5 cy_5 cz_5 st5 hQ5
  rw [cl_5, cy_5, cz_5] at X5
  obtain ⟨rfl, N5q, e5⟩ := hQ5
  have N5 := Fr.app N2 N5q
  obtain ⟨cq9, kq9, q9a, q9b, q9c⟩ := isOf hZ1 e5 f4
  obtain ⟨_, _, ⟨T9, L9, k9, n9⟩, -, X9, ⟨Lc9, hQ9, cl_9, cy_9, cz_9⟩, st9⟩ := X5.virtualBack hx (y := (⟨"java/lang/String", "length", "()I"⟩ : MethodName)) (z := (⟨"java/lang/String", "length", "()I"⟩ : MethodName)) hown1 (mvT hZ1 (hw _ (List.mem_of_getElem? (i := 90) rfl))) (mvT hZ1 (hw _ (List.mem_of_getElem? (i := 60) rfl))) (notFace_of_selects (args := #[]) (mvT hZ1 (hw _ (List.mem_of_getElem? (i := 62) rfl)))) (mvT hZ1 (hw _ (List.mem_of_getElem? (i := 62) rfl))) (mvT hZ1 (hw _ (List.mem_of_getElem? (i := 61) rfl))) (by decide) (backOf (W := 1) (slen3_1 l Z a0 hw [] zCS a tt kb v0 v1 v2 h1 n0 O1 S_CS hCS hcH hcW   f4 f6 f7 f8) hZ1 (hw _ (List.mem_of_getElem? (i := 63) rfl)) (hw _ (List.mem_of_getElem? (i := 10) rfl)) (by decide) (by decide)) q9a q9c (g := (mkF m 21 #[.val (.ref a), .val (.int (1 : Int32))] [(.ref a), (.int (1 : Int32))])) rfl (by rw [hml]; rfl) (Steps.refl _) (argsL := []) (rest := [(.int (1 : Int32))]) (lenOf pd_7 rfl) rfl (by show 2 * 0 + _ ≤ _; exact Nat.le_of_eq rfl) (hb hby d10_21) (fun _ _ => ⟨rfl, e5, (by decide : 2 + 0 ≤ _), (by decide : 48 + 0 ≤ _)⟩)
  dsimp only [Pt.U, Pt.locs, Pt.cells, Pt.slots] at X9 cl_9 cy_9 cz_9 st9 hQ9
  rw [cl_9, cy_9, cz_9] at X9
  obtain ⟨rfl, N9q, e9⟩ := hQ9
  have N9 := Fr.app N5 N9q
  have R10 : ∀ t, Steps p.tables e below (T9.setTop (mkF m 44 #[.val (.ref a), .val (.int (1 : Int32))] [(.ref a)])) t → Steps p.tables e below (s₁.setTop (entryFrame m #[(.ref a)] 2)) t := by
    intro t k
    refine R0 t ?_
    show Steps p.tables e below (s₁.setTop (mkF m 0 #[.val (.ref a), .unset] [])) t
    refine XS.aloadN X0.here hx rfl (hb hby d10_0) rfl rfl ?_
    show Steps p.tables e below (s₁.setTop (mkF m 1 #[.val (.ref a), .unset] [(.ref a)])) t
    refine st1 _ ?_
    show Steps p.tables e below (T1.setTop (mkF m 3 #[.val (.ref a), .unset] [(.ref a1), (.ref a)])) t
    refine st2 _ ?_
    show Steps p.tables e below (T2.setTop (mkF m 6 #[.val (.ref a), .unset] [(.ref a)])) t
    refine st3 _ ?_
    show Steps p.tables e below (T3.setTop (mkF m 9 #[.val (.ref a), .unset] [(.ref a)])) t
    refine XS.bipush X3.here hx rfl (hb hby d10_9) ?_
    show Steps p.tables e below (T3.setTop (mkF m 11 #[.val (.ref a), .unset] [(.int (46 : Int32)), (.ref a)])) t
    refine st5.trans ?_
    show Steps p.tables e below (T5.setTop (mkF m 14 #[.val (.ref a), .unset] [(.int (1 : Int32))])) t
    refine XS.istoreN X5.here hx rfl (hb hby d10_14) rfl (l' := #[.val (.ref a), .val (.int (1 : Int32))]) rfl ?_
    show Steps p.tables e below (T5.setTop (mkF m 15 #[.val (.ref a), .val (.int (1 : Int32))] [])) t
    refine XS.iloadN X5.here hx rfl (hb hby d10_15) rfl ?_
    show Steps p.tables e below (T5.setTop (mkF m 16 #[.val (.ref a), .val (.int (1 : Int32))] [(.int (1 : Int32))])) t
    refine XS.ifNo X5.here hx rfl (hb hby d10_16) rfl ((if0 _ _).trans (tlt ((by decide) : (0 : Int32) < (1 : Int32))).2.2.2) ?_
    show Steps p.tables e below (T5.setTop (mkF m 19 #[.val (.ref a), .val (.int (1 : Int32))] [])) t
    refine XS.iloadN X5.here hx rfl (hb hby d10_19) rfl ?_
    show Steps p.tables e below (T5.setTop (mkF m 20 #[.val (.ref a), .val (.int (1 : Int32))] [(.int (1 : Int32))])) t
    refine XS.aloadN X5.here hx rfl (hb hby d10_20) rfl rfl ?_
    show Steps p.tables e below (T5.setTop (mkF m 21 #[.val (.ref a), .val (.int (1 : Int32))] [(.ref a), (.int (1 : Int32))])) t
    refine st9.trans ?_
    show Steps p.tables e below (T9.setTop (mkF m 24 #[.val (.ref a), .val (.int (1 : Int32))] [(.int (3 : Int32)), (.int (1 : Int32))])) t
    refine XS.iconst X9.here hx rfl (hb hby d10_24) ?_
    show Steps p.tables e below (T9.setTop (mkF m 25 #[.val (.ref a), .val (.int (1 : Int32))] [(.int (1 : Int32)), (.int (3 : Int32)), (.int (1 : Int32))])) t
    refine XS.isub X9.here hx rfl (hb hby d10_25) rfl ?_
    show Steps p.tables e below (T9.setTop (mkF m 26 #[.val (.ref a), .val (.int (1 : Int32))] [(.int ((3 : Int32) - (1 : Int32))), (.int (1 : Int32))])) t
    rw [show ((3 : Int32) - (1 : Int32)) = (2 : Int32) from by decide]
    show Steps p.tables e below (T9.setTop (mkF m 26 #[.val (.ref a), .val (.int (1 : Int32))] [(.int (2 : Int32)), (.int (1 : Int32))])) t
    refine XS.icmpYes X9.here hx rfl (pc0 := 26) (pc' := 43) rfl (hb hby d10_26) rfl (feq ((by decide) : ¬ ((1 : Int32) = (2 : Int32)))).2 (by decide) (by decide) ?_
    show Steps p.tables e below (T9.setTop (mkF m 43 #[.val (.ref a), .val (.int (1 : Int32))] [])) t
    refine XS.aloadN X9.here hx rfl (hb hby d10_43) rfl rfl ?_
    exact k
  obtain ⟨fs, hr, hrun, hended, hRW⟩ := X9.leaveW hS1 (by rw [e9]; exact hk1) (v := some (.ref a)) (fun h => by rw [Bd.returns] at h; cases h)
  refine ⟨_, _, R10 _ ?_, hrun, hended, _, _, rfl, ?_, hRW.1, hRW.2.1, hRW.2.2.1, hRW.2.2.2.mono (by decide) (by decide)⟩
  · show Steps p.tables e below (T9.setTop (mkF m 44 #[.val (.ref a), .val (.int (1 : Int32))] [(.ref a)])) _
    exact retOut X9 hx Bd.returns rfl (Or.inr (Or.inr (Or.inr (Or.inr ⟨rfl, rfl, rfl⟩)))) (hb hby d10_44) hr
  · show Q_checked3_1 Z zCS a tt kb v0 v1 v2 h0 n0 _ T9.heap _
    rw [e9]
    exact ⟨rfl, N9, K1⟩
theorem ef_min4_1 (m : MethodId)  : entryFrame m #[(.int (3 : Int32)), (.int (3 : Int32))] 2 = mkF m 0 #[.val (.int (3 : Int32)), .val (.int (3 : Int32))] [] := by first | (simp [entryFrame, mkF, argsToLocals, Value.category]; done) | rfl
def Q_min4_1 (Z : State) (zCS : Int32)  (h0 : Heap) (n0 : Nat) (vv_ : Option Value) (hh_ : Heap) (LL_ : List Loc) : Prop := vv_ = some (.int (3 : Int32)) ∧ (Fr n0 LL_) ∧ (hh_ = h0)
set_option maxRecDepth 65536 in
set_option maxHeartbeats 40000000 in
theorem min4_1 (l : Launch) (Z : State) (a0 : Array Value) (hw : ∀ d ∈ tables_1, d.before a0 Z = true) (ws : List Jvm.Cond) (zCS : Int32)  (h0 : Heap) (n0 : Nat) (O0 : Old Z n0 h0) (S_CS : Sta Z Z.heap "java/lang/String" "COMPACT_STRINGS" "Z" (.int zCS)) (hCS : ¬ (zCS = (0 : Int32))) (hcH : Jvm.Lit.constHeld Z "java/lang/String" 7) (hcW : Jvm.Lit.compactW.before a0 Z = true) :
    MetFree l (⟨"java/lang/Math", "min", "(II)I"⟩ : MethodName) (head1 (Jvm.Cond.code (⟨"java/lang/Math", "min", "(II)I"⟩ : MethodName) jdk_29_method_69_code 2 (some .int) :: ws) ({ frames := 0, cells := 0, slots := 0, locals := 0 } : Room)) (fun aa_ U_ => aa_ = #[(.int (3 : Int32)), (.int (3 : Int32))] ∧ Z.Warmed39 U_.vm ∧ U_.heap = h0) (fun _ _ _ _ _ => True) (fun _ U_ oo_ V_ => ∃ vv_ LL_, oo_ = .returned vv_ ∧ Q_min4_1 Z zCS  h0 n0 vv_ V_.heap LL_ ∧ FrameEnd U_ oo_ V_ LL_ ({ frames := 0, cells := 0, slots := 0, locals := 0 } : Room).cells ({ frames := 0, cells := 0, slots := 0, locals := 0 } : Room).slots) := by
  refine MetFree.of_bodySF (Jvm.Free.JP.mathPlain rfl (by decide +kernel)) hisR ?_
  intro p e s m args below meth c s₁ Bd hml0 hP hK
  obtain ⟨rfl, hZ, hh⟩ := hP
  have hx := Bd.exec
  have hby := Bd.bytes
  have hml : c.maxLocals = 2 := hml0
  have hown : s.vm.findClass "java/lang/Math" = some m.cls := findClass_of_methodNamed Bd.named
  have hnm := (name_of_methodNamed Bd.named Bd.method).1
  have X0 : Stand p l e ({ frames := 0, cells := 0, slots := 0, locals := 0 } : Room) s m #[(.int (3 : Int32)), (.int (3 : Int32))] below meth c s₁ [] 0 0 := Stand.of_body Bd
  have e0 : s₁.heap = h0 := by rw [← hh, Bd.state]; rfl
  have N0 := Fr.nil n0
  have Z0 : n0 ≤ h0.size := O0.1 ▸ O0.2.1
  have hk0 := Nat.zero_le h0.size
  have K0 : Keep h0 h0 [] := Keep.refl _ _
  have R0 : ∀ t, Steps p.tables e below (s₁.setTop (mkF m 0 #[.val (.int (3 : Int32)), .val (.int (3 : Int32))] [])) t → Steps p.tables e below (s₁.setTop (entryFrame m #[(.int (3 : Int32)), (.int (3 : Int32))] 2)) t := fun t k => castTop (ef_min4_1 m ) k
  have R1 : ∀ t, Steps p.tables e below (s₁.setTop (mkF m 10 #[.val (.int (3 : Int32)), .val (.int (3 : Int32))] [(.int (3 : Int32))])) t → Steps p.tables e below (s₁.setTop (entryFrame m #[(.int (3 : Int32)), (.int (3 : Int32))] 2)) t := by
    intro t k
    refine R0 t ?_
    show Steps p.tables e below (s₁.setTop (mkF m 0 #[.val (.int (3 : Int32)), .val (.int (3 : Int32))] [])) t
    refine XS.iloadN X0.here hx rfl (hb hby d19_0) rfl ?_
    show Steps p.tables e below (s₁.setTop (mkF m 1 #[.val (.int (3 : Int32)), .val (.int (3 : Int32))] [(.int (3 : Int32))])) t
    refine XS.iloadN X0.here hx rfl (hb hby d19_1) rfl ?_
    show Steps p.tables e below (s₁.setTop (mkF m 2 #[.val (.int (3 : Int32)), .val (.int (3 : Int32))] [(.int (3 : Int32)), (.int (3 : Int32))])) t
    refine XS.icmpNo X0.here hx rfl (hb hby d19_2) rfl (flt ((by decide) : ¬ ((3 : Int32) < (3 : Int32)))).2.2.1 ?_
    show Steps p.tables e below (s₁.setTop (mkF m 5 #[.val (.int (3 : Int32)), .val (.int (3 : Int32))] [])) t
    refine XS.iloadN X0.here hx rfl (hb hby d19_5) rfl ?_
    show Steps p.tables e below (s₁.setTop (mkF m 6 #[.val (.int (3 : Int32)), .val (.int (3 : Int32))] [(.int (3 : Int32))])) t
    refine XS.goto X0.here hx rfl (pc0 := 6) (pc' := 10) rfl (hb hby d19_6) (by decide) (by decide) ?_
    exact k
  obtain ⟨fs, hr, hrun, hended, hW, hsame⟩ := X0.leave (v := some (.int (3 : Int32))) (fun h => by rw [Bd.returns] at h; cases h)
  refine ⟨_, _, R1 _ ?_, hrun, hended, _, _, rfl, ?_, ⟨_, rfl⟩, hW, hsame.mono (by decide) (by decide)⟩
  · show Steps p.tables e below (s₁.setTop (mkF m 10 #[.val (.int (3 : Int32)), .val (.int (3 : Int32))] [(.int (3 : Int32))])) _
    exact retOut X0 hx Bd.returns rfl (Or.inl ⟨rfl, Or.inl rfl, _, rfl⟩) (hb hby d19_10) hr
  · show Q_min4_1 Z zCS  h0 n0 _ s₁.heap _
    rw [e0]
    exact ⟨rfl, N0, rfl⟩
theorem ef_li3_4_1 (m : MethodId) (tt : Addr) (kb : ClassId) (v0 : Int32) (v1 : Int32) (v2 : Int32) (v3 : Int32) : entryFrame m #[(.ref tt), (.int (46 : Int32)), (.int (3 : Int32))] 4 = mkF m 0 #[.val (.ref tt), .val (.int (46 : Int32)), .val (.int (3 : Int32)), .unset] [] := by first | (simp [entryFrame, mkF, argsToLocals, Value.category]; done) | rfl
def Q_li3_4_1 (Z : State) (zCS : Int32) (tt : Addr) (kb : ClassId) (v0 : Int32) (v1 : Int32) (v2 : Int32) (v3 : Int32) (h0 : Heap) (n0 : Nat) (vv_ : Option Value) (hh_ : Heap) (LL_ : List Loc) : Prop := vv_ = some (.int (1 : Int32)) ∧ (Fr n0 LL_) ∧ (hh_ = h0)
set_option maxRecDepth 65536 in
set_option maxHeartbeats 40000000 in
theorem li3_4_1 (l : Launch) (Z : State) (a0 : Array Value) (hw : ∀ d ∈ tables_1, d.before a0 Z = true) (ws : List Jvm.Cond) (zCS : Int32) (tt : Addr) (kb : ClassId) (v0 : Int32) (v1 : Int32) (v2 : Int32) (v3 : Int32) (h0 : Heap) (n0 : Nat) (O0 : Old Z n0 h0) (S_CS : Sta Z Z.heap "java/lang/String" "COMPACT_STRINGS" "Z" (.int zCS)) (hCS : ¬ (zCS = (0 : Int32))) (hcH : Jvm.Lit.constHeld Z "java/lang/String" 7) (hcW : Jvm.Lit.compactW.before a0 Z = true) (At : Arv Z h0 tt kb .byte (4 : Int32) [(.int v0), (.int v1), (.int v2), (.int v3)] (.int 0)) (hv3 : ¬ (v3 = (46 : Int32))) (hv2 : ¬ (v2 = (46 : Int32))) (hv1 : v1 = (46 : Int32)) :
    MetFree l (⟨"java/lang/StringLatin1", "lastIndexOf", "([BII)I"⟩ : MethodName) (head1 (Jvm.Cond.code (⟨"java/lang/StringLatin1", "lastIndexOf", "([BII)I"⟩ : MethodName) jdk_43_method_27_code 4 (some .int) :: ws) ({ frames := 1, cells := 0, slots := 0, locals := 13 } : Room)) (fun aa_ U_ => aa_ = #[(.ref tt), (.int (46 : Int32)), (.int (3 : Int32))] ∧ Z.Warmed39 U_.vm ∧ U_.heap = h0) (fun _ _ _ _ _ => True) (fun _ U_ oo_ V_ => ∃ vv_ LL_, oo_ = .returned vv_ ∧ Q_li3_4_1 Z zCS tt kb v0 v1 v2 v3 h0 n0 vv_ V_.heap LL_ ∧ FrameEnd U_ oo_ V_ LL_ ({ frames := 1, cells := 0, slots := 0, locals := 13 } : Room).cells ({ frames := 1, cells := 0, slots := 0, locals := 13 } : Room).slots) := by
  refine MetFree.of_bodySF (plainFor_of_name pn_java_lang_StringLatin1) hisR ?_
  intro p e s m args below meth c s₁ Bd hml0 hP hK
  obtain ⟨rfl, hZ, hh⟩ := hP
  have hx := Bd.exec
  have hby := Bd.bytes
  have hml : c.maxLocals = 4 := hml0
  have hown : s.vm.findClass "java/lang/StringLatin1" = some m.cls := findClass_of_methodNamed Bd.named
  have hnm := (name_of_methodNamed Bd.named Bd.method).1
  have X0 : Stand p l e ({ frames := 1, cells := 0, slots := 0, locals := 13 } : Room) s m #[(.ref tt), (.int (46 : Int32)), (.int (3 : Int32))] below meth c s₁ [] 0 0 := Stand.of_body Bd
  have e0 : s₁.heap = h0 := by rw [← hh, Bd.state]; rfl
  have N0 := Fr.nil n0
  have Z0 : n0 ≤ h0.size := O0.1 ▸ O0.2.1
  have hk0 := Nat.zero_le h0.size
  have K0 : Keep h0 h0 [] := Keep.refl _ _
  have R0 : ∀ t, Steps p.tables e below (s₁.setTop (mkF m 0 #[.val (.ref tt), .val (.int (46 : Int32)), .val (.int (3 : Int32)), .unset] [])) t → Steps p.tables e below (s₁.setTop (entryFrame m #[(.ref tt), (.int (46 : Int32)), (.int (3 : Int32))] 4)) t := fun t k => castTop (ef_li3_4_1 m tt kb v0 v1 v2 v3) k
  obtain ⟨_, _, ⟨T1, L1, k1, n1⟩, -, X1, ⟨Lc1, hQ1, cl_1, cy_1, cz_1⟩, st1⟩ := Jvm.LawKit.callS X0 hx (y := (⟨"java/lang/StringLatin1", "canEncode", "(I)Z"⟩ : MethodName)) hown (mvT hZ (hw _ (List.mem_of_getElem? (i := 83) rfl))) (mvT hZ (hw _ (List.mem_of_getElem? (i := 84) rfl))) (mvT hZ (hw _ (List.mem_of_getElem? (i := 81) rfl))) (mvT hZ (hw _ (List.mem_of_getElem? (i := 85) rfl))) (by decide) (backOf (W := 0) (canEnc l Z a0 hw [] zCS  h0 n0 O0 S_CS hCS hcH hcW   ) hZ (hw _ (List.mem_of_getElem? (i := 85) rfl)) (hw _ (List.mem_of_getElem? (i := 81) rfl)) (by decide) (by decide)) (g := (mkF m 1 #[.val (.ref tt), .val (.int (46 : Int32)), .val (.int (3 : Int32)), .unset] [(.int (46 : Int32))])) rfl (by rw [hml]; rfl) (argsL := [(.int (46 : Int32))]) (rest := []) (lenOf pd_2 rfl) rfl (by show 2 * 0 + _ ≤ _; exact Nat.le_of_eq rfl) (hb hby d17_1) (fun _ _ => ⟨rfl, e0, (by decide : 0 + 0 ≤ _), (by decide : 0 + 0 ≤ _)⟩)
  dsimp only [Pt.U, Pt.locs, Pt.cells, Pt.slots] at X1 cl_1 cy_1 cz_1 st1 hQ1
  rw [cl_1, cy_1, cz_1] at X1
  obtain ⟨rfl, N1q, e1⟩ := hQ1
  have N1 := Fr.app N0 N1q
  obtain ⟨cl2, Ar2, -, S2, M2, -, -⟩ := id At
  obtain ⟨_, _, ⟨T3, L3, k3, n3⟩, -, X3, ⟨Lc3, hQ3, cl_3, cy_3, cz_3⟩, st3⟩ := Jvm.LawKit.callS X1 hx (y := (⟨"java/lang/Math", "min", "(II)I"⟩ : MethodName)) hown (mvT hZ (hw _ (List.mem_of_getElem? (i := 86) rfl))) (mvT hZ (hw _ (List.mem_of_getElem? (i := 87) rfl))) (mvT hZ (hw _ (List.mem_of_getElem? (i := 88) rfl))) (mvT hZ (hw _ (List.mem_of_getElem? (i := 89) rfl))) (by decide) (backOf (W := 0) (min4_1 l Z a0 hw [] zCS  h0 n0 O0 S_CS hCS hcH hcW   ) hZ (hw _ (List.mem_of_getElem? (i := 89) rfl)) (hw _ (List.mem_of_getElem? (i := 88) rfl)) (by decide) (by decide)) (g := (mkF m 14 #[.val (.ref tt), .val (.int (46 : Int32)), .val (.int (3 : Int32)), .unset] [(.int (3 : Int32)), (.int (3 : Int32))])) rfl (by rw [hml]; rfl) (argsL := [(.int (3 : Int32)), (.int (3 : Int32))]) (rest := []) (lenOf pd_3 rfl) rfl (by show 2 * 0 + _ ≤ _; exact Nat.le_of_eq rfl) (hb hby d17_14) (fun _ _ => ⟨rfl, e1, (by decide : 0 + 0 ≤ _), (by decide : 0 + 0 ≤ _)⟩)
  dsimp only [Pt.U, Pt.locs, Pt.cells, Pt.slots] at X3 cl_3 cy_3 cz_3 st3 hQ3
  rw [cl_3, cy_3, cz_3] at X3
  obtain ⟨rfl, N3q, e3⟩ := hQ3
  have N3 := Fr.app N1 N3q
  obtain ⟨cl4, Ar4, q4, S4, M4, H4, G4⟩ := id At
  have in4 : ¬ ((3 : Int32) < 0 ∨ cl4.slots.size ≤ ((3 : Int32)).toNatClampNeg) := inb_of S4 ⟨by decide, by decide⟩
  have at4 : cl4.slots[((3 : Int32)).toNatClampNeg]? = some (.int v3) := H4.at in4 rfl
  obtain ⟨cl5, Ar5, q5, S5, M5, H5, G5⟩ := id At
  have in5 : ¬ ((2 : Int32) < 0 ∨ cl5.slots.size ≤ ((2 : Int32)).toNatClampNeg) := inb_of S5 ⟨by decide, by decide⟩
  have at5 : cl5.slots[((2 : Int32)).toNatClampNeg]? = some (.int v2) := H5.at in5 rfl
  obtain ⟨cl6, Ar6, q6, S6, M6, H6, G6⟩ := id At
  have in6 : ¬ ((1 : Int32) < 0 ∨ cl6.slots.size ≤ ((1 : Int32)).toNatClampNeg) := inb_of S6 ⟨by decide, by decide⟩
  have at6 : cl6.slots[((1 : Int32)).toNatClampNeg]? = some (.int v1) := H6.at in6 rfl
  have R7 : ∀ t, Steps p.tables e below (T3.setTop (mkF m 31 #[.val (.ref tt), .val (.int (46 : Int32)), .val (.int (3 : Int32)), .val (.int (1 : Int32))] [(.int (1 : Int32))])) t → Steps p.tables e below (s₁.setTop (entryFrame m #[(.ref tt), (.int (46 : Int32)), (.int (3 : Int32))] 4)) t := by
    intro t k
    refine R0 t ?_
    show Steps p.tables e below (s₁.setTop (mkF m 0 #[.val (.ref tt), .val (.int (46 : Int32)), .val (.int (3 : Int32)), .unset] [])) t
    refine XS.iloadN X0.here hx rfl (hb hby d17_0) rfl ?_
    show Steps p.tables e below (s₁.setTop (mkF m 1 #[.val (.ref tt), .val (.int (46 : Int32)), .val (.int (3 : Int32)), .unset] [(.int (46 : Int32))])) t
    refine st1 _ ?_
    show Steps p.tables e below (T1.setTop (mkF m 4 #[.val (.ref tt), .val (.int (46 : Int32)), .val (.int (3 : Int32)), .unset] [(.int (1 : Int32))])) t
    refine XS.ifYes X1.here hx rfl (pc0 := 4) (pc' := 9) rfl (hb hby d17_4) rfl ((if0 _ _).trans (feq ((by decide) : ¬ ((1 : Int32) = (0 : Int32)))).2) (by decide) (by decide) ?_
    show Steps p.tables e below (T1.setTop (mkF m 9 #[.val (.ref tt), .val (.int (46 : Int32)), .val (.int (3 : Int32)), .unset] [])) t
    refine XS.iloadN X1.here hx rfl (hb hby d17_9) rfl ?_
    show Steps p.tables e below (T1.setTop (mkF m 10 #[.val (.ref tt), .val (.int (46 : Int32)), .val (.int (3 : Int32)), .unset] [(.int (3 : Int32))])) t
    refine XS.aloadN X1.here hx rfl (hb hby d17_10) rfl rfl ?_
    show Steps p.tables e below (T1.setTop (mkF m 11 #[.val (.ref tt), .val (.int (46 : Int32)), .val (.int (3 : Int32)), .unset] [(.ref tt), (.int (3 : Int32))])) t
    refine X1.arraylength hx (by rw [e1]; exact Ar2.1) (State.isArrayOf_alike hZ.alike Ar2.2.1) (g := (mkF m 11 #[.val (.ref tt), .val (.int (46 : Int32)), .val (.int (3 : Int32)), .unset] [(.ref tt), (.int (3 : Int32))])) rfl rfl (hb hby d17_11) _ ?_
    rw [len_of S2 M2]
    show Steps p.tables e below (T1.setTop (mkF m 12 #[.val (.ref tt), .val (.int (46 : Int32)), .val (.int (3 : Int32)), .unset] [(.int (4 : Int32)), (.int (3 : Int32))])) t
    refine XS.iconst X1.here hx rfl (hb hby d17_12) ?_
    show Steps p.tables e below (T1.setTop (mkF m 13 #[.val (.ref tt), .val (.int (46 : Int32)), .val (.int (3 : Int32)), .unset] [(.int (1 : Int32)), (.int (4 : Int32)), (.int (3 : Int32))])) t
    refine XS.isub X1.here hx rfl (hb hby d17_13) rfl ?_
    show Steps p.tables e below (T1.setTop (mkF m 14 #[.val (.ref tt), .val (.int (46 : Int32)), .val (.int (3 : Int32)), .unset] [(.int ((4 : Int32) - (1 : Int32))), (.int (3 : Int32))])) t
    rw [show ((4 : Int32) - (1 : Int32)) = (3 : Int32) from by decide]
    show Steps p.tables e below (T1.setTop (mkF m 14 #[.val (.ref tt), .val (.int (46 : Int32)), .val (.int (3 : Int32)), .unset] [(.int (3 : Int32)), (.int (3 : Int32))])) t
    refine st3 _ ?_
    show Steps p.tables e below (T3.setTop (mkF m 17 #[.val (.ref tt), .val (.int (46 : Int32)), .val (.int (3 : Int32)), .unset] [(.int (3 : Int32))])) t
    refine XS.istoreN X3.here hx rfl (hb hby d17_17) rfl (l' := #[.val (.ref tt), .val (.int (46 : Int32)), .val (.int (3 : Int32)), .val (.int (3 : Int32))]) rfl ?_
    show Steps p.tables e below (T3.setTop (mkF m 18 #[.val (.ref tt), .val (.int (46 : Int32)), .val (.int (3 : Int32)), .val (.int (3 : Int32))] [])) t
    refine XS.iloadN X3.here hx rfl (hb hby d17_18) rfl ?_
    show Steps p.tables e below (T3.setTop (mkF m 19 #[.val (.ref tt), .val (.int (46 : Int32)), .val (.int (3 : Int32)), .val (.int (3 : Int32))] [(.int (3 : Int32))])) t
    refine XS.ifNo X3.here hx rfl (hb hby d17_19) rfl ((if0 _ _).trans (flt ((by decide) : ¬ ((3 : Int32) < (0 : Int32)))).1) ?_
    show Steps p.tables e below (T3.setTop (mkF m 22 #[.val (.ref tt), .val (.int (46 : Int32)), .val (.int (3 : Int32)), .val (.int (3 : Int32))] [])) t
    refine XS.aloadN X3.here hx rfl (hb hby d17_22) rfl rfl ?_
    show Steps p.tables e below (T3.setTop (mkF m 23 #[.val (.ref tt), .val (.int (46 : Int32)), .val (.int (3 : Int32)), .val (.int (3 : Int32))] [(.ref tt)])) t
    refine XS.iloadN X3.here hx rfl (hb hby d17_23) rfl ?_
    show Steps p.tables e below (T3.setTop (mkF m 24 #[.val (.ref tt), .val (.int (46 : Int32)), .val (.int (3 : Int32)), .val (.int (3 : Int32))] [(.int (3 : Int32)), (.ref tt)])) t
    refine X3.baloadBytes hx (j := (3 : Int32)) (v := (.int v3)) (by rw [e3]; exact Ar4.1) (State.isArrayOf_alike hZ.alike Ar4.2.1) Ar4.2.2 in4 at4 (g := (mkF m 24 #[.val (.ref tt), .val (.int (46 : Int32)), .val (.int (3 : Int32)), .val (.int (3 : Int32))] [(.int (3 : Int32)), (.ref tt)])) rfl rfl (hb hby d17_24) _ ?_
    show Steps p.tables e below (T3.setTop (mkF m 25 #[.val (.ref tt), .val (.int (46 : Int32)), .val (.int (3 : Int32)), .val (.int (3 : Int32))] [(.int v3)])) t
    refine XS.iloadN X3.here hx rfl (hb hby d17_25) rfl ?_
    show Steps p.tables e below (T3.setTop (mkF m 26 #[.val (.ref tt), .val (.int (46 : Int32)), .val (.int (3 : Int32)), .val (.int (3 : Int32))] [(.int (46 : Int32)), (.int v3)])) t
    refine XS.i2b X3.here hx rfl (hb hby d17_26) rfl ?_
    show Steps p.tables e below (T3.setTop (mkF m 27 #[.val (.ref tt), .val (.int (46 : Int32)), .val (.int (3 : Int32)), .val (.int (3 : Int32))] [(.int ((46 : Int32).toInt8.toInt32)), (.int v3)])) t
    rw [show ((46 : Int32).toInt8.toInt32) = (46 : Int32) from by decide]
    show Steps p.tables e below (T3.setTop (mkF m 27 #[.val (.ref tt), .val (.int (46 : Int32)), .val (.int (3 : Int32)), .val (.int (3 : Int32))] [(.int (46 : Int32)), (.int v3)])) t
    refine XS.icmpYes X3.here hx rfl (pc0 := 27) (pc' := 32) rfl (hb hby d17_27) rfl (feq (hv3 : ¬ (v3 = (46 : Int32)))).2 (by decide) (by decide) ?_
    show Steps p.tables e below (T3.setTop (mkF m 32 #[.val (.ref tt), .val (.int (46 : Int32)), .val (.int (3 : Int32)), .val (.int (3 : Int32))] [])) t
    refine XS.iinc X3.here hx rfl (hb hby d17_32) rfl (l' := #[.val (.ref tt), .val (.int (46 : Int32)), .val (.int (3 : Int32)), .val (.int (2 : Int32))]) rfl ?_
    show Steps p.tables e below (T3.setTop (mkF m 35 #[.val (.ref tt), .val (.int (46 : Int32)), .val (.int (3 : Int32)), .val (.int (2 : Int32))] [])) t
    refine XS.goto X3.here hx rfl (pc0 := 35) (pc' := 18) rfl (hb hby d17_35) (by decide) (by decide) ?_
    show Steps p.tables e below (T3.setTop (mkF m 18 #[.val (.ref tt), .val (.int (46 : Int32)), .val (.int (3 : Int32)), .val (.int (2 : Int32))] [])) t
    refine XS.iloadN X3.here hx rfl (hb hby d17_18) rfl ?_
    show Steps p.tables e below (T3.setTop (mkF m 19 #[.val (.ref tt), .val (.int (46 : Int32)), .val (.int (3 : Int32)), .val (.int (2 : Int32))] [(.int (2 : Int32))])) t
    refine XS.ifNo X3.here hx rfl (hb hby d17_19) rfl ((if0 _ _).trans (flt ((by decide) : ¬ ((2 : Int32) < (0 : Int32)))).1) ?_
    show Steps p.tables e below (T3.setTop (mkF m 22 #[.val (.ref tt), .val (.int (46 : Int32)), .val (.int (3 : Int32)), .val (.int (2 : Int32))] [])) t
    refine XS.aloadN X3.here hx rfl (hb hby d17_22) rfl rfl ?_
    show Steps p.tables e below (T3.setTop (mkF m 23 #[.val (.ref tt), .val (.int (46 : Int32)), .val (.int (3 : Int32)), .val (.int (2 : Int32))] [(.ref tt)])) t
    refine XS.iloadN X3.here hx rfl (hb hby d17_23) rfl ?_
    show Steps p.tables e below (T3.setTop (mkF m 24 #[.val (.ref tt), .val (.int (46 : Int32)), .val (.int (3 : Int32)), .val (.int (2 : Int32))] [(.int (2 : Int32)), (.ref tt)])) t
    refine X3.baloadBytes hx (j := (2 : Int32)) (v := (.int v2)) (by rw [e3]; exact Ar5.1) (State.isArrayOf_alike hZ.alike Ar5.2.1) Ar5.2.2 in5 at5 (g := (mkF m 24 #[.val (.ref tt), .val (.int (46 : Int32)), .val (.int (3 : Int32)), .val (.int (2 : Int32))] [(.int (2 : Int32)), (.ref tt)])) rfl rfl (hb hby d17_24) _ ?_
    show Steps p.tables e below (T3.setTop (mkF m 25 #[.val (.ref tt), .val (.int (46 : Int32)), .val (.int (3 : Int32)), .val (.int (2 : Int32))] [(.int v2)])) t
    refine XS.iloadN X3.here hx rfl (hb hby d17_25) rfl ?_
    show Steps p.tables e below (T3.setTop (mkF m 26 #[.val (.ref tt), .val (.int (46 : Int32)), .val (.int (3 : Int32)), .val (.int (2 : Int32))] [(.int (46 : Int32)), (.int v2)])) t
    refine XS.i2b X3.here hx rfl (hb hby d17_26) rfl ?_
    show Steps p.tables e below (T3.setTop (mkF m 27 #[.val (.ref tt), .val (.int (46 : Int32)), .val (.int (3 : Int32)), .val (.int (2 : Int32))] [(.int ((46 : Int32).toInt8.toInt32)), (.int v2)])) t
    rw [show ((46 : Int32).toInt8.toInt32) = (46 : Int32) from by decide]
    show Steps p.tables e below (T3.setTop (mkF m 27 #[.val (.ref tt), .val (.int (46 : Int32)), .val (.int (3 : Int32)), .val (.int (2 : Int32))] [(.int (46 : Int32)), (.int v2)])) t
    refine XS.icmpYes X3.here hx rfl (pc0 := 27) (pc' := 32) rfl (hb hby d17_27) rfl (feq (hv2 : ¬ (v2 = (46 : Int32)))).2 (by decide) (by decide) ?_
    show Steps p.tables e below (T3.setTop (mkF m 32 #[.val (.ref tt), .val (.int (46 : Int32)), .val (.int (3 : Int32)), .val (.int (2 : Int32))] [])) t
    refine XS.iinc X3.here hx rfl (hb hby d17_32) rfl (l' := #[.val (.ref tt), .val (.int (46 : Int32)), .val (.int (3 : Int32)), .val (.int (1 : Int32))]) rfl ?_
    show Steps p.tables e below (T3.setTop (mkF m 35 #[.val (.ref tt), .val (.int (46 : Int32)), .val (.int (3 : Int32)), .val (.int (1 : Int32))] [])) t
    refine XS.goto X3.here hx rfl (pc0 := 35) (pc' := 18) rfl (hb hby d17_35) (by decide) (by decide) ?_
    show Steps p.tables e below (T3.setTop (mkF m 18 #[.val (.ref tt), .val (.int (46 : Int32)), .val (.int (3 : Int32)), .val (.int (1 : Int32))] [])) t
    refine XS.iloadN X3.here hx rfl (hb hby d17_18) rfl ?_
    show Steps p.tables e below (T3.setTop (mkF m 19 #[.val (.ref tt), .val (.int (46 : Int32)), .val (.int (3 : Int32)), .val (.int (1 : Int32))] [(.int (1 : Int32))])) t
    refine XS.ifNo X3.here hx rfl (hb hby d17_19) rfl ((if0 _ _).trans (flt ((by decide) : ¬ ((1 : Int32) < (0 : Int32)))).1) ?_
    show Steps p.tables e below (T3.setTop (mkF m 22 #[.val (.ref tt), .val (.int (46 : Int32)), .val (.int (3 : Int32)), .val (.int (1 : Int32))] [])) t
    refine XS.aloadN X3.here hx rfl (hb hby d17_22) rfl rfl ?_
    show Steps p.tables e below (T3.setTop (mkF m 23 #[.val (.ref tt), .val (.int (46 : Int32)), .val (.int (3 : Int32)), .val (.int (1 : Int32))] [(.ref tt)])) t
    refine XS.iloadN X3.here hx rfl (hb hby d17_23) rfl ?_
    show Steps p.tables e below (T3.setTop (mkF m 24 #[.val (.ref tt), .val (.int (46 : Int32)), .val (.int (3 : Int32)), .val (.int (1 : Int32))] [(.int (1 : Int32)), (.ref tt)])) t
    refine X3.baloadBytes hx (j := (1 : Int32)) (v := (.int v1)) (by rw [e3]; exact Ar6.1) (State.isArrayOf_alike hZ.alike Ar6.2.1) Ar6.2.2 in6 at6 (g := (mkF m 24 #[.val (.ref tt), .val (.int (46 : Int32)), .val (.int (3 : Int32)), .val (.int (1 : Int32))] [(.int (1 : Int32)), (.ref tt)])) rfl rfl (hb hby d17_24) _ ?_
    show Steps p.tables e below (T3.setTop (mkF m 25 #[.val (.ref tt), .val (.int (46 : Int32)), .val (.int (3 : Int32)), .val (.int (1 : Int32))] [(.int v1)])) t
    refine XS.iloadN X3.here hx rfl (hb hby d17_25) rfl ?_
    show Steps p.tables e below (T3.setTop (mkF m 26 #[.val (.ref tt), .val (.int (46 : Int32)), .val (.int (3 : Int32)), .val (.int (1 : Int32))] [(.int (46 : Int32)), (.int v1)])) t
    refine XS.i2b X3.here hx rfl (hb hby d17_26) rfl ?_
    show Steps p.tables e below (T3.setTop (mkF m 27 #[.val (.ref tt), .val (.int (46 : Int32)), .val (.int (3 : Int32)), .val (.int (1 : Int32))] [(.int ((46 : Int32).toInt8.toInt32)), (.int v1)])) t
    rw [show ((46 : Int32).toInt8.toInt32) = (46 : Int32) from by decide]
    show Steps p.tables e below (T3.setTop (mkF m 27 #[.val (.ref tt), .val (.int (46 : Int32)), .val (.int (3 : Int32)), .val (.int (1 : Int32))] [(.int (46 : Int32)), (.int v1)])) t
    refine XS.icmpNo X3.here hx rfl (hb hby d17_27) rfl (teq (hv1 : v1 = (46 : Int32))).2 ?_
    show Steps p.tables e below (T3.setTop (mkF m 30 #[.val (.ref tt), .val (.int (46 : Int32)), .val (.int (3 : Int32)), .val (.int (1 : Int32))] [])) t
    refine XS.iloadN X3.here hx rfl (hb hby d17_30) rfl ?_
    exact k
  obtain ⟨fs, hr, hrun, hended, hW, hsame⟩ := X3.leave (v := some (.int (1 : Int32))) (fun h => by rw [Bd.returns] at h; cases h)
  refine ⟨_, _, R7 _ ?_, hrun, hended, _, _, rfl, ?_, ⟨_, rfl⟩, hW, hsame.mono (by decide) (by decide)⟩
  · show Steps p.tables e below (T3.setTop (mkF m 31 #[.val (.ref tt), .val (.int (46 : Int32)), .val (.int (3 : Int32)), .val (.int (1 : Int32))] [(.int (1 : Int32))])) _
    exact retOut X3 hx Bd.returns rfl (Or.inl ⟨rfl, Or.inl rfl, _, rfl⟩) (hb hby d17_31) hr
  · show Q_li3_4_1 Z zCS tt kb v0 v1 v2 v3 h0 n0 _ T3.heap _
    rw [e3]
    exact ⟨rfl, N3, rfl⟩
theorem ef_li2_4_1 (m : MethodId) (a : Addr) (tt : Addr) (kb : ClassId) (v0 : Int32) (v1 : Int32) (v2 : Int32) (v3 : Int32) : entryFrame m #[(.ref a), (.int (46 : Int32)), (.int (3 : Int32))] 3 = mkF m 0 #[.val (.ref a), .val (.int (46 : Int32)), .val (.int (3 : Int32))] [] := by first | (simp [entryFrame, mkF, argsToLocals, Value.category]; done) | rfl
def Q_li2_4_1 (Z : State) (zCS : Int32) (a : Addr) (tt : Addr) (kb : ClassId) (v0 : Int32) (v1 : Int32) (v2 : Int32) (v3 : Int32) (h0 : Heap) (n0 : Nat) (vv_ : Option Value) (hh_ : Heap) (LL_ : List Loc) : Prop := vv_ = some (.int (1 : Int32)) ∧ (Fr n0 LL_) ∧ (hh_ = h0)
set_option maxRecDepth 65536 in
set_option maxHeartbeats 40000000 in
theorem li2_4_1 (l : Launch) (Z : State) (a0 : Array Value) (hw : ∀ d ∈ tables_1, d.before a0 Z = true) (ws : List Jvm.Cond) (zCS : Int32) (a : Addr) (tt : Addr) (kb : ClassId) (v0 : Int32) (v1 : Int32) (v2 : Int32) (v3 : Int32) (h0 : Heap) (n0 : Nat) (O0 : Old Z n0 h0) (S_CS : Sta Z Z.heap "java/lang/String" "COMPACT_STRINGS" "Z" (.int zCS)) (hCS : ¬ (zCS = (0 : Int32))) (hcH : Jvm.Lit.constHeld Z "java/lang/String" 7) (hcW : Jvm.Lit.compactW.before a0 Z = true) (Ea : Exa Z h0 a "java/lang/String") (Fc : Fld Z h0 a "java/lang/String" "coder" "B" (.int (0 : Int32))) (Fv : Fld Z h0 a "java/lang/String" "value" "[B" (.ref tt)) (At : Arv Z h0 tt kb .byte (4 : Int32) [(.int v0), (.int v1), (.int v2), (.int v3)] (.int 0)) (hv3 : ¬ (v3 = (46 : Int32))) (hv2 : ¬ (v2 = (46 : Int32))) (hv1 : v1 = (46 : Int32)) :
    MetFree l (⟨"java/lang/String", "lastIndexOf", "(II)I"⟩ : MethodName) (head1 (Jvm.Cond.code (⟨"java/lang/String", "lastIndexOf", "(II)I"⟩ : MethodName) jdk_42_method_83_code 3 (some .int) :: ws) ({ frames := 2, cells := 0, slots := 0, locals := 28 } : Room)) (fun aa_ U_ => aa_ = #[(.ref a), (.int (46 : Int32)), (.int (3 : Int32))] ∧ Z.Warmed39 U_.vm ∧ U_.heap = h0) (fun _ _ _ _ _ => True) (fun _ U_ oo_ V_ => ∃ vv_ LL_, oo_ = .returned vv_ ∧ Q_li2_4_1 Z zCS a tt kb v0 v1 v2 v3 h0 n0 vv_ V_.heap LL_ ∧ FrameEnd U_ oo_ V_ LL_ ({ frames := 2, cells := 0, slots := 0, locals := 28 } : Room).cells ({ frames := 2, cells := 0, slots := 0, locals := 28 } : Room).slots) := by
  refine MetFree.of_bodySF (plainFor_of_name pn_java_lang_String) hisR ?_
  intro p e s m args below meth c s₁ Bd hml0 hP hK
  obtain ⟨rfl, hZ, hh⟩ := hP
  have hx := Bd.exec
  have hby := Bd.bytes
  have hml : c.maxLocals = 3 := hml0
  have hown : s.vm.findClass "java/lang/String" = some m.cls := findClass_of_methodNamed Bd.named
  have hnm := (name_of_methodNamed Bd.named Bd.method).1
  have X0 : Stand p l e ({ frames := 2, cells := 0, slots := 0, locals := 28 } : Room) s m #[(.ref a), (.int (46 : Int32)), (.int (3 : Int32))] below meth c s₁ [] 0 0 := Stand.of_body Bd
  have e0 : s₁.heap = h0 := by rw [← hh, Bd.state]; rfl
  have N0 := Fr.nil n0
  have Z0 : n0 ≤ h0.size := O0.1 ▸ O0.2.1
  have hk0 := Nat.zero_le h0.size
  have K0 : Keep h0 h0 [] := Keep.refl _ _
  have R0 : ∀ t, Steps p.tables e below (s₁.setTop (mkF m 0 #[.val (.ref a), .val (.int (46 : Int32)), .val (.int (3 : Int32))] [])) t → Steps p.tables e below (s₁.setTop (entryFrame m #[(.ref a), (.int (46 : Int32)), (.int (3 : Int32))] 3)) t := fun t k => castTop (ef_li2_4_1 m a tt kb v0 v1 v2 v3) k
  obtain ⟨cq1, kq1, q1a, q1b, q1c⟩ := isOf hZ e0 Ea
  obtain ⟨_, _, ⟨T1, L1, k1, n1⟩, -, X1, ⟨Lc1, hQ1, cl_1, cy_1, cz_1⟩, st1⟩ := X0.virtualBack hx (y := (⟨"java/lang/String", "isLatin1", "()Z"⟩ : MethodName)) (z := (⟨"java/lang/String", "isLatin1", "()Z"⟩ : MethodName)) hown (mvT hZ (hw _ (List.mem_of_getElem? (i := 74) rfl))) (mvT hZ (hw _ (List.mem_of_getElem? (i := 75) rfl))) (notFace_of_selects (args := #[]) (mvT hZ (hw _ (List.mem_of_getElem? (i := 77) rfl)))) (mvT hZ (hw _ (List.mem_of_getElem? (i := 77) rfl))) (mvT hZ (hw _ (List.mem_of_getElem? (i := 76) rfl))) (by decide) (backOf (W := 0) (isLat l Z a0 hw [] zCS a h0 n0 O0 S_CS hCS hcH hcW   Ea Fc) hZ (hw _ (List.mem_of_getElem? (i := 78) rfl)) (hw _ (List.mem_of_getElem? (i := 10) rfl)) (by decide) (by decide)) q1a q1c (g := (mkF m 1 #[.val (.ref a), .val (.int (46 : Int32)), .val (.int (3 : Int32))] [(.ref a)])) rfl (by rw [hml]; rfl) (Steps.refl _) (argsL := []) (rest := []) (lenOf pd_4 rfl) rfl (by show 2 * 0 + _ ≤ _; exact Nat.le_of_eq rfl) (hb hby d15_1) (fun _ _ => ⟨rfl, e0, (by decide : 0 + 0 ≤ _), (by decide : 0 + 0 ≤ _)⟩)
  dsimp only [Pt.U, Pt.locs, Pt.cells, Pt.slots] at X1 cl_1 cy_1 cz_1 st1 hQ1
  rw [cl_1, cy_1, cz_1] at X1
  obtain ⟨rfl, N1q, e1⟩ := hQ1
  have N1 := Fr.app N0 N1q
  obtain ⟨T2, X2, e2, st2⟩ := getF X1 hx hZ hown (host := "") (Or.inl (hw _ (List.mem_of_getElem? (i := 28) rfl))) Via.refl e1 Fv (g := (mkF m 8 #[.val (.ref a), .val (.int (46 : Int32)), .val (.int (3 : Int32))] [(.ref a)])) rfl rfl (hb hby d15_8)
  obtain ⟨_, _, ⟨T3, L3, k3, n3⟩, -, X3, ⟨Lc3, hQ3, cl_3, cy_3, cz_3⟩, st3⟩ := Jvm.LawKit.callS X2 hx (y := (⟨"java/lang/StringLatin1", "lastIndexOf", "([BII)I"⟩ : MethodName)) hown (mvT hZ (hw _ (List.mem_of_getElem? (i := 79) rfl))) (mvT hZ (hw _ (List.mem_of_getElem? (i := 80) rfl))) (mvT hZ (hw _ (List.mem_of_getElem? (i := 81) rfl))) (mvT hZ (hw _ (List.mem_of_getElem? (i := 82) rfl))) (by decide) (backOf (W := 0) (li3_4_1 l Z a0 hw [] zCS tt kb v0 v1 v2 v3 h0 n0 O0 S_CS hCS hcH hcW   At hv3 hv2 hv1) hZ (hw _ (List.mem_of_getElem? (i := 82) rfl)) (hw _ (List.mem_of_getElem? (i := 81) rfl)) (by decide) (by decide)) (g := (mkF m 13 #[.val (.ref a), .val (.int (46 : Int32)), .val (.int (3 : Int32))] [(.int (3 : Int32)), (.int (46 : Int32)), (.ref tt)])) rfl (by rw [hml]; rfl) (argsL := [(.ref tt), (.int (46 : Int32)), (.int (3 : Int32))]) (rest := []) (lenOf pd_5 rfl) rfl (by show 2 * 0 + _ ≤ _; exact Nat.le_of_eq rfl) (hb hby d15_13) (fun _ _ => ⟨rfl, e2, (by decide : 0 + 0 ≤ _), (by decide : 0 + 0 ≤ _)⟩)
  dsimp only [Pt.U, Pt.locs, Pt.cells, Pt.slots] at X3 cl_3 cy_3 cz_3 st3 hQ3
  rw [cl_3, cy_3, cz_3] at X3
  obtain ⟨rfl, N3q, e3⟩ := hQ3
  have N3 := Fr.app N1 N3q
  have R4 : ∀ t, Steps p.tables e below (T3.setTop (mkF m 28 #[.val (.ref a), .val (.int (46 : Int32)), .val (.int (3 : Int32))] [(.int (1 : Int32))])) t → Steps p.tables e below (s₁.setTop (entryFrame m #[(.ref a), (.int (46 : Int32)), (.int (3 : Int32))] 3)) t := by
    intro t k
    refine R0 t ?_
    show Steps p.tables e below (s₁.setTop (mkF m 0 #[.val (.ref a), .val (.int (46 : Int32)), .val (.int (3 : Int32))] [])) t
    refine XS.aloadN X0.here hx rfl (hb hby d15_0) rfl rfl ?_
    show Steps p.tables e below (s₁.setTop (mkF m 1 #[.val (.ref a), .val (.int (46 : Int32)), .val (.int (3 : Int32))] [(.ref a)])) t
    refine st1.trans ?_
    show Steps p.tables e below (T1.setTop (mkF m 4 #[.val (.ref a), .val (.int (46 : Int32)), .val (.int (3 : Int32))] [(.int (1 : Int32))])) t
    refine XS.ifNo X1.here hx rfl (hb hby d15_4) rfl ((if0 _ _).trans (feq ((by decide) : ¬ ((1 : Int32) = (0 : Int32)))).1) ?_
    show Steps p.tables e below (T1.setTop (mkF m 7 #[.val (.ref a), .val (.int (46 : Int32)), .val (.int (3 : Int32))] [])) t
    refine XS.aloadN X1.here hx rfl (hb hby d15_7) rfl rfl ?_
    show Steps p.tables e below (T1.setTop (mkF m 8 #[.val (.ref a), .val (.int (46 : Int32)), .val (.int (3 : Int32))] [(.ref a)])) t
    refine st2 _ ?_
    show Steps p.tables e below (T2.setTop (mkF m 11 #[.val (.ref a), .val (.int (46 : Int32)), .val (.int (3 : Int32))] [(.ref tt)])) t
    refine XS.iloadN X2.here hx rfl (hb hby d15_11) rfl ?_
    show Steps p.tables e below (T2.setTop (mkF m 12 #[.val (.ref a), .val (.int (46 : Int32)), .val (.int (3 : Int32))] [(.int (46 : Int32)), (.ref tt)])) t
    refine XS.iloadN X2.here hx rfl (hb hby d15_12) rfl ?_
    show Steps p.tables e below (T2.setTop (mkF m 13 #[.val (.ref a), .val (.int (46 : Int32)), .val (.int (3 : Int32))] [(.int (3 : Int32)), (.int (46 : Int32)), (.ref tt)])) t
    refine st3 _ ?_
    show Steps p.tables e below (T3.setTop (mkF m 16 #[.val (.ref a), .val (.int (46 : Int32)), .val (.int (3 : Int32))] [(.int (1 : Int32))])) t
    refine XS.goto X3.here hx rfl (pc0 := 16) (pc' := 28) rfl (hb hby d15_16) (by decide) (by decide) ?_
    exact k
  obtain ⟨fs, hr, hrun, hended, hW, hsame⟩ := X3.leave (v := some (.int (1 : Int32))) (fun h => by rw [Bd.returns] at h; cases h)
  refine ⟨_, _, R4 _ ?_, hrun, hended, _, _, rfl, ?_, ⟨_, rfl⟩, hW, hsame.mono (by decide) (by decide)⟩
  · show Steps p.tables e below (T3.setTop (mkF m 28 #[.val (.ref a), .val (.int (46 : Int32)), .val (.int (3 : Int32))] [(.int (1 : Int32))])) _
    exact retOut X3 hx Bd.returns rfl (Or.inl ⟨rfl, Or.inl rfl, _, rfl⟩) (hb hby d15_28) hr
  · show Q_li2_4_1 Z zCS a tt kb v0 v1 v2 v3 h0 n0 _ T3.heap _
    rw [e3]
    exact ⟨rfl, N3, rfl⟩
theorem ef_slen4_1 (m : MethodId) (a : Addr) (tt : Addr) (kb : ClassId) (v0 : Int32) (v1 : Int32) (v2 : Int32) (v3 : Int32) : entryFrame m #[(.ref a)] 1 = mkF m 0 #[.val (.ref a)] [] := by first | (simp [entryFrame, mkF, argsToLocals, Value.category]; done) | rfl
def Q_slen4_1 (Z : State) (zCS : Int32) (a : Addr) (tt : Addr) (kb : ClassId) (v0 : Int32) (v1 : Int32) (v2 : Int32) (v3 : Int32) (h0 : Heap) (n0 : Nat) (vv_ : Option Value) (hh_ : Heap) (LL_ : List Loc) : Prop := vv_ = some (.int (4 : Int32)) ∧ (Fr n0 LL_) ∧ (hh_ = h0)
set_option maxRecDepth 65536 in
set_option maxHeartbeats 40000000 in
theorem slen4_1 (l : Launch) (Z : State) (a0 : Array Value) (hw : ∀ d ∈ tables_1, d.before a0 Z = true) (ws : List Jvm.Cond) (zCS : Int32) (a : Addr) (tt : Addr) (kb : ClassId) (v0 : Int32) (v1 : Int32) (v2 : Int32) (v3 : Int32) (h0 : Heap) (n0 : Nat) (O0 : Old Z n0 h0) (S_CS : Sta Z Z.heap "java/lang/String" "COMPACT_STRINGS" "Z" (.int zCS)) (hCS : ¬ (zCS = (0 : Int32))) (hcH : Jvm.Lit.constHeld Z "java/lang/String" 7) (hcW : Jvm.Lit.compactW.before a0 Z = true) (Ea : Exa Z h0 a "java/lang/String") (Fc : Fld Z h0 a "java/lang/String" "coder" "B" (.int (0 : Int32))) (Fv : Fld Z h0 a "java/lang/String" "value" "[B" (.ref tt)) (At : Arv Z h0 tt kb .byte (4 : Int32) [(.int v0), (.int v1), (.int v2), (.int v3)] (.int 0)) :
    MetFree l (⟨"java/lang/String", "length", "()I"⟩ : MethodName) (head1 (Jvm.Cond.code (⟨"java/lang/String", "length", "()I"⟩ : MethodName) jdk_42_method_54_code 1 (some .int) :: ws) ({ frames := 1, cells := 0, slots := 0, locals := 13 } : Room)) (fun aa_ U_ => aa_ = #[(.ref a)] ∧ Z.Warmed39 U_.vm ∧ U_.heap = h0) (fun _ _ _ _ _ => True) (fun _ U_ oo_ V_ => ∃ vv_ LL_, oo_ = .returned vv_ ∧ Q_slen4_1 Z zCS a tt kb v0 v1 v2 v3 h0 n0 vv_ V_.heap LL_ ∧ FrameEnd U_ oo_ V_ LL_ ({ frames := 1, cells := 0, slots := 0, locals := 13 } : Room).cells ({ frames := 1, cells := 0, slots := 0, locals := 13 } : Room).slots) := by
  refine MetFree.of_bodySF (plainFor_of_name pn_java_lang_String) hisR ?_
  intro p e s m args below meth c s₁ Bd hml0 hP hK
  obtain ⟨rfl, hZ, hh⟩ := hP
  have hx := Bd.exec
  have hby := Bd.bytes
  have hml : c.maxLocals = 1 := hml0
  have hown : s.vm.findClass "java/lang/String" = some m.cls := findClass_of_methodNamed Bd.named
  have hnm := (name_of_methodNamed Bd.named Bd.method).1
  have X0 : Stand p l e ({ frames := 1, cells := 0, slots := 0, locals := 13 } : Room) s m #[(.ref a)] below meth c s₁ [] 0 0 := Stand.of_body Bd
  have e0 : s₁.heap = h0 := by rw [← hh, Bd.state]; rfl
  have N0 := Fr.nil n0
  have Z0 : n0 ≤ h0.size := O0.1 ▸ O0.2.1
  have hk0 := Nat.zero_le h0.size
  have K0 : Keep h0 h0 [] := Keep.refl _ _
  have R0 : ∀ t, Steps p.tables e below (s₁.setTop (mkF m 0 #[.val (.ref a)] [])) t → Steps p.tables e below (s₁.setTop (entryFrame m #[(.ref a)] 1)) t := fun t k => castTop (ef_slen4_1 m a tt kb v0 v1 v2 v3) k
  obtain ⟨T1, X1, e1, st1⟩ := getF X0 hx hZ hown (host := "") (Or.inl (hw _ (List.mem_of_getElem? (i := 28) rfl))) Via.refl e0 Fv (g := (mkF m 1 #[.val (.ref a)] [(.ref a)])) rfl rfl (hb hby d13_1)
  obtain ⟨cl2, Ar2, -, S2, M2, -, -⟩ := id At
  obtain ⟨cq3, kq3, q3a, q3b, q3c⟩ := isOf hZ e1 Ea
  obtain ⟨_, _, ⟨T3, L3, k3, n3⟩, -, X3, ⟨Lc3, hQ3, cl_3, cy_3, cz_3⟩, st3⟩ := X1.virtualBack hx (y := (⟨"java/lang/String", "coder", "()B"⟩ : MethodName)) (z := (⟨"java/lang/String", "coder", "()B"⟩ : MethodName)) hown (mvT hZ (hw _ (List.mem_of_getElem? (i := 64) rfl))) (mvT hZ (hw _ (List.mem_of_getElem? (i := 65) rfl))) (notFace_of_selects (args := #[]) (mvT hZ (hw _ (List.mem_of_getElem? (i := 67) rfl)))) (mvT hZ (hw _ (List.mem_of_getElem? (i := 67) rfl))) (mvT hZ (hw _ (List.mem_of_getElem? (i := 66) rfl))) (by decide) (backOf (W := 1) (coder l Z a0 hw [] zCS a h0 n0 O0 S_CS hCS hcH hcW   Ea Fc) hZ (hw _ (List.mem_of_getElem? (i := 68) rfl)) (hw _ (List.mem_of_getElem? (i := 10) rfl)) (by decide) (by decide)) q3a q3c (g := (mkF m 6 #[.val (.ref a)] [(.ref a), (.int (4 : Int32))])) rfl (by rw [hml]; rfl) (Steps.refl _) (argsL := []) (rest := [(.int (4 : Int32))]) (lenOf pd_6 rfl) rfl (by show 2 * 0 + _ ≤ _; exact Nat.le_of_eq rfl) (hb hby d13_6) (fun _ _ => ⟨rfl, e1, (by decide : 0 + 0 ≤ _), (by decide : 0 + 0 ≤ _)⟩)
  dsimp only [Pt.U, Pt.locs, Pt.cells, Pt.slots] at X3 cl_3 cy_3 cz_3 st3 hQ3
  rw [cl_3, cy_3, cz_3] at X3
  obtain ⟨rfl, N3q, e3⟩ := hQ3
  have N3 := Fr.app N0 N3q
  have R4 : ∀ t, Steps p.tables e below (T3.setTop (mkF m 10 #[.val (.ref a)] [(.int (4 : Int32))])) t → Steps p.tables e below (s₁.setTop (entryFrame m #[(.ref a)] 1)) t := by
    intro t k
    refine R0 t ?_
    show Steps p.tables e below (s₁.setTop (mkF m 0 #[.val (.ref a)] [])) t
    refine XS.aloadN X0.here hx rfl (hb hby d13_0) rfl rfl ?_
    show Steps p.tables e below (s₁.setTop (mkF m 1 #[.val (.ref a)] [(.ref a)])) t
    refine st1 _ ?_
    show Steps p.tables e below (T1.setTop (mkF m 4 #[.val (.ref a)] [(.ref tt)])) t
    refine X1.arraylength hx (by rw [e1]; exact Ar2.1) (State.isArrayOf_alike hZ.alike Ar2.2.1) (g := (mkF m 4 #[.val (.ref a)] [(.ref tt)])) rfl rfl (hb hby d13_4) _ ?_
    rw [len_of S2 M2]
    show Steps p.tables e below (T1.setTop (mkF m 5 #[.val (.ref a)] [(.int (4 : Int32))])) t
    refine XS.aloadN X1.here hx rfl (hb hby d13_5) rfl rfl ?_
    show Steps p.tables e below (T1.setTop (mkF m 6 #[.val (.ref a)] [(.ref a), (.int (4 : Int32))])) t
    refine st3.trans ?_
    show Steps p.tables e below (T3.setTop (mkF m 9 #[.val (.ref a)] [(.int (0 : Int32)), (.int (4 : Int32))])) t
    refine XS.ishr X3.here hx rfl (hb hby d13_9) rfl ?_
    show Steps p.tables e below (T3.setTop (mkF m 10 #[.val (.ref a)] [(.int ((4 : Int32) >>> ((0 : Int32) &&& 31)))])) t
    rw [show ((4 : Int32) >>> ((0 : Int32) &&& 31)) = (4 : Int32) from by decide]
    exact k
  obtain ⟨fs, hr, hrun, hended, hW, hsame⟩ := X3.leave (v := some (.int (4 : Int32))) (fun h => by rw [Bd.returns] at h; cases h)
  refine ⟨_, _, R4 _ ?_, hrun, hended, _, _, rfl, ?_, ⟨_, rfl⟩, hW, hsame.mono (by decide) (by decide)⟩
  · show Steps p.tables e below (T3.setTop (mkF m 10 #[.val (.ref a)] [(.int (4 : Int32))])) _
    exact retOut X3 hx Bd.returns rfl (Or.inl ⟨rfl, Or.inl rfl, _, rfl⟩) (hb hby d13_10) hr
  · show Q_slen4_1 Z zCS a tt kb v0 v1 v2 v3 h0 n0 _ T3.heap _
    rw [e3]
    exact ⟨rfl, N3, rfl⟩
theorem ef_li1_4_1 (m : MethodId) (a : Addr) (tt : Addr) (kb : ClassId) (v0 : Int32) (v1 : Int32) (v2 : Int32) (v3 : Int32) : entryFrame m #[(.ref a), (.int (46 : Int32))] 2 = mkF m 0 #[.val (.ref a), .val (.int (46 : Int32))] [] := by first | (simp [entryFrame, mkF, argsToLocals, Value.category]; done) | rfl
def Q_li1_4_1 (Z : State) (zCS : Int32) (a : Addr) (tt : Addr) (kb : ClassId) (v0 : Int32) (v1 : Int32) (v2 : Int32) (v3 : Int32) (h0 : Heap) (n0 : Nat) (vv_ : Option Value) (hh_ : Heap) (LL_ : List Loc) : Prop := vv_ = some (.int (1 : Int32)) ∧ (Fr n0 LL_) ∧ (hh_ = h0)
set_option maxRecDepth 65536 in
set_option maxHeartbeats 40000000 in
theorem li1_4_1 (l : Launch) (Z : State) (a0 : Array Value) (hw : ∀ d ∈ tables_1, d.before a0 Z = true) (ws : List Jvm.Cond) (zCS : Int32) (a : Addr) (tt : Addr) (kb : ClassId) (v0 : Int32) (v1 : Int32) (v2 : Int32) (v3 : Int32) (h0 : Heap) (n0 : Nat) (O0 : Old Z n0 h0) (S_CS : Sta Z Z.heap "java/lang/String" "COMPACT_STRINGS" "Z" (.int zCS)) (hCS : ¬ (zCS = (0 : Int32))) (hcH : Jvm.Lit.constHeld Z "java/lang/String" 7) (hcW : Jvm.Lit.compactW.before a0 Z = true) (Ea : Exa Z h0 a "java/lang/String") (Fc : Fld Z h0 a "java/lang/String" "coder" "B" (.int (0 : Int32))) (Fv : Fld Z h0 a "java/lang/String" "value" "[B" (.ref tt)) (At : Arv Z h0 tt kb .byte (4 : Int32) [(.int v0), (.int v1), (.int v2), (.int v3)] (.int 0)) (hv3 : ¬ (v3 = (46 : Int32))) (hv2 : ¬ (v2 = (46 : Int32))) (hv1 : v1 = (46 : Int32)) :
    MetFree l (⟨"java/lang/String", "lastIndexOf", "(I)I"⟩ : MethodName) (head1 (Jvm.Cond.code (⟨"java/lang/String", "lastIndexOf", "(I)I"⟩ : MethodName) jdk_42_method_82_code 2 (some .int) :: ws) ({ frames := 3, cells := 0, slots := 0, locals := 42 } : Room)) (fun aa_ U_ => aa_ = #[(.ref a), (.int (46 : Int32))] ∧ Z.Warmed39 U_.vm ∧ U_.heap = h0) (fun _ _ _ _ _ => True) (fun _ U_ oo_ V_ => ∃ vv_ LL_, oo_ = .returned vv_ ∧ Q_li1_4_1 Z zCS a tt kb v0 v1 v2 v3 h0 n0 vv_ V_.heap LL_ ∧ FrameEnd U_ oo_ V_ LL_ ({ frames := 3, cells := 0, slots := 0, locals := 42 } : Room).cells ({ frames := 3, cells := 0, slots := 0, locals := 42 } : Room).slots) := by
  refine MetFree.of_bodySF (plainFor_of_name pn_java_lang_String) hisR ?_
  intro p e s m args below meth c s₁ Bd hml0 hP hK
  obtain ⟨rfl, hZ, hh⟩ := hP
  have hx := Bd.exec
  have hby := Bd.bytes
  have hml : c.maxLocals = 2 := hml0
  have hown : s.vm.findClass "java/lang/String" = some m.cls := findClass_of_methodNamed Bd.named
  have hnm := (name_of_methodNamed Bd.named Bd.method).1
  have X0 : Stand p l e ({ frames := 3, cells := 0, slots := 0, locals := 42 } : Room) s m #[(.ref a), (.int (46 : Int32))] below meth c s₁ [] 0 0 := Stand.of_body Bd
  have e0 : s₁.heap = h0 := by rw [← hh, Bd.state]; rfl
  have N0 := Fr.nil n0
  have Z0 : n0 ≤ h0.size := O0.1 ▸ O0.2.1
  have hk0 := Nat.zero_le h0.size
  have K0 : Keep h0 h0 [] := Keep.refl _ _
  have R0 : ∀ t, Steps p.tables e below (s₁.setTop (mkF m 0 #[.val (.ref a), .val (.int (46 : Int32))] [])) t → Steps p.tables e below (s₁.setTop (entryFrame m #[(.ref a), (.int (46 : Int32))] 2)) t := fun t k => castTop (ef_li1_4_1 m a tt kb v0 v1 v2 v3) k
  obtain ⟨cq1, kq1, q1a, q1b, q1c⟩ := isOf hZ e0 Ea
  obtain ⟨_, _, ⟨T1, L1, k1, n1⟩, -, X1, ⟨Lc1, hQ1, cl_1, cy_1, cz_1⟩, st1⟩ := X0.virtualBack hx (y := (⟨"java/lang/String", "length", "()I"⟩ : MethodName)) (z := (⟨"java/lang/String", "length", "()I"⟩ : MethodName)) hown (mvT hZ (hw _ (List.mem_of_getElem? (i := 59) rfl))) (mvT hZ (hw _ (List.mem_of_getElem? (i := 60) rfl))) (notFace_of_selects (args := #[]) (mvT hZ (hw _ (List.mem_of_getElem? (i := 62) rfl)))) (mvT hZ (hw _ (List.mem_of_getElem? (i := 62) rfl))) (mvT hZ (hw _ (List.mem_of_getElem? (i := 61) rfl))) (by decide) (backOf (W := 2) (slen4_1 l Z a0 hw [] zCS a tt kb v0 v1 v2 v3 h0 n0 O0 S_CS hCS hcH hcW   Ea Fc Fv At) hZ (hw _ (List.mem_of_getElem? (i := 63) rfl)) (hw _ (List.mem_of_getElem? (i := 10) rfl)) (by decide) (by decide)) q1a q1c (g := (mkF m 3 #[.val (.ref a), .val (.int (46 : Int32))] [(.ref a), (.int (46 : Int32)), (.ref a)])) rfl (by rw [hml]; rfl) (Steps.refl _) (argsL := []) (rest := [(.int (46 : Int32)), (.ref a)]) (lenOf pd_7 rfl) rfl (by show 2 * 0 + _ ≤ _; exact Nat.le_of_eq rfl) (hb hby d12_3) (fun _ _ => ⟨rfl, e0, (by decide : 0 + 0 ≤ _), (by decide : 0 + 0 ≤ _)⟩)
  dsimp only [Pt.U, Pt.locs, Pt.cells, Pt.slots] at X1 cl_1 cy_1 cz_1 st1 hQ1
  rw [cl_1, cy_1, cz_1] at X1
  obtain ⟨rfl, N1q, e1⟩ := hQ1
  have N1 := Fr.app N0 N1q
  obtain ⟨cq2, kq2, q2a, q2b, q2c⟩ := isOf hZ e1 Ea
  obtain ⟨_, _, ⟨T2, L2, k2, n2⟩, -, X2, ⟨Lc2, hQ2, cl_2, cy_2, cz_2⟩, st2⟩ := X1.virtualBack hx (y := (⟨"java/lang/String", "lastIndexOf", "(II)I"⟩ : MethodName)) (z := (⟨"java/lang/String", "lastIndexOf", "(II)I"⟩ : MethodName)) hown (mvT hZ (hw _ (List.mem_of_getElem? (i := 69) rfl))) (mvT hZ (hw _ (List.mem_of_getElem? (i := 70) rfl))) (notFace_of_selects (args := #[]) (mvT hZ (hw _ (List.mem_of_getElem? (i := 72) rfl)))) (mvT hZ (hw _ (List.mem_of_getElem? (i := 72) rfl))) (mvT hZ (hw _ (List.mem_of_getElem? (i := 71) rfl))) (by decide) (backOf (W := 0) (li2_4_1 l Z a0 hw [] zCS a tt kb v0 v1 v2 v3 h0 n0 O0 S_CS hCS hcH hcW   Ea Fc Fv At hv3 hv2 hv1) hZ (hw _ (List.mem_of_getElem? (i := 73) rfl)) (hw _ (List.mem_of_getElem? (i := 10) rfl)) (by decide) (by decide)) q2a q2c (g := (mkF m 8 #[.val (.ref a), .val (.int (46 : Int32))] [(.int (3 : Int32)), (.int (46 : Int32)), (.ref a)])) rfl (by rw [hml]; rfl) (Steps.refl _) (argsL := [(.int (46 : Int32)), (.int (3 : Int32))]) (rest := []) (lenOf pd_3 rfl) rfl (by show 2 * 0 + _ ≤ _; exact Nat.le_of_eq rfl) (hb hby d12_8) (fun _ _ => ⟨rfl, e1, (by decide : 0 + 0 ≤ _), (by decide : 0 + 0 ≤ _)⟩)
  dsimp only [Pt.U, Pt.locs, Pt.cells, Pt.slots] at X2 cl_2 cy_2 cz_2 st2 hQ2
  rw [cl_2, cy_2, cz_2] at X2
  obtain ⟨rfl, N2q, e2⟩ := hQ2
  have N2 := Fr.app N1 N2q
  have R3 : ∀ t, Steps p.tables e below (T2.setTop (mkF m 11 #[.val (.ref a), .val (.int (46 : Int32))] [(.int (1 : Int32))])) t → Steps p.tables e below (s₁.setTop (entryFrame m #[(.ref a), (.int (46 : Int32))] 2)) t := by
    intro t k
    refine R0 t ?_
    show Steps p.tables e below (s₁.setTop (mkF m 0 #[.val (.ref a), .val (.int (46 : Int32))] [])) t
    refine XS.aloadN X0.here hx rfl (hb hby d12_0) rfl rfl ?_
    show Steps p.tables e below (s₁.setTop (mkF m 1 #[.val (.ref a), .val (.int (46 : Int32))] [(.ref a)])) t
    refine XS.iloadN X0.here hx rfl (hb hby d12_1) rfl ?_
    show Steps p.tables e below (s₁.setTop (mkF m 2 #[.val (.ref a), .val (.int (46 : Int32))] [(.int (46 : Int32)), (.ref a)])) t
    refine XS.aloadN X0.here hx rfl (hb hby d12_2) rfl rfl ?_
    show Steps p.tables e below (s₁.setTop (mkF m 3 #[.val (.ref a), .val (.int (46 : Int32))] [(.ref a), (.int (46 : Int32)), (.ref a)])) t
    refine st1.trans ?_
    show Steps p.tables e below (T1.setTop (mkF m 6 #[.val (.ref a), .val (.int (46 : Int32))] [(.int (4 : Int32)), (.int (46 : Int32)), (.ref a)])) t
    refine XS.iconst X1.here hx rfl (hb hby d12_6) ?_
    show Steps p.tables e below (T1.setTop (mkF m 7 #[.val (.ref a), .val (.int (46 : Int32))] [(.int (1 : Int32)), (.int (4 : Int32)), (.int (46 : Int32)), (.ref a)])) t
    refine XS.isub X1.here hx rfl (hb hby d12_7) rfl ?_
    show Steps p.tables e below (T1.setTop (mkF m 8 #[.val (.ref a), .val (.int (46 : Int32))] [(.int ((4 : Int32) - (1 : Int32))), (.int (46 : Int32)), (.ref a)])) t
    rw [show ((4 : Int32) - (1 : Int32)) = (3 : Int32) from by decide]
    show Steps p.tables e below (T1.setTop (mkF m 8 #[.val (.ref a), .val (.int (46 : Int32))] [(.int (3 : Int32)), (.int (46 : Int32)), (.ref a)])) t
    refine st2.trans ?_
    exact k
  obtain ⟨fs, hr, hrun, hended, hW, hsame⟩ := X2.leave (v := some (.int (1 : Int32))) (fun h => by rw [Bd.returns] at h; cases h)
  refine ⟨_, _, R3 _ ?_, hrun, hended, _, _, rfl, ?_, ⟨_, rfl⟩, hW, hsame.mono (by decide) (by decide)⟩
  · show Steps p.tables e below (T2.setTop (mkF m 11 #[.val (.ref a), .val (.int (46 : Int32))] [(.int (1 : Int32))])) _
    exact retOut X2 hx Bd.returns rfl (Or.inl ⟨rfl, Or.inl rfl, _, rfl⟩) (hb hby d12_11) hr
  · show Q_li1_4_1 Z zCS a tt kb v0 v1 v2 v3 h0 n0 _ T2.heap _
    rw [e2]
    exact ⟨rfl, N2, rfl⟩
theorem ef_checked4_1 (m : MethodId) (a : Addr) (tt : Addr) (kb : ClassId) (v0 : Int32) (v1 : Int32) (v2 : Int32) (v3 : Int32) : entryFrame m #[(.ref a)] 2 = mkF m 0 #[.val (.ref a), .unset] [] := by first | (simp [entryFrame, mkF, argsToLocals, Value.category]; done) | rfl
def Q_checked4_1 (Z : State) (zCS : Int32) (a : Addr) (tt : Addr) (kb : ClassId) (v0 : Int32) (v1 : Int32) (v2 : Int32) (v3 : Int32) (h0 : Heap) (n0 : Nat) (vv_ : Option Value) (hh_ : Heap) (LL_ : List Loc) : Prop := vv_ = some (.ref a) ∧ (Fr n0 LL_) ∧ (Keep h0 hh_ [])
set_option maxRecDepth 65536 in
set_option maxHeartbeats 40000000 in
theorem checked4_1 (l : Launch) (Z : State) (a0 : Array Value) (hw : ∀ d ∈ tables_1, d.before a0 Z = true) (ws : List Jvm.Cond) (zCS : Int32) (a : Addr) (tt : Addr) (kb : ClassId) (v0 : Int32) (v1 : Int32) (v2 : Int32) (v3 : Int32) (h0 : Heap) (n0 : Nat) (O0 : Old Z n0 h0) (S_CS : Sta Z Z.heap "java/lang/String" "COMPACT_STRINGS" "Z" (.int zCS)) (hCS : ¬ (zCS = (0 : Int32))) (hcH : Jvm.Lit.constHeld Z "java/lang/String" 7) (hcW : Jvm.Lit.compactW.before a0 Z = true) (Ea : Exa Z h0 a "java/lang/String") (Fc : Fld Z h0 a "java/lang/String" "coder" "B" (.int (0 : Int32))) (Fv : Fld Z h0 a "java/lang/String" "value" "[B" (.ref tt)) (At : Arv Z h0 tt kb .byte (4 : Int32) [(.int v0), (.int v1), (.int v2), (.int v3)] (.int 0)) (hv3 : ¬ (v3 = (46 : Int32))) (hv2 : ¬ (v2 = (46 : Int32))) (hv1 : v1 = (46 : Int32)) :
    MetFree l (⟨"com/example/wiring_from_blueprints/wiringfromblueprints/internal/StaticField", "checked", "(Ljava/lang/String;)Ljava/lang/String;"⟩ : MethodName) (head1 (Jvm.Cond.code (⟨"com/example/wiring_from_blueprints/wiringfromblueprints/internal/StaticField", "checked", "(Ljava/lang/String;)Ljava/lang/String;"⟩ : MethodName) prog_22_method_2_code 2 (some (.object "java/lang/String")) :: ws) ({ frames := 4, cells := 2, slots := 48, locals := 55 } : Room)) (fun aa_ U_ => aa_ = #[(.ref a)] ∧ Z.Warmed39 U_.vm ∧ U_.heap = h0) (fun _ _ _ _ _ => True) (fun _ U_ oo_ V_ => ∃ vv_ LL_, oo_ = .returned vv_ ∧ Q_checked4_1 Z zCS a tt kb v0 v1 v2 v3 h0 n0 vv_ V_.heap LL_ ∧ ReturnedEndW U_ oo_ V_ LL_ ({ frames := 4, cells := 2, slots := 48, locals := 55 } : Room).cells ({ frames := 4, cells := 2, slots := 48, locals := 55 } : Room).slots) := by
  refine MetFree.of_bodySF (plainFor_of_name pn_com_example_wiring_from_blueprints_wiringfromblueprints_internal_StaticField) hisR ?_
  intro p e s m args below meth c s₁ Bd hml0 hP hK
  obtain ⟨rfl, hZ, hh⟩ := hP
  have hx := Bd.exec
  have hby := Bd.bytes
  have hml : c.maxLocals = 2 := hml0
  have hown : s.vm.findClass "com/example/wiring_from_blueprints/wiringfromblueprints/internal/StaticField" = some m.cls := findClass_of_methodNamed Bd.named
  have hnm := (name_of_methodNamed Bd.named Bd.method).1
  have hZ0 : Z.Warmed39 (s.setVm s.vm).vm := hZ
  have hown0 : (s.setVm s.vm).vm.findClass "com/example/wiring_from_blueprints/wiringfromblueprints/internal/StaticField" = some m.cls := hown
  have hS0 : s.Since s.vm 0 := ⟨State.Warmed39.refl s, fun j p h1 h2 => absurd (Array.getElem?_eq_some_iff.mp h2).1 (Nat.not_lt.mpr h1)⟩
  have X0 : Stand p l e ({ frames := 4, cells := 2, slots := 48, locals := 55 } : Room) (s.setVm s.vm) m #[(.ref a)] below meth c s₁ [] 0 0 := Stand.of_body Bd
  have e0 : s₁.heap = h0 := by rw [← hh, Bd.state]; rfl
  have N0 := Fr.nil n0
  have Z0 : n0 ≤ h0.size := O0.1 ▸ O0.2.1
  have hk0 := Nat.zero_le h0.size
  have K0 : Keep h0 h0 [] := Keep.refl _ _
  have R0 : ∀ t, Steps p.tables e below (s₁.setTop (mkF m 0 #[.val (.ref a), .unset] [])) t → Steps p.tables e below (s₁.setTop (entryFrame m #[(.ref a)] 2)) t := fun t k => castTop (ef_checked4_1 m a tt kb v0 v1 v2 v3) k
  obtain ⟨a1, T1, h1, k1, X1, e1, E1, hS1, hk1, hZ1, hown1, st1⟩ := ldcS X0 hx hZ0 hown0 (hw _ (List.mem_of_getElem? (i := 48) rfl)) (own_sat hw) e0 hS0 hk0 (g := (mkF m 1 #[.val (.ref a), .unset] [(.ref a)])) rfl (hb hby d10_1) (n := 44) (by decide) (by decide) (by decide) (by decide)
  have Z1 : n0 ≤ h1.size := Nat.le_trans Z0 E1.1
  have K1 : Keep h0 h1 [] := K0.ext E1
  have O1 : Old Z n0 h1 := O0.ext E1
  obtain ⟨_, _, ⟨T2, L2, k2, n2⟩, -, X2, ⟨Lc2, hQ2, cl_2, cy_2, cz_2⟩, st2⟩ := Jvm.LawKit.callS X1 hx (y := (⟨"java/util/Objects", "requireNonNull", "(Ljava/lang/Object;Ljava/lang/String;)Ljava/lang/Object;"⟩ : MethodName)) hown1 (mvT hZ1 (hw _ (List.mem_of_getElem? (i := 49) rfl))) (mvT hZ1 (hw _ (List.mem_of_getElem? (i := 50) rfl))) (mvT hZ1 (hw _ (List.mem_of_getElem? (i := 51) rfl))) (mvT hZ1 (hw _ (List.mem_of_getElem? (i := 52) rfl))) (by decide) (backOf (W := 0) (rnn l Z a0 hw [] zCS a a1 h1 n0 O1 S_CS hCS hcH hcW   ) hZ1 (hw _ (List.mem_of_getElem? (i := 52) rfl)) (hw _ (List.mem_of_getElem? (i := 51) rfl)) (by decide) (by decide)) (g := (mkF m 3 #[.val (.ref a), .unset] [(.ref a1), (.ref a)])) rfl (by rw [hml]; rfl) (argsL := [(.ref a), (.ref a1)]) (rest := []) (lenOf pd_8 rfl) rfl (by show 2 * 0 + _ ≤ _; exact Nat.le_of_eq rfl) (hb hby d10_3) (fun _ _ => ⟨rfl, e1, (by decide : 2 + 0 ≤ _), (by decide : 48 + 0 ≤ _)⟩)
  dsimp only [Pt.U, Pt.locs, Pt.cells, Pt.slots] at X2 cl_2 cy_2 cz_2 st2 hQ2
  rw [cl_2, cy_2, cz_2] at X2
  obtain ⟨rfl, N2q, e2⟩ := hQ2
  have N2 := Fr.app N0 N2q
  have f4 : Exa Z h1 a "java/lang/String" := (Ea.ext E1)
  obtain ⟨T3, X3, e3, st3⟩ := castY X2 hx hZ1 hown1 (hw _ (List.mem_of_getElem? (i := 53) rfl)) e2 (Ins.self f4) (g := (mkF m 6 #[.val (.ref a), .unset] [(.ref a)])) rfl rfl (hb hby d10_6)
  have f6 : Fld Z h1 a "java/lang/String" "coder" "B" (.int (0 : Int32)) := (Fc.ext E1)
  have f7 : Fld Z h1 a "java/lang/String" "value" "[B" (.ref tt) := (Fv.ext E1)
  have f8 : Arv Z h1 tt kb .byte (4 : Int32) [(.int v0), (.int v1), (.int v2), (.int v3)] (.int 0) := (At.ext E1)
  obtain ⟨cq5, kq5, q5a, q5b, q5c⟩ := isOf hZ1 e3 f4
  obtain ⟨_, _, ⟨T5, L5, k5, n5⟩, -, X5, ⟨Lc5, hQ5, cl_5, cy_5, cz_5⟩, st5⟩ := X3.virtualBack hx (y := (⟨"java/lang/String", "lastIndexOf", "(I)I"⟩ : MethodName)) (z := (⟨"java/lang/String", "lastIndexOf", "(I)I"⟩ : MethodName)) hown1 (mvT hZ1 (hw _ (List.mem_of_getElem? (i := 54) rfl))) (mvT hZ1 (hw _ (List.mem_of_getElem? (i := 55) rfl))) (notFace_of_selects (args := #[]) (mvT hZ1 (hw _ (List.mem_of_getElem? (i := 57) rfl)))) (mvT hZ1 (hw _ (List.mem_of_getElem? (i := 57) rfl))) (mvT hZ1 (hw _ (List.mem_of_getElem? (i := 56) rfl))) (by decide) (backOf (W := 0) (li1_4_1 l Z a0 hw [] zCS a tt kb v0 v1 v2 v3 h1 n0 O1 S_CS hCS hcH hcW   f4 f6 f7 f8 hv3 hv2 hv1) hZ1 (hw _ (List.mem_of_getElem? (i := 58) rfl)) (hw _ (List.mem_of_getElem? (i := 10) rfl)) (by decide) (by decide)) q5a q5c (g := (mkF m 11 #[.val (.ref a), .unset] [(.int (46 : Int32)), (.ref a)])) rfl (by rw [hml]; rfl) (Steps.refl _) (argsL := [(.int (46 : Int32))]) (rest := []) (lenOf pd_9 rfl) rfl (by show 2 * 0 + _ ≤ _; exact Nat.le_of_eq rfl) (hb hby d10_11) (fun _ _ => ⟨rfl, e3, (by decide : 2 + 0 ≤ _), (by decide : 48 + 0 ≤ _)⟩)
  dsimp only [Pt.U, Pt.locs, Pt.cells, Pt.slots] at X5 cl_5 cy_5 cz_5 st5 hQ5
  rw [cl_5, cy_5, cz_5] at X5
  obtain ⟨rfl, N5q, e5⟩ := hQ5
  have N5 := Fr.app N2 N5q
  obtain ⟨cq9, kq9, q9a, q9b, q9c⟩ := isOf hZ1 e5 f4
  obtain ⟨_, _, ⟨T9, L9, k9, n9⟩, -, X9, ⟨Lc9, hQ9, cl_9, cy_9, cz_9⟩, st9⟩ := X5.virtualBack hx (y := (⟨"java/lang/String", "length", "()I"⟩ : MethodName)) (z := (⟨"java/lang/String", "length", "()I"⟩ : MethodName)) hown1 (mvT hZ1 (hw _ (List.mem_of_getElem? (i := 90) rfl))) (mvT hZ1 (hw _ (List.mem_of_getElem? (i := 60) rfl))) (notFace_of_selects (args := #[]) (mvT hZ1 (hw _ (List.mem_of_getElem? (i := 62) rfl)))) (mvT hZ1 (hw _ (List.mem_of_getElem? (i := 62) rfl))) (mvT hZ1 (hw _ (List.mem_of_getElem? (i := 61) rfl))) (by decide) (backOf (W := 1) (slen4_1 l Z a0 hw [] zCS a tt kb v0 v1 v2 v3 h1 n0 O1 S_CS hCS hcH hcW   f4 f6 f7 f8) hZ1 (hw _ (List.mem_of_getElem? (i := 63) rfl)) (hw _ (List.mem_of_getElem? (i := 10) rfl)) (by decide) (by decide)) q9a q9c (g := (mkF m 21 #[.val (.ref a), .val (.int (1 : Int32))] [(.ref a), (.int (1 : Int32))])) rfl (by rw [hml]; rfl) (Steps.refl _) (argsL := []) (rest := [(.int (1 : Int32))]) (lenOf pd_7 rfl) rfl (by show 2 * 0 + _ ≤ _; exact Nat.le_of_eq rfl) (hb hby d10_21) (fun _ _ => ⟨rfl, e5, (by decide : 2 + 0 ≤ _), (by decide : 48 + 0 ≤ _)⟩)
  dsimp only [Pt.U, Pt.locs, Pt.cells, Pt.slots] at X9 cl_9 cy_9 cz_9 st9 hQ9
  rw [cl_9, cy_9, cz_9] at X9
  obtain ⟨rfl, N9q, e9⟩ := hQ9
  have N9 := Fr.app N5 N9q
  have R10 : ∀ t, Steps p.tables e below (T9.setTop (mkF m 44 #[.val (.ref a), .val (.int (1 : Int32))] [(.ref a)])) t → Steps p.tables e below (s₁.setTop (entryFrame m #[(.ref a)] 2)) t := by
    intro t k
    refine R0 t ?_
    show Steps p.tables e below (s₁.setTop (mkF m 0 #[.val (.ref a), .unset] [])) t
    refine XS.aloadN X0.here hx rfl (hb hby d10_0) rfl rfl ?_
    show Steps p.tables e below (s₁.setTop (mkF m 1 #[.val (.ref a), .unset] [(.ref a)])) t
    refine st1 _ ?_
    show Steps p.tables e below (T1.setTop (mkF m 3 #[.val (.ref a), .unset] [(.ref a1), (.ref a)])) t
    refine st2 _ ?_
    show Steps p.tables e below (T2.setTop (mkF m 6 #[.val (.ref a), .unset] [(.ref a)])) t
    refine st3 _ ?_
    show Steps p.tables e below (T3.setTop (mkF m 9 #[.val (.ref a), .unset] [(.ref a)])) t
    refine XS.bipush X3.here hx rfl (hb hby d10_9) ?_
    show Steps p.tables e below (T3.setTop (mkF m 11 #[.val (.ref a), .unset] [(.int (46 : Int32)), (.ref a)])) t
    refine st5.trans ?_
    show Steps p.tables e below (T5.setTop (mkF m 14 #[.val (.ref a), .unset] [(.int (1 : Int32))])) t
    refine XS.istoreN X5.here hx rfl (hb hby d10_14) rfl (l' := #[.val (.ref a), .val (.int (1 : Int32))]) rfl ?_
    show Steps p.tables e below (T5.setTop (mkF m 15 #[.val (.ref a), .val (.int (1 : Int32))] [])) t
    refine XS.iloadN X5.here hx rfl (hb hby d10_15) rfl ?_
    show Steps p.tables e below (T5.setTop (mkF m 16 #[.val (.ref a), .val (.int (1 : Int32))] [(.int (1 : Int32))])) t
    refine XS.ifNo X5.here hx rfl (hb hby d10_16) rfl ((if0 _ _).trans (tlt ((by decide) : (0 : Int32) < (1 : Int32))).2.2.2) ?_
    show Steps p.tables e below (T5.setTop (mkF m 19 #[.val (.ref a), .val (.int (1 : Int32))] [])) t
    refine XS.iloadN X5.here hx rfl (hb hby d10_19) rfl ?_
    show Steps p.tables e below (T5.setTop (mkF m 20 #[.val (.ref a), .val (.int (1 : Int32))] [(.int (1 : Int32))])) t
    refine XS.aloadN X5.here hx rfl (hb hby d10_20) rfl rfl ?_
    show Steps p.tables e below (T5.setTop (mkF m 21 #[.val (.ref a), .val (.int (1 : Int32))] [(.ref a), (.int (1 : Int32))])) t
    refine st9.trans ?_
    show Steps p.tables e below (T9.setTop (mkF m 24 #[.val (.ref a), .val (.int (1 : Int32))] [(.int (4 : Int32)), (.int (1 : Int32))])) t
    refine XS.iconst X9.here hx rfl (hb hby d10_24) ?_
    show Steps p.tables e below (T9.setTop (mkF m 25 #[.val (.ref a), .val (.int (1 : Int32))] [(.int (1 : Int32)), (.int (4 : Int32)), (.int (1 : Int32))])) t
    refine XS.isub X9.here hx rfl (hb hby d10_25) rfl ?_
    show Steps p.tables e below (T9.setTop (mkF m 26 #[.val (.ref a), .val (.int (1 : Int32))] [(.int ((4 : Int32) - (1 : Int32))), (.int (1 : Int32))])) t
    rw [show ((4 : Int32) - (1 : Int32)) = (3 : Int32) from by decide]
    show Steps p.tables e below (T9.setTop (mkF m 26 #[.val (.ref a), .val (.int (1 : Int32))] [(.int (3 : Int32)), (.int (1 : Int32))])) t
    refine XS.icmpYes X9.here hx rfl (pc0 := 26) (pc' := 43) rfl (hb hby d10_26) rfl (feq ((by decide) : ¬ ((1 : Int32) = (3 : Int32)))).2 (by decide) (by decide) ?_
    show Steps p.tables e below (T9.setTop (mkF m 43 #[.val (.ref a), .val (.int (1 : Int32))] [])) t
    refine XS.aloadN X9.here hx rfl (hb hby d10_43) rfl rfl ?_
    exact k
  obtain ⟨fs, hr, hrun, hended, hRW⟩ := X9.leaveW hS1 (by rw [e9]; exact hk1) (v := some (.ref a)) (fun h => by rw [Bd.returns] at h; cases h)
  refine ⟨_, _, R10 _ ?_, hrun, hended, _, _, rfl, ?_, hRW.1, hRW.2.1, hRW.2.2.1, hRW.2.2.2.mono (by decide) (by decide)⟩
  · show Steps p.tables e below (T9.setTop (mkF m 44 #[.val (.ref a), .val (.int (1 : Int32))] [(.ref a)])) _
    exact retOut X9 hx Bd.returns rfl (Or.inr (Or.inr (Or.inr (Or.inr ⟨rfl, rfl, rfl⟩)))) (hb hby d10_44) hr
  · show Q_checked4_1 Z zCS a tt kb v0 v1 v2 v3 h0 n0 _ T9.heap _
    rw [e9]
    exact ⟨rfl, N9, K1⟩
theorem ef_min4_2 (m : MethodId)  : entryFrame m #[(.int (3 : Int32)), (.int (3 : Int32))] 2 = mkF m 0 #[.val (.int (3 : Int32)), .val (.int (3 : Int32))] [] := by first | (simp [entryFrame, mkF, argsToLocals, Value.category]; done) | rfl
def Q_min4_2 (Z : State) (zCS : Int32)  (h0 : Heap) (n0 : Nat) (vv_ : Option Value) (hh_ : Heap) (LL_ : List Loc) : Prop := vv_ = some (.int (3 : Int32)) ∧ (Fr n0 LL_) ∧ (hh_ = h0)
set_option maxRecDepth 65536 in
set_option maxHeartbeats 40000000 in
theorem min4_2 (l : Launch) (Z : State) (a0 : Array Value) (hw : ∀ d ∈ tables_1, d.before a0 Z = true) (ws : List Jvm.Cond) (zCS : Int32)  (h0 : Heap) (n0 : Nat) (O0 : Old Z n0 h0) (S_CS : Sta Z Z.heap "java/lang/String" "COMPACT_STRINGS" "Z" (.int zCS)) (hCS : ¬ (zCS = (0 : Int32))) (hcH : Jvm.Lit.constHeld Z "java/lang/String" 7) (hcW : Jvm.Lit.compactW.before a0 Z = true) :
    MetFree l (⟨"java/lang/Math", "min", "(II)I"⟩ : MethodName) (head1 (Jvm.Cond.code (⟨"java/lang/Math", "min", "(II)I"⟩ : MethodName) jdk_29_method_69_code 2 (some .int) :: ws) ({ frames := 0, cells := 0, slots := 0, locals := 0 } : Room)) (fun aa_ U_ => aa_ = #[(.int (3 : Int32)), (.int (3 : Int32))] ∧ Z.Warmed39 U_.vm ∧ U_.heap = h0) (fun _ _ _ _ _ => True) (fun _ U_ oo_ V_ => ∃ vv_ LL_, oo_ = .returned vv_ ∧ Q_min4_2 Z zCS  h0 n0 vv_ V_.heap LL_ ∧ FrameEnd U_ oo_ V_ LL_ ({ frames := 0, cells := 0, slots := 0, locals := 0 } : Room).cells ({ frames := 0, cells := 0, slots := 0, locals := 0 } : Room).slots) := by
  refine MetFree.of_bodySF (Jvm.Free.JP.mathPlain rfl (by decide +kernel)) hisR ?_
  intro p e s m args below meth c s₁ Bd hml0 hP hK
  obtain ⟨rfl, hZ, hh⟩ := hP
  have hx := Bd.exec
  have hby := Bd.bytes
  have hml : c.maxLocals = 2 := hml0
  have hown : s.vm.findClass "java/lang/Math" = some m.cls := findClass_of_methodNamed Bd.named
  have hnm := (name_of_methodNamed Bd.named Bd.method).1
  have X0 : Stand p l e ({ frames := 0, cells := 0, slots := 0, locals := 0 } : Room) s m #[(.int (3 : Int32)), (.int (3 : Int32))] below meth c s₁ [] 0 0 := Stand.of_body Bd
  have e0 : s₁.heap = h0 := by rw [← hh, Bd.state]; rfl
  have N0 := Fr.nil n0
  have Z0 : n0 ≤ h0.size := O0.1 ▸ O0.2.1
  have hk0 := Nat.zero_le h0.size
  have K0 : Keep h0 h0 [] := Keep.refl _ _
  have R0 : ∀ t, Steps p.tables e below (s₁.setTop (mkF m 0 #[.val (.int (3 : Int32)), .val (.int (3 : Int32))] [])) t → Steps p.tables e below (s₁.setTop (entryFrame m #[(.int (3 : Int32)), (.int (3 : Int32))] 2)) t := fun t k => castTop (ef_min4_2 m ) k
  have R1 : ∀ t, Steps p.tables e below (s₁.setTop (mkF m 10 #[.val (.int (3 : Int32)), .val (.int (3 : Int32))] [(.int (3 : Int32))])) t → Steps p.tables e below (s₁.setTop (entryFrame m #[(.int (3 : Int32)), (.int (3 : Int32))] 2)) t := by
    intro t k
    refine R0 t ?_
    show Steps p.tables e below (s₁.setTop (mkF m 0 #[.val (.int (3 : Int32)), .val (.int (3 : Int32))] [])) t
    refine XS.iloadN X0.here hx rfl (hb hby d19_0) rfl ?_
    show Steps p.tables e below (s₁.setTop (mkF m 1 #[.val (.int (3 : Int32)), .val (.int (3 : Int32))] [(.int (3 : Int32))])) t
    refine XS.iloadN X0.here hx rfl (hb hby d19_1) rfl ?_
    show Steps p.tables e below (s₁.setTop (mkF m 2 #[.val (.int (3 : Int32)), .val (.int (3 : Int32))] [(.int (3 : Int32)), (.int (3 : Int32))])) t
    refine XS.icmpNo X0.here hx rfl (hb hby d19_2) rfl (flt ((by decide) : ¬ ((3 : Int32) < (3 : Int32)))).2.2.1 ?_
    show Steps p.tables e below (s₁.setTop (mkF m 5 #[.val (.int (3 : Int32)), .val (.int (3 : Int32))] [])) t
    refine XS.iloadN X0.here hx rfl (hb hby d19_5) rfl ?_
    show Steps p.tables e below (s₁.setTop (mkF m 6 #[.val (.int (3 : Int32)), .val (.int (3 : Int32))] [(.int (3 : Int32))])) t
    refine XS.goto X0.here hx rfl (pc0 := 6) (pc' := 10) rfl (hb hby d19_6) (by decide) (by decide) ?_
    exact k
  obtain ⟨fs, hr, hrun, hended, hW, hsame⟩ := X0.leave (v := some (.int (3 : Int32))) (fun h => by rw [Bd.returns] at h; cases h)
  refine ⟨_, _, R1 _ ?_, hrun, hended, _, _, rfl, ?_, ⟨_, rfl⟩, hW, hsame.mono (by decide) (by decide)⟩
  · show Steps p.tables e below (s₁.setTop (mkF m 10 #[.val (.int (3 : Int32)), .val (.int (3 : Int32))] [(.int (3 : Int32))])) _
    exact retOut X0 hx Bd.returns rfl (Or.inl ⟨rfl, Or.inl rfl, _, rfl⟩) (hb hby d19_10) hr
  · show Q_min4_2 Z zCS  h0 n0 _ s₁.heap _
    rw [e0]
    exact ⟨rfl, N0, rfl⟩
theorem ef_li3_4_2 (m : MethodId) (tt : Addr) (kb : ClassId) (v0 : Int32) (v1 : Int32) (v2 : Int32) (v3 : Int32) : entryFrame m #[(.ref tt), (.int (46 : Int32)), (.int (3 : Int32))] 4 = mkF m 0 #[.val (.ref tt), .val (.int (46 : Int32)), .val (.int (3 : Int32)), .unset] [] := by first | (simp [entryFrame, mkF, argsToLocals, Value.category]; done) | rfl
def Q_li3_4_2 (Z : State) (zCS : Int32) (tt : Addr) (kb : ClassId) (v0 : Int32) (v1 : Int32) (v2 : Int32) (v3 : Int32) (h0 : Heap) (n0 : Nat) (vv_ : Option Value) (hh_ : Heap) (LL_ : List Loc) : Prop := vv_ = some (.int (2 : Int32)) ∧ (Fr n0 LL_) ∧ (hh_ = h0)
set_option maxRecDepth 65536 in
set_option maxHeartbeats 40000000 in
theorem li3_4_2 (l : Launch) (Z : State) (a0 : Array Value) (hw : ∀ d ∈ tables_1, d.before a0 Z = true) (ws : List Jvm.Cond) (zCS : Int32) (tt : Addr) (kb : ClassId) (v0 : Int32) (v1 : Int32) (v2 : Int32) (v3 : Int32) (h0 : Heap) (n0 : Nat) (O0 : Old Z n0 h0) (S_CS : Sta Z Z.heap "java/lang/String" "COMPACT_STRINGS" "Z" (.int zCS)) (hCS : ¬ (zCS = (0 : Int32))) (hcH : Jvm.Lit.constHeld Z "java/lang/String" 7) (hcW : Jvm.Lit.compactW.before a0 Z = true) (At : Arv Z h0 tt kb .byte (4 : Int32) [(.int v0), (.int v1), (.int v2), (.int v3)] (.int 0)) (hv3 : ¬ (v3 = (46 : Int32))) (hv2 : v2 = (46 : Int32)) :
    MetFree l (⟨"java/lang/StringLatin1", "lastIndexOf", "([BII)I"⟩ : MethodName) (head1 (Jvm.Cond.code (⟨"java/lang/StringLatin1", "lastIndexOf", "([BII)I"⟩ : MethodName) jdk_43_method_27_code 4 (some .int) :: ws) ({ frames := 1, cells := 0, slots := 0, locals := 13 } : Room)) (fun aa_ U_ => aa_ = #[(.ref tt), (.int (46 : Int32)), (.int (3 : Int32))] ∧ Z.Warmed39 U_.vm ∧ U_.heap = h0) (fun _ _ _ _ _ => True) (fun _ U_ oo_ V_ => ∃ vv_ LL_, oo_ = .returned vv_ ∧ Q_li3_4_2 Z zCS tt kb v0 v1 v2 v3 h0 n0 vv_ V_.heap LL_ ∧ FrameEnd U_ oo_ V_ LL_ ({ frames := 1, cells := 0, slots := 0, locals := 13 } : Room).cells ({ frames := 1, cells := 0, slots := 0, locals := 13 } : Room).slots) := by
  refine MetFree.of_bodySF (plainFor_of_name pn_java_lang_StringLatin1) hisR ?_
  intro p e s m args below meth c s₁ Bd hml0 hP hK
  obtain ⟨rfl, hZ, hh⟩ := hP
  have hx := Bd.exec
  have hby := Bd.bytes
  have hml : c.maxLocals = 4 := hml0
  have hown : s.vm.findClass "java/lang/StringLatin1" = some m.cls := findClass_of_methodNamed Bd.named
  have hnm := (name_of_methodNamed Bd.named Bd.method).1
  have X0 : Stand p l e ({ frames := 1, cells := 0, slots := 0, locals := 13 } : Room) s m #[(.ref tt), (.int (46 : Int32)), (.int (3 : Int32))] below meth c s₁ [] 0 0 := Stand.of_body Bd
  have e0 : s₁.heap = h0 := by rw [← hh, Bd.state]; rfl
  have N0 := Fr.nil n0
  have Z0 : n0 ≤ h0.size := O0.1 ▸ O0.2.1
  have hk0 := Nat.zero_le h0.size
  have K0 : Keep h0 h0 [] := Keep.refl _ _
  have R0 : ∀ t, Steps p.tables e below (s₁.setTop (mkF m 0 #[.val (.ref tt), .val (.int (46 : Int32)), .val (.int (3 : Int32)), .unset] [])) t → Steps p.tables e below (s₁.setTop (entryFrame m #[(.ref tt), (.int (46 : Int32)), (.int (3 : Int32))] 4)) t := fun t k => castTop (ef_li3_4_2 m tt kb v0 v1 v2 v3) k
  obtain ⟨_, _, ⟨T1, L1, k1, n1⟩, -, X1, ⟨Lc1, hQ1, cl_1, cy_1, cz_1⟩, st1⟩ := Jvm.LawKit.callS X0 hx (y := (⟨"java/lang/StringLatin1", "canEncode", "(I)Z"⟩ : MethodName)) hown (mvT hZ (hw _ (List.mem_of_getElem? (i := 83) rfl))) (mvT hZ (hw _ (List.mem_of_getElem? (i := 84) rfl))) (mvT hZ (hw _ (List.mem_of_getElem? (i := 81) rfl))) (mvT hZ (hw _ (List.mem_of_getElem? (i := 85) rfl))) (by decide) (backOf (W := 0) (canEnc l Z a0 hw [] zCS  h0 n0 O0 S_CS hCS hcH hcW   ) hZ (hw _ (List.mem_of_getElem? (i := 85) rfl)) (hw _ (List.mem_of_getElem? (i := 81) rfl)) (by decide) (by decide)) (g := (mkF m 1 #[.val (.ref tt), .val (.int (46 : Int32)), .val (.int (3 : Int32)), .unset] [(.int (46 : Int32))])) rfl (by rw [hml]; rfl) (argsL := [(.int (46 : Int32))]) (rest := []) (lenOf pd_2 rfl) rfl (by show 2 * 0 + _ ≤ _; exact Nat.le_of_eq rfl) (hb hby d17_1) (fun _ _ => ⟨rfl, e0, (by decide : 0 + 0 ≤ _), (by decide : 0 + 0 ≤ _)⟩)
  dsimp only [Pt.U, Pt.locs, Pt.cells, Pt.slots] at X1 cl_1 cy_1 cz_1 st1 hQ1
  rw [cl_1, cy_1, cz_1] at X1
  obtain ⟨rfl, N1q, e1⟩ := hQ1
  have N1 := Fr.app N0 N1q
  obtain ⟨cl2, Ar2, -, S2, M2, -, -⟩ := id At
  obtain ⟨_, _, ⟨T3, L3, k3, n3⟩, -, X3, ⟨Lc3, hQ3, cl_3, cy_3, cz_3⟩, st3⟩ := Jvm.LawKit.callS X1 hx (y := (⟨"java/lang/Math", "min", "(II)I"⟩ : MethodName)) hown (mvT hZ (hw _ (List.mem_of_getElem? (i := 86) rfl))) (mvT hZ (hw _ (List.mem_of_getElem? (i := 87) rfl))) (mvT hZ (hw _ (List.mem_of_getElem? (i := 88) rfl))) (mvT hZ (hw _ (List.mem_of_getElem? (i := 89) rfl))) (by decide) (backOf (W := 0) (min4_2 l Z a0 hw [] zCS  h0 n0 O0 S_CS hCS hcH hcW   ) hZ (hw _ (List.mem_of_getElem? (i := 89) rfl)) (hw _ (List.mem_of_getElem? (i := 88) rfl)) (by decide) (by decide)) (g := (mkF m 14 #[.val (.ref tt), .val (.int (46 : Int32)), .val (.int (3 : Int32)), .unset] [(.int (3 : Int32)), (.int (3 : Int32))])) rfl (by rw [hml]; rfl) (argsL := [(.int (3 : Int32)), (.int (3 : Int32))]) (rest := []) (lenOf pd_3 rfl) rfl (by show 2 * 0 + _ ≤ _; exact Nat.le_of_eq rfl) (hb hby d17_14) (fun _ _ => ⟨rfl, e1, (by decide : 0 + 0 ≤ _), (by decide : 0 + 0 ≤ _)⟩)
  dsimp only [Pt.U, Pt.locs, Pt.cells, Pt.slots] at X3 cl_3 cy_3 cz_3 st3 hQ3
  rw [cl_3, cy_3, cz_3] at X3
  obtain ⟨rfl, N3q, e3⟩ := hQ3
  have N3 := Fr.app N1 N3q
  obtain ⟨cl4, Ar4, q4, S4, M4, H4, G4⟩ := id At
  have in4 : ¬ ((3 : Int32) < 0 ∨ cl4.slots.size ≤ ((3 : Int32)).toNatClampNeg) := inb_of S4 ⟨by decide, by decide⟩
  have at4 : cl4.slots[((3 : Int32)).toNatClampNeg]? = some (.int v3) := H4.at in4 rfl
  obtain ⟨cl5, Ar5, q5, S5, M5, H5, G5⟩ := id At
  have in5 : ¬ ((2 : Int32) < 0 ∨ cl5.slots.size ≤ ((2 : Int32)).toNatClampNeg) := inb_of S5 ⟨by decide, by decide⟩
  have at5 : cl5.slots[((2 : Int32)).toNatClampNeg]? = some (.int v2) := H5.at in5 rfl
  have R6 : ∀ t, Steps p.tables e below (T3.setTop (mkF m 31 #[.val (.ref tt), .val (.int (46 : Int32)), .val (.int (3 : Int32)), .val (.int (2 : Int32))] [(.int (2 : Int32))])) t → Steps p.tables e below (s₁.setTop (entryFrame m #[(.ref tt), (.int (46 : Int32)), (.int (3 : Int32))] 4)) t := by
    intro t k
    refine R0 t ?_
    show Steps p.tables e below (s₁.setTop (mkF m 0 #[.val (.ref tt), .val (.int (46 : Int32)), .val (.int (3 : Int32)), .unset] [])) t
    refine XS.iloadN X0.here hx rfl (hb hby d17_0) rfl ?_
    show Steps p.tables e below (s₁.setTop (mkF m 1 #[.val (.ref tt), .val (.int (46 : Int32)), .val (.int (3 : Int32)), .unset] [(.int (46 : Int32))])) t
    refine st1 _ ?_
    show Steps p.tables e below (T1.setTop (mkF m 4 #[.val (.ref tt), .val (.int (46 : Int32)), .val (.int (3 : Int32)), .unset] [(.int (1 : Int32))])) t
    refine XS.ifYes X1.here hx rfl (pc0 := 4) (pc' := 9) rfl (hb hby d17_4) rfl ((if0 _ _).trans (feq ((by decide) : ¬ ((1 : Int32) = (0 : Int32)))).2) (by decide) (by decide) ?_
    show Steps p.tables e below (T1.setTop (mkF m 9 #[.val (.ref tt), .val (.int (46 : Int32)), .val (.int (3 : Int32)), .unset] [])) t
    refine XS.iloadN X1.here hx rfl (hb hby d17_9) rfl ?_
    show Steps p.tables e below (T1.setTop (mkF m 10 #[.val (.ref tt), .val (.int (46 : Int32)), .val (.int (3 : Int32)), .unset] [(.int (3 : Int32))])) t
    refine XS.aloadN X1.here hx rfl (hb hby d17_10) rfl rfl ?_
    show Steps p.tables e below (T1.setTop (mkF m 11 #[.val (.ref tt), .val (.int (46 : Int32)), .val (.int (3 : Int32)), .unset] [(.ref tt), (.int (3 : Int32))])) t
    refine X1.arraylength hx (by rw [e1]; exact Ar2.1) (State.isArrayOf_alike hZ.alike Ar2.2.1) (g := (mkF m 11 #[.val (.ref tt), .val (.int (46 : Int32)), .val (.int (3 : Int32)), .unset] [(.ref tt), (.int (3 : Int32))])) rfl rfl (hb hby d17_11) _ ?_
    rw [len_of S2 M2]
    show Steps p.tables e below (T1.setTop (mkF m 12 #[.val (.ref tt), .val (.int (46 : Int32)), .val (.int (3 : Int32)), .unset] [(.int (4 : Int32)), (.int (3 : Int32))])) t
    refine XS.iconst X1.here hx rfl (hb hby d17_12) ?_
    show Steps p.tables e below (T1.setTop (mkF m 13 #[.val (.ref tt), .val (.int (46 : Int32)), .val (.int (3 : Int32)), .unset] [(.int (1 : Int32)), (.int (4 : Int32)), (.int (3 : Int32))])) t
    refine XS.isub X1.here hx rfl (hb hby d17_13) rfl ?_
    show Steps p.tables e below (T1.setTop (mkF m 14 #[.val (.ref tt), .val (.int (46 : Int32)), .val (.int (3 : Int32)), .unset] [(.int ((4 : Int32) - (1 : Int32))), (.int (3 : Int32))])) t
    rw [show ((4 : Int32) - (1 : Int32)) = (3 : Int32) from by decide]
    show Steps p.tables e below (T1.setTop (mkF m 14 #[.val (.ref tt), .val (.int (46 : Int32)), .val (.int (3 : Int32)), .unset] [(.int (3 : Int32)), (.int (3 : Int32))])) t
    refine st3 _ ?_
    show Steps p.tables e below (T3.setTop (mkF m 17 #[.val (.ref tt), .val (.int (46 : Int32)), .val (.int (3 : Int32)), .unset] [(.int (3 : Int32))])) t
    refine XS.istoreN X3.here hx rfl (hb hby d17_17) rfl (l' := #[.val (.ref tt), .val (.int (46 : Int32)), .val (.int (3 : Int32)), .val (.int (3 : Int32))]) rfl ?_
    show Steps p.tables e below (T3.setTop (mkF m 18 #[.val (.ref tt), .val (.int (46 : Int32)), .val (.int (3 : Int32)), .val (.int (3 : Int32))] [])) t
    refine XS.iloadN X3.here hx rfl (hb hby d17_18) rfl ?_
    show Steps p.tables e below (T3.setTop (mkF m 19 #[.val (.ref tt), .val (.int (46 : Int32)), .val (.int (3 : Int32)), .val (.int (3 : Int32))] [(.int (3 : Int32))])) t
    refine XS.ifNo X3.here hx rfl (hb hby d17_19) rfl ((if0 _ _).trans (flt ((by decide) : ¬ ((3 : Int32) < (0 : Int32)))).1) ?_
    show Steps p.tables e below (T3.setTop (mkF m 22 #[.val (.ref tt), .val (.int (46 : Int32)), .val (.int (3 : Int32)), .val (.int (3 : Int32))] [])) t
    refine XS.aloadN X3.here hx rfl (hb hby d17_22) rfl rfl ?_
    show Steps p.tables e below (T3.setTop (mkF m 23 #[.val (.ref tt), .val (.int (46 : Int32)), .val (.int (3 : Int32)), .val (.int (3 : Int32))] [(.ref tt)])) t
    refine XS.iloadN X3.here hx rfl (hb hby d17_23) rfl ?_
    show Steps p.tables e below (T3.setTop (mkF m 24 #[.val (.ref tt), .val (.int (46 : Int32)), .val (.int (3 : Int32)), .val (.int (3 : Int32))] [(.int (3 : Int32)), (.ref tt)])) t
    refine X3.baloadBytes hx (j := (3 : Int32)) (v := (.int v3)) (by rw [e3]; exact Ar4.1) (State.isArrayOf_alike hZ.alike Ar4.2.1) Ar4.2.2 in4 at4 (g := (mkF m 24 #[.val (.ref tt), .val (.int (46 : Int32)), .val (.int (3 : Int32)), .val (.int (3 : Int32))] [(.int (3 : Int32)), (.ref tt)])) rfl rfl (hb hby d17_24) _ ?_
    show Steps p.tables e below (T3.setTop (mkF m 25 #[.val (.ref tt), .val (.int (46 : Int32)), .val (.int (3 : Int32)), .val (.int (3 : Int32))] [(.int v3)])) t
    refine XS.iloadN X3.here hx rfl (hb hby d17_25) rfl ?_
    show Steps p.tables e below (T3.setTop (mkF m 26 #[.val (.ref tt), .val (.int (46 : Int32)), .val (.int (3 : Int32)), .val (.int (3 : Int32))] [(.int (46 : Int32)), (.int v3)])) t
    refine XS.i2b X3.here hx rfl (hb hby d17_26) rfl ?_
    show Steps p.tables e below (T3.setTop (mkF m 27 #[.val (.ref tt), .val (.int (46 : Int32)), .val (.int (3 : Int32)), .val (.int (3 : Int32))] [(.int ((46 : Int32).toInt8.toInt32)), (.int v3)])) t
    rw [show ((46 : Int32).toInt8.toInt32) = (46 : Int32) from by decide]
    show Steps p.tables e below (T3.setTop (mkF m 27 #[.val (.ref tt), .val (.int (46 : Int32)), .val (.int (3 : Int32)), .val (.int (3 : Int32))] [(.int (46 : Int32)), (.int v3)])) t
    refine XS.icmpYes X3.here hx rfl (pc0 := 27) (pc' := 32) rfl (hb hby d17_27) rfl (feq (hv3 : ¬ (v3 = (46 : Int32)))).2 (by decide) (by decide) ?_
    show Steps p.tables e below (T3.setTop (mkF m 32 #[.val (.ref tt), .val (.int (46 : Int32)), .val (.int (3 : Int32)), .val (.int (3 : Int32))] [])) t
    refine XS.iinc X3.here hx rfl (hb hby d17_32) rfl (l' := #[.val (.ref tt), .val (.int (46 : Int32)), .val (.int (3 : Int32)), .val (.int (2 : Int32))]) rfl ?_
    show Steps p.tables e below (T3.setTop (mkF m 35 #[.val (.ref tt), .val (.int (46 : Int32)), .val (.int (3 : Int32)), .val (.int (2 : Int32))] [])) t
    refine XS.goto X3.here hx rfl (pc0 := 35) (pc' := 18) rfl (hb hby d17_35) (by decide) (by decide) ?_
    show Steps p.tables e below (T3.setTop (mkF m 18 #[.val (.ref tt), .val (.int (46 : Int32)), .val (.int (3 : Int32)), .val (.int (2 : Int32))] [])) t
    refine XS.iloadN X3.here hx rfl (hb hby d17_18) rfl ?_
    show Steps p.tables e below (T3.setTop (mkF m 19 #[.val (.ref tt), .val (.int (46 : Int32)), .val (.int (3 : Int32)), .val (.int (2 : Int32))] [(.int (2 : Int32))])) t
    refine XS.ifNo X3.here hx rfl (hb hby d17_19) rfl ((if0 _ _).trans (flt ((by decide) : ¬ ((2 : Int32) < (0 : Int32)))).1) ?_
    show Steps p.tables e below (T3.setTop (mkF m 22 #[.val (.ref tt), .val (.int (46 : Int32)), .val (.int (3 : Int32)), .val (.int (2 : Int32))] [])) t
    refine XS.aloadN X3.here hx rfl (hb hby d17_22) rfl rfl ?_
    show Steps p.tables e below (T3.setTop (mkF m 23 #[.val (.ref tt), .val (.int (46 : Int32)), .val (.int (3 : Int32)), .val (.int (2 : Int32))] [(.ref tt)])) t
    refine XS.iloadN X3.here hx rfl (hb hby d17_23) rfl ?_
    show Steps p.tables e below (T3.setTop (mkF m 24 #[.val (.ref tt), .val (.int (46 : Int32)), .val (.int (3 : Int32)), .val (.int (2 : Int32))] [(.int (2 : Int32)), (.ref tt)])) t
    refine X3.baloadBytes hx (j := (2 : Int32)) (v := (.int v2)) (by rw [e3]; exact Ar5.1) (State.isArrayOf_alike hZ.alike Ar5.2.1) Ar5.2.2 in5 at5 (g := (mkF m 24 #[.val (.ref tt), .val (.int (46 : Int32)), .val (.int (3 : Int32)), .val (.int (2 : Int32))] [(.int (2 : Int32)), (.ref tt)])) rfl rfl (hb hby d17_24) _ ?_
    show Steps p.tables e below (T3.setTop (mkF m 25 #[.val (.ref tt), .val (.int (46 : Int32)), .val (.int (3 : Int32)), .val (.int (2 : Int32))] [(.int v2)])) t
    refine XS.iloadN X3.here hx rfl (hb hby d17_25) rfl ?_
    show Steps p.tables e below (T3.setTop (mkF m 26 #[.val (.ref tt), .val (.int (46 : Int32)), .val (.int (3 : Int32)), .val (.int (2 : Int32))] [(.int (46 : Int32)), (.int v2)])) t
    refine XS.i2b X3.here hx rfl (hb hby d17_26) rfl ?_
    show Steps p.tables e below (T3.setTop (mkF m 27 #[.val (.ref tt), .val (.int (46 : Int32)), .val (.int (3 : Int32)), .val (.int (2 : Int32))] [(.int ((46 : Int32).toInt8.toInt32)), (.int v2)])) t
    rw [show ((46 : Int32).toInt8.toInt32) = (46 : Int32) from by decide]
    show Steps p.tables e below (T3.setTop (mkF m 27 #[.val (.ref tt), .val (.int (46 : Int32)), .val (.int (3 : Int32)), .val (.int (2 : Int32))] [(.int (46 : Int32)), (.int v2)])) t
    refine XS.icmpNo X3.here hx rfl (hb hby d17_27) rfl (teq (hv2 : v2 = (46 : Int32))).2 ?_
    show Steps p.tables e below (T3.setTop (mkF m 30 #[.val (.ref tt), .val (.int (46 : Int32)), .val (.int (3 : Int32)), .val (.int (2 : Int32))] [])) t
    refine XS.iloadN X3.here hx rfl (hb hby d17_30) rfl ?_
    exact k
  obtain ⟨fs, hr, hrun, hended, hW, hsame⟩ := X3.leave (v := some (.int (2 : Int32))) (fun h => by rw [Bd.returns] at h; cases h)
  refine ⟨_, _, R6 _ ?_, hrun, hended, _, _, rfl, ?_, ⟨_, rfl⟩, hW, hsame.mono (by decide) (by decide)⟩
  · show Steps p.tables e below (T3.setTop (mkF m 31 #[.val (.ref tt), .val (.int (46 : Int32)), .val (.int (3 : Int32)), .val (.int (2 : Int32))] [(.int (2 : Int32))])) _
    exact retOut X3 hx Bd.returns rfl (Or.inl ⟨rfl, Or.inl rfl, _, rfl⟩) (hb hby d17_31) hr
  · show Q_li3_4_2 Z zCS tt kb v0 v1 v2 v3 h0 n0 _ T3.heap _
    rw [e3]
    exact ⟨rfl, N3, rfl⟩
theorem ef_li2_4_2 (m : MethodId) (a : Addr) (tt : Addr) (kb : ClassId) (v0 : Int32) (v1 : Int32) (v2 : Int32) (v3 : Int32) : entryFrame m #[(.ref a), (.int (46 : Int32)), (.int (3 : Int32))] 3 = mkF m 0 #[.val (.ref a), .val (.int (46 : Int32)), .val (.int (3 : Int32))] [] := by first | (simp [entryFrame, mkF, argsToLocals, Value.category]; done) | rfl
def Q_li2_4_2 (Z : State) (zCS : Int32) (a : Addr) (tt : Addr) (kb : ClassId) (v0 : Int32) (v1 : Int32) (v2 : Int32) (v3 : Int32) (h0 : Heap) (n0 : Nat) (vv_ : Option Value) (hh_ : Heap) (LL_ : List Loc) : Prop := vv_ = some (.int (2 : Int32)) ∧ (Fr n0 LL_) ∧ (hh_ = h0)
set_option maxRecDepth 65536 in
set_option maxHeartbeats 40000000 in
theorem li2_4_2 (l : Launch) (Z : State) (a0 : Array Value) (hw : ∀ d ∈ tables_1, d.before a0 Z = true) (ws : List Jvm.Cond) (zCS : Int32) (a : Addr) (tt : Addr) (kb : ClassId) (v0 : Int32) (v1 : Int32) (v2 : Int32) (v3 : Int32) (h0 : Heap) (n0 : Nat) (O0 : Old Z n0 h0) (S_CS : Sta Z Z.heap "java/lang/String" "COMPACT_STRINGS" "Z" (.int zCS)) (hCS : ¬ (zCS = (0 : Int32))) (hcH : Jvm.Lit.constHeld Z "java/lang/String" 7) (hcW : Jvm.Lit.compactW.before a0 Z = true) (Ea : Exa Z h0 a "java/lang/String") (Fc : Fld Z h0 a "java/lang/String" "coder" "B" (.int (0 : Int32))) (Fv : Fld Z h0 a "java/lang/String" "value" "[B" (.ref tt)) (At : Arv Z h0 tt kb .byte (4 : Int32) [(.int v0), (.int v1), (.int v2), (.int v3)] (.int 0)) (hv3 : ¬ (v3 = (46 : Int32))) (hv2 : v2 = (46 : Int32)) :
    MetFree l (⟨"java/lang/String", "lastIndexOf", "(II)I"⟩ : MethodName) (head1 (Jvm.Cond.code (⟨"java/lang/String", "lastIndexOf", "(II)I"⟩ : MethodName) jdk_42_method_83_code 3 (some .int) :: ws) ({ frames := 2, cells := 0, slots := 0, locals := 28 } : Room)) (fun aa_ U_ => aa_ = #[(.ref a), (.int (46 : Int32)), (.int (3 : Int32))] ∧ Z.Warmed39 U_.vm ∧ U_.heap = h0) (fun _ _ _ _ _ => True) (fun _ U_ oo_ V_ => ∃ vv_ LL_, oo_ = .returned vv_ ∧ Q_li2_4_2 Z zCS a tt kb v0 v1 v2 v3 h0 n0 vv_ V_.heap LL_ ∧ FrameEnd U_ oo_ V_ LL_ ({ frames := 2, cells := 0, slots := 0, locals := 28 } : Room).cells ({ frames := 2, cells := 0, slots := 0, locals := 28 } : Room).slots) := by
  refine MetFree.of_bodySF (plainFor_of_name pn_java_lang_String) hisR ?_
  intro p e s m args below meth c s₁ Bd hml0 hP hK
  obtain ⟨rfl, hZ, hh⟩ := hP
  have hx := Bd.exec
  have hby := Bd.bytes
  have hml : c.maxLocals = 3 := hml0
  have hown : s.vm.findClass "java/lang/String" = some m.cls := findClass_of_methodNamed Bd.named
  have hnm := (name_of_methodNamed Bd.named Bd.method).1
  have X0 : Stand p l e ({ frames := 2, cells := 0, slots := 0, locals := 28 } : Room) s m #[(.ref a), (.int (46 : Int32)), (.int (3 : Int32))] below meth c s₁ [] 0 0 := Stand.of_body Bd
  have e0 : s₁.heap = h0 := by rw [← hh, Bd.state]; rfl
  have N0 := Fr.nil n0
  have Z0 : n0 ≤ h0.size := O0.1 ▸ O0.2.1
  have hk0 := Nat.zero_le h0.size
  have K0 : Keep h0 h0 [] := Keep.refl _ _
  have R0 : ∀ t, Steps p.tables e below (s₁.setTop (mkF m 0 #[.val (.ref a), .val (.int (46 : Int32)), .val (.int (3 : Int32))] [])) t → Steps p.tables e below (s₁.setTop (entryFrame m #[(.ref a), (.int (46 : Int32)), (.int (3 : Int32))] 3)) t := fun t k => castTop (ef_li2_4_2 m a tt kb v0 v1 v2 v3) k
  obtain ⟨cq1, kq1, q1a, q1b, q1c⟩ := isOf hZ e0 Ea
  obtain ⟨_, _, ⟨T1, L1, k1, n1⟩, -, X1, ⟨Lc1, hQ1, cl_1, cy_1, cz_1⟩, st1⟩ := X0.virtualBack hx (y := (⟨"java/lang/String", "isLatin1", "()Z"⟩ : MethodName)) (z := (⟨"java/lang/String", "isLatin1", "()Z"⟩ : MethodName)) hown (mvT hZ (hw _ (List.mem_of_getElem? (i := 74) rfl))) (mvT hZ (hw _ (List.mem_of_getElem? (i := 75) rfl))) (notFace_of_selects (args := #[]) (mvT hZ (hw _ (List.mem_of_getElem? (i := 77) rfl)))) (mvT hZ (hw _ (List.mem_of_getElem? (i := 77) rfl))) (mvT hZ (hw _ (List.mem_of_getElem? (i := 76) rfl))) (by decide) (backOf (W := 0) (isLat l Z a0 hw [] zCS a h0 n0 O0 S_CS hCS hcH hcW   Ea Fc) hZ (hw _ (List.mem_of_getElem? (i := 78) rfl)) (hw _ (List.mem_of_getElem? (i := 10) rfl)) (by decide) (by decide)) q1a q1c (g := (mkF m 1 #[.val (.ref a), .val (.int (46 : Int32)), .val (.int (3 : Int32))] [(.ref a)])) rfl (by rw [hml]; rfl) (Steps.refl _) (argsL := []) (rest := []) (lenOf pd_4 rfl) rfl (by show 2 * 0 + _ ≤ _; exact Nat.le_of_eq rfl) (hb hby d15_1) (fun _ _ => ⟨rfl, e0, (by decide : 0 + 0 ≤ _), (by decide : 0 + 0 ≤ _)⟩)
  dsimp only [Pt.U, Pt.locs, Pt.cells, Pt.slots] at X1 cl_1 cy_1 cz_1 st1 hQ1
  rw [cl_1, cy_1, cz_1] at X1
  obtain ⟨rfl, N1q, e1⟩ := hQ1
  have N1 := Fr.app N0 N1q
  obtain ⟨T2, X2, e2, st2⟩ := getF X1 hx hZ hown (host := "") (Or.inl (hw _ (List.mem_of_getElem? (i := 28) rfl))) Via.refl e1 Fv (g := (mkF m 8 #[.val (.ref a), .val (.int (46 : Int32)), .val (.int (3 : Int32))] [(.ref a)])) rfl rfl (hb hby d15_8)
  obtain ⟨_, _, ⟨T3, L3, k3, n3⟩, -, X3, ⟨Lc3, hQ3, cl_3, cy_3, cz_3⟩, st3⟩ := Jvm.LawKit.callS X2 hx (y := (⟨"java/lang/StringLatin1", "lastIndexOf", "([BII)I"⟩ : MethodName)) hown (mvT hZ (hw _ (List.mem_of_getElem? (i := 79) rfl))) (mvT hZ (hw _ (List.mem_of_getElem? (i := 80) rfl))) (mvT hZ (hw _ (List.mem_of_getElem? (i := 81) rfl))) (mvT hZ (hw _ (List.mem_of_getElem? (i := 82) rfl))) (by decide) (backOf (W := 0) (li3_4_2 l Z a0 hw [] zCS tt kb v0 v1 v2 v3 h0 n0 O0 S_CS hCS hcH hcW   At hv3 hv2) hZ (hw _ (List.mem_of_getElem? (i := 82) rfl)) (hw _ (List.mem_of_getElem? (i := 81) rfl)) (by decide) (by decide)) (g := (mkF m 13 #[.val (.ref a), .val (.int (46 : Int32)), .val (.int (3 : Int32))] [(.int (3 : Int32)), (.int (46 : Int32)), (.ref tt)])) rfl (by rw [hml]; rfl) (argsL := [(.ref tt), (.int (46 : Int32)), (.int (3 : Int32))]) (rest := []) (lenOf pd_5 rfl) rfl (by show 2 * 0 + _ ≤ _; exact Nat.le_of_eq rfl) (hb hby d15_13) (fun _ _ => ⟨rfl, e2, (by decide : 0 + 0 ≤ _), (by decide : 0 + 0 ≤ _)⟩)
  dsimp only [Pt.U, Pt.locs, Pt.cells, Pt.slots] at X3 cl_3 cy_3 cz_3 st3 hQ3
  rw [cl_3, cy_3, cz_3] at X3
  obtain ⟨rfl, N3q, e3⟩ := hQ3
  have N3 := Fr.app N1 N3q
  have R4 : ∀ t, Steps p.tables e below (T3.setTop (mkF m 28 #[.val (.ref a), .val (.int (46 : Int32)), .val (.int (3 : Int32))] [(.int (2 : Int32))])) t → Steps p.tables e below (s₁.setTop (entryFrame m #[(.ref a), (.int (46 : Int32)), (.int (3 : Int32))] 3)) t := by
    intro t k
    refine R0 t ?_
    show Steps p.tables e below (s₁.setTop (mkF m 0 #[.val (.ref a), .val (.int (46 : Int32)), .val (.int (3 : Int32))] [])) t
    refine XS.aloadN X0.here hx rfl (hb hby d15_0) rfl rfl ?_
    show Steps p.tables e below (s₁.setTop (mkF m 1 #[.val (.ref a), .val (.int (46 : Int32)), .val (.int (3 : Int32))] [(.ref a)])) t
    refine st1.trans ?_
    show Steps p.tables e below (T1.setTop (mkF m 4 #[.val (.ref a), .val (.int (46 : Int32)), .val (.int (3 : Int32))] [(.int (1 : Int32))])) t
    refine XS.ifNo X1.here hx rfl (hb hby d15_4) rfl ((if0 _ _).trans (feq ((by decide) : ¬ ((1 : Int32) = (0 : Int32)))).1) ?_
    show Steps p.tables e below (T1.setTop (mkF m 7 #[.val (.ref a), .val (.int (46 : Int32)), .val (.int (3 : Int32))] [])) t
    refine XS.aloadN X1.here hx rfl (hb hby d15_7) rfl rfl ?_
    show Steps p.tables e below (T1.setTop (mkF m 8 #[.val (.ref a), .val (.int (46 : Int32)), .val (.int (3 : Int32))] [(.ref a)])) t
    refine st2 _ ?_
    show Steps p.tables e below (T2.setTop (mkF m 11 #[.val (.ref a), .val (.int (46 : Int32)), .val (.int (3 : Int32))] [(.ref tt)])) t
    refine XS.iloadN X2.here hx rfl (hb hby d15_11) rfl ?_
    show Steps p.tables e below (T2.setTop (mkF m 12 #[.val (.ref a), .val (.int (46 : Int32)), .val (.int (3 : Int32))] [(.int (46 : Int32)), (.ref tt)])) t
    refine XS.iloadN X2.here hx rfl (hb hby d15_12) rfl ?_
    show Steps p.tables e below (T2.setTop (mkF m 13 #[.val (.ref a), .val (.int (46 : Int32)), .val (.int (3 : Int32))] [(.int (3 : Int32)), (.int (46 : Int32)), (.ref tt)])) t
    refine st3 _ ?_
    show Steps p.tables e below (T3.setTop (mkF m 16 #[.val (.ref a), .val (.int (46 : Int32)), .val (.int (3 : Int32))] [(.int (2 : Int32))])) t
    refine XS.goto X3.here hx rfl (pc0 := 16) (pc' := 28) rfl (hb hby d15_16) (by decide) (by decide) ?_
    exact k
  obtain ⟨fs, hr, hrun, hended, hW, hsame⟩ := X3.leave (v := some (.int (2 : Int32))) (fun h => by rw [Bd.returns] at h; cases h)
  refine ⟨_, _, R4 _ ?_, hrun, hended, _, _, rfl, ?_, ⟨_, rfl⟩, hW, hsame.mono (by decide) (by decide)⟩
  · show Steps p.tables e below (T3.setTop (mkF m 28 #[.val (.ref a), .val (.int (46 : Int32)), .val (.int (3 : Int32))] [(.int (2 : Int32))])) _
    exact retOut X3 hx Bd.returns rfl (Or.inl ⟨rfl, Or.inl rfl, _, rfl⟩) (hb hby d15_28) hr
  · show Q_li2_4_2 Z zCS a tt kb v0 v1 v2 v3 h0 n0 _ T3.heap _
    rw [e3]
    exact ⟨rfl, N3, rfl⟩
theorem ef_slen4_2 (m : MethodId) (a : Addr) (tt : Addr) (kb : ClassId) (v0 : Int32) (v1 : Int32) (v2 : Int32) (v3 : Int32) : entryFrame m #[(.ref a)] 1 = mkF m 0 #[.val (.ref a)] [] := by first | (simp [entryFrame, mkF, argsToLocals, Value.category]; done) | rfl
def Q_slen4_2 (Z : State) (zCS : Int32) (a : Addr) (tt : Addr) (kb : ClassId) (v0 : Int32) (v1 : Int32) (v2 : Int32) (v3 : Int32) (h0 : Heap) (n0 : Nat) (vv_ : Option Value) (hh_ : Heap) (LL_ : List Loc) : Prop := vv_ = some (.int (4 : Int32)) ∧ (Fr n0 LL_) ∧ (hh_ = h0)
set_option maxRecDepth 65536 in
set_option maxHeartbeats 40000000 in
theorem slen4_2 (l : Launch) (Z : State) (a0 : Array Value) (hw : ∀ d ∈ tables_1, d.before a0 Z = true) (ws : List Jvm.Cond) (zCS : Int32) (a : Addr) (tt : Addr) (kb : ClassId) (v0 : Int32) (v1 : Int32) (v2 : Int32) (v3 : Int32) (h0 : Heap) (n0 : Nat) (O0 : Old Z n0 h0) (S_CS : Sta Z Z.heap "java/lang/String" "COMPACT_STRINGS" "Z" (.int zCS)) (hCS : ¬ (zCS = (0 : Int32))) (hcH : Jvm.Lit.constHeld Z "java/lang/String" 7) (hcW : Jvm.Lit.compactW.before a0 Z = true) (Ea : Exa Z h0 a "java/lang/String") (Fc : Fld Z h0 a "java/lang/String" "coder" "B" (.int (0 : Int32))) (Fv : Fld Z h0 a "java/lang/String" "value" "[B" (.ref tt)) (At : Arv Z h0 tt kb .byte (4 : Int32) [(.int v0), (.int v1), (.int v2), (.int v3)] (.int 0)) :
    MetFree l (⟨"java/lang/String", "length", "()I"⟩ : MethodName) (head1 (Jvm.Cond.code (⟨"java/lang/String", "length", "()I"⟩ : MethodName) jdk_42_method_54_code 1 (some .int) :: ws) ({ frames := 1, cells := 0, slots := 0, locals := 13 } : Room)) (fun aa_ U_ => aa_ = #[(.ref a)] ∧ Z.Warmed39 U_.vm ∧ U_.heap = h0) (fun _ _ _ _ _ => True) (fun _ U_ oo_ V_ => ∃ vv_ LL_, oo_ = .returned vv_ ∧ Q_slen4_2 Z zCS a tt kb v0 v1 v2 v3 h0 n0 vv_ V_.heap LL_ ∧ FrameEnd U_ oo_ V_ LL_ ({ frames := 1, cells := 0, slots := 0, locals := 13 } : Room).cells ({ frames := 1, cells := 0, slots := 0, locals := 13 } : Room).slots) := by
  refine MetFree.of_bodySF (plainFor_of_name pn_java_lang_String) hisR ?_
  intro p e s m args below meth c s₁ Bd hml0 hP hK
  obtain ⟨rfl, hZ, hh⟩ := hP
  have hx := Bd.exec
  have hby := Bd.bytes
  have hml : c.maxLocals = 1 := hml0
  have hown : s.vm.findClass "java/lang/String" = some m.cls := findClass_of_methodNamed Bd.named
  have hnm := (name_of_methodNamed Bd.named Bd.method).1
  have X0 : Stand p l e ({ frames := 1, cells := 0, slots := 0, locals := 13 } : Room) s m #[(.ref a)] below meth c s₁ [] 0 0 := Stand.of_body Bd
  have e0 : s₁.heap = h0 := by rw [← hh, Bd.state]; rfl
  have N0 := Fr.nil n0
  have Z0 : n0 ≤ h0.size := O0.1 ▸ O0.2.1
  have hk0 := Nat.zero_le h0.size
  have K0 : Keep h0 h0 [] := Keep.refl _ _
  have R0 : ∀ t, Steps p.tables e below (s₁.setTop (mkF m 0 #[.val (.ref a)] [])) t → Steps p.tables e below (s₁.setTop (entryFrame m #[(.ref a)] 1)) t := fun t k => castTop (ef_slen4_2 m a tt kb v0 v1 v2 v3) k
  obtain ⟨T1, X1, e1, st1⟩ := getF X0 hx hZ hown (host := "") (Or.inl (hw _ (List.mem_of_getElem? (i := 28) rfl))) Via.refl e0 Fv (g := (mkF m 1 #[.val (.ref a)] [(.ref a)])) rfl rfl (hb hby d13_1)
  obtain ⟨cl2, Ar2, -, S2, M2, -, -⟩ := id At
  obtain ⟨cq3, kq3, q3a, q3b, q3c⟩ := isOf hZ e1 Ea
  obtain ⟨_, _, ⟨T3, L3, k3, n3⟩, -, X3, ⟨Lc3, hQ3, cl_3, cy_3, cz_3⟩, st3⟩ := X1.virtualBack hx (y := (⟨"java/lang/String", "coder", "()B"⟩ : MethodName)) (z := (⟨"java/lang/String", "coder", "()B"⟩ : MethodName)) hown (mvT hZ (hw _ (List.mem_of_getElem? (i := 64) rfl))) (mvT hZ (hw _ (List.mem_of_getElem? (i := 65) rfl))) (notFace_of_selects (args := #[]) (mvT hZ (hw _ (List.mem_of_getElem? (i := 67) rfl)))) (mvT hZ (hw _ (List.mem_of_getElem? (i := 67) rfl))) (mvT hZ (hw _ (List.mem_of_getElem? (i := 66) rfl))) (by decide) (backOf (W := 1) (coder l Z a0 hw [] zCS a h0 n0 O0 S_CS hCS hcH hcW   Ea Fc) hZ (hw _ (List.mem_of_getElem? (i := 68) rfl)) (hw _ (List.mem_of_getElem? (i := 10) rfl)) (by decide) (by decide)) q3a q3c (g := (mkF m 6 #[.val (.ref a)] [(.ref a), (.int (4 : Int32))])) rfl (by rw [hml]; rfl) (Steps.refl _) (argsL := []) (rest := [(.int (4 : Int32))]) (lenOf pd_6 rfl) rfl (by show 2 * 0 + _ ≤ _; exact Nat.le_of_eq rfl) (hb hby d13_6) (fun _ _ => ⟨rfl, e1, (by decide : 0 + 0 ≤ _), (by decide : 0 + 0 ≤ _)⟩)
  dsimp only [Pt.U, Pt.locs, Pt.cells, Pt.slots] at X3 cl_3 cy_3 cz_3 st3 hQ3
  rw [cl_3, cy_3, cz_3] at X3
  obtain ⟨rfl, N3q, e3⟩ := hQ3
  have N3 := Fr.app N0 N3q
  have R4 : ∀ t, Steps p.tables e below (T3.setTop (mkF m 10 #[.val (.ref a)] [(.int (4 : Int32))])) t → Steps p.tables e below (s₁.setTop (entryFrame m #[(.ref a)] 1)) t := by
    intro t k
    refine R0 t ?_
    show Steps p.tables e below (s₁.setTop (mkF m 0 #[.val (.ref a)] [])) t
    refine XS.aloadN X0.here hx rfl (hb hby d13_0) rfl rfl ?_
    show Steps p.tables e below (s₁.setTop (mkF m 1 #[.val (.ref a)] [(.ref a)])) t
    refine st1 _ ?_
    show Steps p.tables e below (T1.setTop (mkF m 4 #[.val (.ref a)] [(.ref tt)])) t
    refine X1.arraylength hx (by rw [e1]; exact Ar2.1) (State.isArrayOf_alike hZ.alike Ar2.2.1) (g := (mkF m 4 #[.val (.ref a)] [(.ref tt)])) rfl rfl (hb hby d13_4) _ ?_
    rw [len_of S2 M2]
    show Steps p.tables e below (T1.setTop (mkF m 5 #[.val (.ref a)] [(.int (4 : Int32))])) t
    refine XS.aloadN X1.here hx rfl (hb hby d13_5) rfl rfl ?_
    show Steps p.tables e below (T1.setTop (mkF m 6 #[.val (.ref a)] [(.ref a), (.int (4 : Int32))])) t
    refine st3.trans ?_
    show Steps p.tables e below (T3.setTop (mkF m 9 #[.val (.ref a)] [(.int (0 : Int32)), (.int (4 : Int32))])) t
    refine XS.ishr X3.here hx rfl (hb hby d13_9) rfl ?_
    show Steps p.tables e below (T3.setTop (mkF m 10 #[.val (.ref a)] [(.int ((4 : Int32) >>> ((0 : Int32) &&& 31)))])) t
    rw [show ((4 : Int32) >>> ((0 : Int32) &&& 31)) = (4 : Int32) from by decide]
    exact k
  obtain ⟨fs, hr, hrun, hended, hW, hsame⟩ := X3.leave (v := some (.int (4 : Int32))) (fun h => by rw [Bd.returns] at h; cases h)
  refine ⟨_, _, R4 _ ?_, hrun, hended, _, _, rfl, ?_, ⟨_, rfl⟩, hW, hsame.mono (by decide) (by decide)⟩
  · show Steps p.tables e below (T3.setTop (mkF m 10 #[.val (.ref a)] [(.int (4 : Int32))])) _
    exact retOut X3 hx Bd.returns rfl (Or.inl ⟨rfl, Or.inl rfl, _, rfl⟩) (hb hby d13_10) hr
  · show Q_slen4_2 Z zCS a tt kb v0 v1 v2 v3 h0 n0 _ T3.heap _
    rw [e3]
    exact ⟨rfl, N3, rfl⟩
theorem ef_li1_4_2 (m : MethodId) (a : Addr) (tt : Addr) (kb : ClassId) (v0 : Int32) (v1 : Int32) (v2 : Int32) (v3 : Int32) : entryFrame m #[(.ref a), (.int (46 : Int32))] 2 = mkF m 0 #[.val (.ref a), .val (.int (46 : Int32))] [] := by first | (simp [entryFrame, mkF, argsToLocals, Value.category]; done) | rfl
def Q_li1_4_2 (Z : State) (zCS : Int32) (a : Addr) (tt : Addr) (kb : ClassId) (v0 : Int32) (v1 : Int32) (v2 : Int32) (v3 : Int32) (h0 : Heap) (n0 : Nat) (vv_ : Option Value) (hh_ : Heap) (LL_ : List Loc) : Prop := vv_ = some (.int (2 : Int32)) ∧ (Fr n0 LL_) ∧ (hh_ = h0)
set_option maxRecDepth 65536 in
set_option maxHeartbeats 40000000 in
theorem li1_4_2 (l : Launch) (Z : State) (a0 : Array Value) (hw : ∀ d ∈ tables_1, d.before a0 Z = true) (ws : List Jvm.Cond) (zCS : Int32) (a : Addr) (tt : Addr) (kb : ClassId) (v0 : Int32) (v1 : Int32) (v2 : Int32) (v3 : Int32) (h0 : Heap) (n0 : Nat) (O0 : Old Z n0 h0) (S_CS : Sta Z Z.heap "java/lang/String" "COMPACT_STRINGS" "Z" (.int zCS)) (hCS : ¬ (zCS = (0 : Int32))) (hcH : Jvm.Lit.constHeld Z "java/lang/String" 7) (hcW : Jvm.Lit.compactW.before a0 Z = true) (Ea : Exa Z h0 a "java/lang/String") (Fc : Fld Z h0 a "java/lang/String" "coder" "B" (.int (0 : Int32))) (Fv : Fld Z h0 a "java/lang/String" "value" "[B" (.ref tt)) (At : Arv Z h0 tt kb .byte (4 : Int32) [(.int v0), (.int v1), (.int v2), (.int v3)] (.int 0)) (hv3 : ¬ (v3 = (46 : Int32))) (hv2 : v2 = (46 : Int32)) :
    MetFree l (⟨"java/lang/String", "lastIndexOf", "(I)I"⟩ : MethodName) (head1 (Jvm.Cond.code (⟨"java/lang/String", "lastIndexOf", "(I)I"⟩ : MethodName) jdk_42_method_82_code 2 (some .int) :: ws) ({ frames := 3, cells := 0, slots := 0, locals := 42 } : Room)) (fun aa_ U_ => aa_ = #[(.ref a), (.int (46 : Int32))] ∧ Z.Warmed39 U_.vm ∧ U_.heap = h0) (fun _ _ _ _ _ => True) (fun _ U_ oo_ V_ => ∃ vv_ LL_, oo_ = .returned vv_ ∧ Q_li1_4_2 Z zCS a tt kb v0 v1 v2 v3 h0 n0 vv_ V_.heap LL_ ∧ FrameEnd U_ oo_ V_ LL_ ({ frames := 3, cells := 0, slots := 0, locals := 42 } : Room).cells ({ frames := 3, cells := 0, slots := 0, locals := 42 } : Room).slots) := by
  refine MetFree.of_bodySF (plainFor_of_name pn_java_lang_String) hisR ?_
  intro p e s m args below meth c s₁ Bd hml0 hP hK
  obtain ⟨rfl, hZ, hh⟩ := hP
  have hx := Bd.exec
  have hby := Bd.bytes
  have hml : c.maxLocals = 2 := hml0
  have hown : s.vm.findClass "java/lang/String" = some m.cls := findClass_of_methodNamed Bd.named
  have hnm := (name_of_methodNamed Bd.named Bd.method).1
  have X0 : Stand p l e ({ frames := 3, cells := 0, slots := 0, locals := 42 } : Room) s m #[(.ref a), (.int (46 : Int32))] below meth c s₁ [] 0 0 := Stand.of_body Bd
  have e0 : s₁.heap = h0 := by rw [← hh, Bd.state]; rfl
  have N0 := Fr.nil n0
  have Z0 : n0 ≤ h0.size := O0.1 ▸ O0.2.1
  have hk0 := Nat.zero_le h0.size
  have K0 : Keep h0 h0 [] := Keep.refl _ _
  have R0 : ∀ t, Steps p.tables e below (s₁.setTop (mkF m 0 #[.val (.ref a), .val (.int (46 : Int32))] [])) t → Steps p.tables e below (s₁.setTop (entryFrame m #[(.ref a), (.int (46 : Int32))] 2)) t := fun t k => castTop (ef_li1_4_2 m a tt kb v0 v1 v2 v3) k
  obtain ⟨cq1, kq1, q1a, q1b, q1c⟩ := isOf hZ e0 Ea
  obtain ⟨_, _, ⟨T1, L1, k1, n1⟩, -, X1, ⟨Lc1, hQ1, cl_1, cy_1, cz_1⟩, st1⟩ := X0.virtualBack hx (y := (⟨"java/lang/String", "length", "()I"⟩ : MethodName)) (z := (⟨"java/lang/String", "length", "()I"⟩ : MethodName)) hown (mvT hZ (hw _ (List.mem_of_getElem? (i := 59) rfl))) (mvT hZ (hw _ (List.mem_of_getElem? (i := 60) rfl))) (notFace_of_selects (args := #[]) (mvT hZ (hw _ (List.mem_of_getElem? (i := 62) rfl)))) (mvT hZ (hw _ (List.mem_of_getElem? (i := 62) rfl))) (mvT hZ (hw _ (List.mem_of_getElem? (i := 61) rfl))) (by decide) (backOf (W := 2) (slen4_2 l Z a0 hw [] zCS a tt kb v0 v1 v2 v3 h0 n0 O0 S_CS hCS hcH hcW   Ea Fc Fv At) hZ (hw _ (List.mem_of_getElem? (i := 63) rfl)) (hw _ (List.mem_of_getElem? (i := 10) rfl)) (by decide) (by decide)) q1a q1c (g := (mkF m 3 #[.val (.ref a), .val (.int (46 : Int32))] [(.ref a), (.int (46 : Int32)), (.ref a)])) rfl (by rw [hml]; rfl) (Steps.refl _) (argsL := []) (rest := [(.int (46 : Int32)), (.ref a)]) (lenOf pd_7 rfl) rfl (by show 2 * 0 + _ ≤ _; exact Nat.le_of_eq rfl) (hb hby d12_3) (fun _ _ => ⟨rfl, e0, (by decide : 0 + 0 ≤ _), (by decide : 0 + 0 ≤ _)⟩)
  dsimp only [Pt.U, Pt.locs, Pt.cells, Pt.slots] at X1 cl_1 cy_1 cz_1 st1 hQ1
  rw [cl_1, cy_1, cz_1] at X1
  obtain ⟨rfl, N1q, e1⟩ := hQ1
  have N1 := Fr.app N0 N1q
  obtain ⟨cq2, kq2, q2a, q2b, q2c⟩ := isOf hZ e1 Ea
  obtain ⟨_, _, ⟨T2, L2, k2, n2⟩, -, X2, ⟨Lc2, hQ2, cl_2, cy_2, cz_2⟩, st2⟩ := X1.virtualBack hx (y := (⟨"java/lang/String", "lastIndexOf", "(II)I"⟩ : MethodName)) (z := (⟨"java/lang/String", "lastIndexOf", "(II)I"⟩ : MethodName)) hown (mvT hZ (hw _ (List.mem_of_getElem? (i := 69) rfl))) (mvT hZ (hw _ (List.mem_of_getElem? (i := 70) rfl))) (notFace_of_selects (args := #[]) (mvT hZ (hw _ (List.mem_of_getElem? (i := 72) rfl)))) (mvT hZ (hw _ (List.mem_of_getElem? (i := 72) rfl))) (mvT hZ (hw _ (List.mem_of_getElem? (i := 71) rfl))) (by decide) (backOf (W := 0) (li2_4_2 l Z a0 hw [] zCS a tt kb v0 v1 v2 v3 h0 n0 O0 S_CS hCS hcH hcW   Ea Fc Fv At hv3 hv2) hZ (hw _ (List.mem_of_getElem? (i := 73) rfl)) (hw _ (List.mem_of_getElem? (i := 10) rfl)) (by decide) (by decide)) q2a q2c (g := (mkF m 8 #[.val (.ref a), .val (.int (46 : Int32))] [(.int (3 : Int32)), (.int (46 : Int32)), (.ref a)])) rfl (by rw [hml]; rfl) (Steps.refl _) (argsL := [(.int (46 : Int32)), (.int (3 : Int32))]) (rest := []) (lenOf pd_3 rfl) rfl (by show 2 * 0 + _ ≤ _; exact Nat.le_of_eq rfl) (hb hby d12_8) (fun _ _ => ⟨rfl, e1, (by decide : 0 + 0 ≤ _), (by decide : 0 + 0 ≤ _)⟩)
  dsimp only [Pt.U, Pt.locs, Pt.cells, Pt.slots] at X2 cl_2 cy_2 cz_2 st2 hQ2
  rw [cl_2, cy_2, cz_2] at X2
  obtain ⟨rfl, N2q, e2⟩ := hQ2
  have N2 := Fr.app N1 N2q
  have R3 : ∀ t, Steps p.tables e below (T2.setTop (mkF m 11 #[.val (.ref a), .val (.int (46 : Int32))] [(.int (2 : Int32))])) t → Steps p.tables e below (s₁.setTop (entryFrame m #[(.ref a), (.int (46 : Int32))] 2)) t := by
    intro t k
    refine R0 t ?_
    show Steps p.tables e below (s₁.setTop (mkF m 0 #[.val (.ref a), .val (.int (46 : Int32))] [])) t
    refine XS.aloadN X0.here hx rfl (hb hby d12_0) rfl rfl ?_
    show Steps p.tables e below (s₁.setTop (mkF m 1 #[.val (.ref a), .val (.int (46 : Int32))] [(.ref a)])) t
    refine XS.iloadN X0.here hx rfl (hb hby d12_1) rfl ?_
    show Steps p.tables e below (s₁.setTop (mkF m 2 #[.val (.ref a), .val (.int (46 : Int32))] [(.int (46 : Int32)), (.ref a)])) t
    refine XS.aloadN X0.here hx rfl (hb hby d12_2) rfl rfl ?_
    show Steps p.tables e below (s₁.setTop (mkF m 3 #[.val (.ref a), .val (.int (46 : Int32))] [(.ref a), (.int (46 : Int32)), (.ref a)])) t
    refine st1.trans ?_
    show Steps p.tables e below (T1.setTop (mkF m 6 #[.val (.ref a), .val (.int (46 : Int32))] [(.int (4 : Int32)), (.int (46 : Int32)), (.ref a)])) t
    refine XS.iconst X1.here hx rfl (hb hby d12_6) ?_
    show Steps p.tables e below (T1.setTop (mkF m 7 #[.val (.ref a), .val (.int (46 : Int32))] [(.int (1 : Int32)), (.int (4 : Int32)), (.int (46 : Int32)), (.ref a)])) t
    refine XS.isub X1.here hx rfl (hb hby d12_7) rfl ?_
    show Steps p.tables e below (T1.setTop (mkF m 8 #[.val (.ref a), .val (.int (46 : Int32))] [(.int ((4 : Int32) - (1 : Int32))), (.int (46 : Int32)), (.ref a)])) t
    rw [show ((4 : Int32) - (1 : Int32)) = (3 : Int32) from by decide]
    show Steps p.tables e below (T1.setTop (mkF m 8 #[.val (.ref a), .val (.int (46 : Int32))] [(.int (3 : Int32)), (.int (46 : Int32)), (.ref a)])) t
    refine st2.trans ?_
    exact k
  obtain ⟨fs, hr, hrun, hended, hW, hsame⟩ := X2.leave (v := some (.int (2 : Int32))) (fun h => by rw [Bd.returns] at h; cases h)
  refine ⟨_, _, R3 _ ?_, hrun, hended, _, _, rfl, ?_, ⟨_, rfl⟩, hW, hsame.mono (by decide) (by decide)⟩
  · show Steps p.tables e below (T2.setTop (mkF m 11 #[.val (.ref a), .val (.int (46 : Int32))] [(.int (2 : Int32))])) _
    exact retOut X2 hx Bd.returns rfl (Or.inl ⟨rfl, Or.inl rfl, _, rfl⟩) (hb hby d12_11) hr
  · show Q_li1_4_2 Z zCS a tt kb v0 v1 v2 v3 h0 n0 _ T2.heap _
    rw [e2]
    exact ⟨rfl, N2, rfl⟩
theorem ef_checked4_2 (m : MethodId) (a : Addr) (tt : Addr) (kb : ClassId) (v0 : Int32) (v1 : Int32) (v2 : Int32) (v3 : Int32) : entryFrame m #[(.ref a)] 2 = mkF m 0 #[.val (.ref a), .unset] [] := by first | (simp [entryFrame, mkF, argsToLocals, Value.category]; done) | rfl
def Q_checked4_2 (Z : State) (zCS : Int32) (a : Addr) (tt : Addr) (kb : ClassId) (v0 : Int32) (v1 : Int32) (v2 : Int32) (v3 : Int32) (h0 : Heap) (n0 : Nat) (vv_ : Option Value) (hh_ : Heap) (LL_ : List Loc) : Prop := vv_ = some (.ref a) ∧ (Fr n0 LL_) ∧ (Keep h0 hh_ [])
set_option maxRecDepth 65536 in
set_option maxHeartbeats 40000000 in
theorem checked4_2 (l : Launch) (Z : State) (a0 : Array Value) (hw : ∀ d ∈ tables_1, d.before a0 Z = true) (ws : List Jvm.Cond) (zCS : Int32) (a : Addr) (tt : Addr) (kb : ClassId) (v0 : Int32) (v1 : Int32) (v2 : Int32) (v3 : Int32) (h0 : Heap) (n0 : Nat) (O0 : Old Z n0 h0) (S_CS : Sta Z Z.heap "java/lang/String" "COMPACT_STRINGS" "Z" (.int zCS)) (hCS : ¬ (zCS = (0 : Int32))) (hcH : Jvm.Lit.constHeld Z "java/lang/String" 7) (hcW : Jvm.Lit.compactW.before a0 Z = true) (Ea : Exa Z h0 a "java/lang/String") (Fc : Fld Z h0 a "java/lang/String" "coder" "B" (.int (0 : Int32))) (Fv : Fld Z h0 a "java/lang/String" "value" "[B" (.ref tt)) (At : Arv Z h0 tt kb .byte (4 : Int32) [(.int v0), (.int v1), (.int v2), (.int v3)] (.int 0)) (hv3 : ¬ (v3 = (46 : Int32))) (hv2 : v2 = (46 : Int32)) :
    MetFree l (⟨"com/example/wiring_from_blueprints/wiringfromblueprints/internal/StaticField", "checked", "(Ljava/lang/String;)Ljava/lang/String;"⟩ : MethodName) (head1 (Jvm.Cond.code (⟨"com/example/wiring_from_blueprints/wiringfromblueprints/internal/StaticField", "checked", "(Ljava/lang/String;)Ljava/lang/String;"⟩ : MethodName) prog_22_method_2_code 2 (some (.object "java/lang/String")) :: ws) ({ frames := 4, cells := 2, slots := 48, locals := 55 } : Room)) (fun aa_ U_ => aa_ = #[(.ref a)] ∧ Z.Warmed39 U_.vm ∧ U_.heap = h0) (fun _ _ _ _ _ => True) (fun _ U_ oo_ V_ => ∃ vv_ LL_, oo_ = .returned vv_ ∧ Q_checked4_2 Z zCS a tt kb v0 v1 v2 v3 h0 n0 vv_ V_.heap LL_ ∧ ReturnedEndW U_ oo_ V_ LL_ ({ frames := 4, cells := 2, slots := 48, locals := 55 } : Room).cells ({ frames := 4, cells := 2, slots := 48, locals := 55 } : Room).slots) := by
  refine MetFree.of_bodySF (plainFor_of_name pn_com_example_wiring_from_blueprints_wiringfromblueprints_internal_StaticField) hisR ?_
  intro p e s m args below meth c s₁ Bd hml0 hP hK
  obtain ⟨rfl, hZ, hh⟩ := hP
  have hx := Bd.exec
  have hby := Bd.bytes
  have hml : c.maxLocals = 2 := hml0
  have hown : s.vm.findClass "com/example/wiring_from_blueprints/wiringfromblueprints/internal/StaticField" = some m.cls := findClass_of_methodNamed Bd.named
  have hnm := (name_of_methodNamed Bd.named Bd.method).1
  have hZ0 : Z.Warmed39 (s.setVm s.vm).vm := hZ
  have hown0 : (s.setVm s.vm).vm.findClass "com/example/wiring_from_blueprints/wiringfromblueprints/internal/StaticField" = some m.cls := hown
  have hS0 : s.Since s.vm 0 := ⟨State.Warmed39.refl s, fun j p h1 h2 => absurd (Array.getElem?_eq_some_iff.mp h2).1 (Nat.not_lt.mpr h1)⟩
  have X0 : Stand p l e ({ frames := 4, cells := 2, slots := 48, locals := 55 } : Room) (s.setVm s.vm) m #[(.ref a)] below meth c s₁ [] 0 0 := Stand.of_body Bd
  have e0 : s₁.heap = h0 := by rw [← hh, Bd.state]; rfl
  have N0 := Fr.nil n0
  have Z0 : n0 ≤ h0.size := O0.1 ▸ O0.2.1
  have hk0 := Nat.zero_le h0.size
  have K0 : Keep h0 h0 [] := Keep.refl _ _
  have R0 : ∀ t, Steps p.tables e below (s₁.setTop (mkF m 0 #[.val (.ref a), .unset] [])) t → Steps p.tables e below (s₁.setTop (entryFrame m #[(.ref a)] 2)) t := fun t k => castTop (ef_checked4_2 m a tt kb v0 v1 v2 v3) k
  obtain ⟨a1, T1, h1, k1, X1, e1, E1, hS1, hk1, hZ1, hown1, st1⟩ := ldcS X0 hx hZ0 hown0 (hw _ (List.mem_of_getElem? (i := 48) rfl)) (own_sat hw) e0 hS0 hk0 (g := (mkF m 1 #[.val (.ref a), .unset] [(.ref a)])) rfl (hb hby d10_1) (n := 44) (by decide) (by decide) (by decide) (by decide)
  have Z1 : n0 ≤ h1.size := Nat.le_trans Z0 E1.1
  have K1 : Keep h0 h1 [] := K0.ext E1
  have O1 : Old Z n0 h1 := O0.ext E1
  obtain ⟨_, _, ⟨T2, L2, k2, n2⟩, -, X2, ⟨Lc2, hQ2, cl_2, cy_2, cz_2⟩, st2⟩ := Jvm.LawKit.callS X1 hx (y := (⟨"java/util/Objects", "requireNonNull", "(Ljava/lang/Object;Ljava/lang/String;)Ljava/lang/Object;"⟩ : MethodName)) hown1 (mvT hZ1 (hw _ (List.mem_of_getElem? (i := 49) rfl))) (mvT hZ1 (hw _ (List.mem_of_getElem? (i := 50) rfl))) (mvT hZ1 (hw _ (List.mem_of_getElem? (i := 51) rfl))) (mvT hZ1 (hw _ (List.mem_of_getElem? (i := 52) rfl))) (by decide) (backOf (W := 0) (rnn l Z a0 hw [] zCS a a1 h1 n0 O1 S_CS hCS hcH hcW   ) hZ1 (hw _ (List.mem_of_getElem? (i := 52) rfl)) (hw _ (List.mem_of_getElem? (i := 51) rfl)) (by decide) (by decide)) (g := (mkF m 3 #[.val (.ref a), .unset] [(.ref a1), (.ref a)])) rfl (by rw [hml]; rfl) (argsL := [(.ref a), (.ref a1)]) (rest := []) (lenOf pd_8 rfl) rfl (by show 2 * 0 + _ ≤ _; exact Nat.le_of_eq rfl) (hb hby d10_3) (fun _ _ => ⟨rfl, e1, (by decide : 2 + 0 ≤ _), (by decide : 48 + 0 ≤ _)⟩)
  dsimp only [Pt.U, Pt.locs, Pt.cells, Pt.slots] at X2 cl_2 cy_2 cz_2 st2 hQ2
  rw [cl_2, cy_2, cz_2] at X2
  obtain ⟨rfl, N2q, e2⟩ := hQ2
  have N2 := Fr.app N0 N2q
  have f4 : Exa Z h1 a "java/lang/String" := (Ea.ext E1)
  obtain ⟨T3, X3, e3, st3⟩ := castY X2 hx hZ1 hown1 (hw _ (List.mem_of_getElem? (i := 53) rfl)) e2 (Ins.self f4) (g := (mkF m 6 #[.val (.ref a), .unset] [(.ref a)])) rfl rfl (hb hby d10_6)
  have f6 : Fld Z h1 a "java/lang/String" "coder" "B" (.int (0 : Int32)) := (Fc.ext E1)
  have f7 : Fld Z h1 a "java/lang/String" "value" "[B" (.ref tt) := (Fv.ext E1)
  have f8 : Arv Z h1 tt kb .byte (4 : Int32) [(.int v0), (.int v1), (.int v2), (.int v3)] (.int 0) := (At.ext E1)
  obtain ⟨cq5, kq5, q5a, q5b, q5c⟩ := isOf hZ1 e3 f4
  obtain ⟨_, _, ⟨T5, L5, k5, n5⟩, -, X5, ⟨Lc5, hQ5, cl_5, cy_5, cz_5⟩, st5⟩ := X3.virtualBack hx (y := (⟨"java/lang/String", "lastIndexOf", "(I)I"⟩ : MethodName)) (z := (⟨"java/lang/String", "lastIndexOf", "(I)I"⟩ : MethodName)) hown1 (mvT hZ1 (hw _ (List.mem_of_getElem? (i := 54) rfl))) (mvT hZ1 (hw _ (List.mem_of_getElem? (i := 55) rfl))) (notFace_of_selects (args := #[]) (mvT hZ1 (hw _ (List.mem_of_getElem? (i := 57) rfl)))) (mvT hZ1 (hw _ (List.mem_of_getElem? (i := 57) rfl))) (mvT hZ1 (hw _ (List.mem_of_getElem? (i := 56) rfl))) (by decide) (backOf (W := 0) (li1_4_2 l Z a0 hw [] zCS a tt kb v0 v1 v2 v3 h1 n0 O1 S_CS hCS hcH hcW   f4 f6 f7 f8 hv3 hv2) hZ1 (hw _ (List.mem_of_getElem? (i := 58) rfl)) (hw _ (List.mem_of_getElem? (i := 10) rfl)) (by decide) (by decide)) q5a q5c (g := (mkF m 11 #[.val (.ref a), .unset] [(.int (46 : Int32)), (.ref a)])) rfl (by rw [hml]; rfl) (Steps.refl _) (argsL := [(.int (46 : Int32))]) (rest := []) (lenOf pd_9 rfl) rfl (by show 2 * 0 + _ ≤ _; exact Nat.le_of_eq rfl) (hb hby d10_11) (fun _ _ => ⟨rfl, e3, (by decide : 2 + 0 ≤ _), (by decide : 48 + 0 ≤ _)⟩)
  dsimp only [Pt.U, Pt.locs, Pt.cells, Pt.slots] at X5 cl_5 cy_5 cz_5 st5 hQ5
  rw [cl_5, cy_5, cz_5] at X5
  obtain ⟨rfl, N5q, e5⟩ := hQ5
  have N5 := Fr.app N2 N5q
  obtain ⟨cq9, kq9, q9a, q9b, q9c⟩ := isOf hZ1 e5 f4
  obtain ⟨_, _, ⟨T9, L9, k9, n9⟩, -, X9, ⟨Lc9, hQ9, cl_9, cy_9, cz_9⟩, st9⟩ := X5.virtualBack hx (y := (⟨"java/lang/String", "length", "()I"⟩ : MethodName)) (z := (⟨"java/lang/String", "length", "()I"⟩ : MethodName)) hown1 (mvT hZ1 (hw _ (List.mem_of_getElem? (i := 90) rfl))) (mvT hZ1 (hw _ (List.mem_of_getElem? (i := 60) rfl))) (notFace_of_selects (args := #[]) (mvT hZ1 (hw _ (List.mem_of_getElem? (i := 62) rfl)))) (mvT hZ1 (hw _ (List.mem_of_getElem? (i := 62) rfl))) (mvT hZ1 (hw _ (List.mem_of_getElem? (i := 61) rfl))) (by decide) (backOf (W := 1) (slen4_2 l Z a0 hw [] zCS a tt kb v0 v1 v2 v3 h1 n0 O1 S_CS hCS hcH hcW   f4 f6 f7 f8) hZ1 (hw _ (List.mem_of_getElem? (i := 63) rfl)) (hw _ (List.mem_of_getElem? (i := 10) rfl)) (by decide) (by decide)) q9a q9c (g := (mkF m 21 #[.val (.ref a), .val (.int (2 : Int32))] [(.ref a), (.int (2 : Int32))])) rfl (by rw [hml]; rfl) (Steps.refl _) (argsL := []) (rest := [(.int (2 : Int32))]) (lenOf pd_7 rfl) rfl (by show 2 * 0 + _ ≤ _; exact Nat.le_of_eq rfl) (hb hby d10_21) (fun _ _ => ⟨rfl, e5, (by decide : 2 + 0 ≤ _), (by decide : 48 + 0 ≤ _)⟩)
  dsimp only [Pt.U, Pt.locs, Pt.cells, Pt.slots] at X9 cl_9 cy_9 cz_9 st9 hQ9
  rw [cl_9, cy_9, cz_9] at X9
  obtain ⟨rfl, N9q, e9⟩ := hQ9
  have N9 := Fr.app N5 N9q
  have R10 : ∀ t, Steps p.tables e below (T9.setTop (mkF m 44 #[.val (.ref a), .val (.int (2 : Int32))] [(.ref a)])) t → Steps p.tables e below (s₁.setTop (entryFrame m #[(.ref a)] 2)) t := by
    intro t k
    refine R0 t ?_
    show Steps p.tables e below (s₁.setTop (mkF m 0 #[.val (.ref a), .unset] [])) t
    refine XS.aloadN X0.here hx rfl (hb hby d10_0) rfl rfl ?_
    show Steps p.tables e below (s₁.setTop (mkF m 1 #[.val (.ref a), .unset] [(.ref a)])) t
    refine st1 _ ?_
    show Steps p.tables e below (T1.setTop (mkF m 3 #[.val (.ref a), .unset] [(.ref a1), (.ref a)])) t
    refine st2 _ ?_
    show Steps p.tables e below (T2.setTop (mkF m 6 #[.val (.ref a), .unset] [(.ref a)])) t
    refine st3 _ ?_
    show Steps p.tables e below (T3.setTop (mkF m 9 #[.val (.ref a), .unset] [(.ref a)])) t
    refine XS.bipush X3.here hx rfl (hb hby d10_9) ?_
    show Steps p.tables e below (T3.setTop (mkF m 11 #[.val (.ref a), .unset] [(.int (46 : Int32)), (.ref a)])) t
    refine st5.trans ?_
    show Steps p.tables e below (T5.setTop (mkF m 14 #[.val (.ref a), .unset] [(.int (2 : Int32))])) t
    refine XS.istoreN X5.here hx rfl (hb hby d10_14) rfl (l' := #[.val (.ref a), .val (.int (2 : Int32))]) rfl ?_
    show Steps p.tables e below (T5.setTop (mkF m 15 #[.val (.ref a), .val (.int (2 : Int32))] [])) t
    refine XS.iloadN X5.here hx rfl (hb hby d10_15) rfl ?_
    show Steps p.tables e below (T5.setTop (mkF m 16 #[.val (.ref a), .val (.int (2 : Int32))] [(.int (2 : Int32))])) t
    refine XS.ifNo X5.here hx rfl (hb hby d10_16) rfl ((if0 _ _).trans (tlt ((by decide) : (0 : Int32) < (2 : Int32))).2.2.2) ?_
    show Steps p.tables e below (T5.setTop (mkF m 19 #[.val (.ref a), .val (.int (2 : Int32))] [])) t
    refine XS.iloadN X5.here hx rfl (hb hby d10_19) rfl ?_
    show Steps p.tables e below (T5.setTop (mkF m 20 #[.val (.ref a), .val (.int (2 : Int32))] [(.int (2 : Int32))])) t
    refine XS.aloadN X5.here hx rfl (hb hby d10_20) rfl rfl ?_
    show Steps p.tables e below (T5.setTop (mkF m 21 #[.val (.ref a), .val (.int (2 : Int32))] [(.ref a), (.int (2 : Int32))])) t
    refine st9.trans ?_
    show Steps p.tables e below (T9.setTop (mkF m 24 #[.val (.ref a), .val (.int (2 : Int32))] [(.int (4 : Int32)), (.int (2 : Int32))])) t
    refine XS.iconst X9.here hx rfl (hb hby d10_24) ?_
    show Steps p.tables e below (T9.setTop (mkF m 25 #[.val (.ref a), .val (.int (2 : Int32))] [(.int (1 : Int32)), (.int (4 : Int32)), (.int (2 : Int32))])) t
    refine XS.isub X9.here hx rfl (hb hby d10_25) rfl ?_
    show Steps p.tables e below (T9.setTop (mkF m 26 #[.val (.ref a), .val (.int (2 : Int32))] [(.int ((4 : Int32) - (1 : Int32))), (.int (2 : Int32))])) t
    rw [show ((4 : Int32) - (1 : Int32)) = (3 : Int32) from by decide]
    show Steps p.tables e below (T9.setTop (mkF m 26 #[.val (.ref a), .val (.int (2 : Int32))] [(.int (3 : Int32)), (.int (2 : Int32))])) t
    refine XS.icmpYes X9.here hx rfl (pc0 := 26) (pc' := 43) rfl (hb hby d10_26) rfl (feq ((by decide) : ¬ ((2 : Int32) = (3 : Int32)))).2 (by decide) (by decide) ?_
    show Steps p.tables e below (T9.setTop (mkF m 43 #[.val (.ref a), .val (.int (2 : Int32))] [])) t
    refine XS.aloadN X9.here hx rfl (hb hby d10_43) rfl rfl ?_
    exact k
  obtain ⟨fs, hr, hrun, hended, hRW⟩ := X9.leaveW hS1 (by rw [e9]; exact hk1) (v := some (.ref a)) (fun h => by rw [Bd.returns] at h; cases h)
  refine ⟨_, _, R10 _ ?_, hrun, hended, _, _, rfl, ?_, hRW.1, hRW.2.1, hRW.2.2.1, hRW.2.2.2.mono (by decide) (by decide)⟩
  · show Steps p.tables e below (T9.setTop (mkF m 44 #[.val (.ref a), .val (.int (2 : Int32))] [(.ref a)])) _
    exact retOut X9 hx Bd.returns rfl (Or.inr (Or.inr (Or.inr (Or.inr ⟨rfl, rfl, rfl⟩)))) (hb hby d10_44) hr
  · show Q_checked4_2 Z zCS a tt kb v0 v1 v2 v3 h0 n0 _ T9.heap _
    rw [e9]
    exact ⟨rfl, N9, K1⟩
theorem pd_10 : parseMethodDescriptor "(I)C" = some ⟨[.int], some .char⟩ := by decide +kernel
theorem pd_11 : parseMethodDescriptor "(ICCCC)Ljava/lang/String;" = some ⟨[.int, .char, .char, .char, .char], some (.object "java/lang/String")⟩ := by decide +kernel
theorem pd_12 : parseMethodDescriptor "(ICCCC)I" = some ⟨[.int, .char, .char, .char, .char], some .int⟩ := by decide +kernel
theorem pd_13 : parseMethodDescriptor "(Ljava/lang/String;)Ljava/lang/String;" = some ⟨[(.object "java/lang/String")], some (.object "java/lang/String")⟩ := by decide +kernel
theorem ef_rm0 (m : MethodId) (le : Int32) (y0 : Int32) (y1 : Int32) (y2 : Int32) (y3 : Int32) : entryFrame m #[(.int le), (.int y0), (.int y1), (.int y2), (.int y3)] maxLocals = mkF m 0 #[.val (.int le), .val (.int y0), .val (.int y1), .val (.int y2), .val (.int y3), .unset, .unset, .unset, .unset, .unset, .unset, .unset, .unset, .unset] [] := by first | (simp [entryFrame, mkF, argsToLocals, Value.category, maxLocals]; done) | rfl
def Q_rm0 (Z : State) (zCS : Int32) (le : Int32) (y0 : Int32) (y1 : Int32) (y2 : Int32) (y3 : Int32) (h0 : Heap) (n0 : Nat) (vv_ : Option Value) (hh_ : Heap) (LL_ : List Loc) : Prop := vv_ = some (.int (1 : Int32)) ∧ (Fr n0 LL_)
set_option maxRecDepth 65536 in
set_option maxHeartbeats 40000000 in
theorem rm0 (l : Launch) (Z : State) (a0 : Array Value) (hw : ∀ d ∈ tables_1, d.before a0 Z = true) (ws : List Jvm.Cond) (zCS : Int32) (le : Int32) (y0 : Int32) (y1 : Int32) (y2 : Int32) (y3 : Int32) (NN : Nat) (h0 : Heap) (n0 : Nat) (O0 : Old Z n0 h0) (S_CS : Sta Z Z.heap "java/lang/String" "COMPACT_STRINGS" "Z" (.int zCS)) (hCS : ¬ (zCS = (0 : Int32))) (hcH : Jvm.Lit.constHeld Z "java/lang/String" 7) (hcW : Jvm.Lit.compactW.before a0 Z = true) :
    MetFree l x (head1 (Jvm.Cond.code x code maxLocals ret :: ws) room_1) (fun aa_ U_ => aa_ = #[(.int le), (.int y0), (.int y1), (.int y2), (.int y3)] ∧ (Z.Warmed39 U_.vm ∧ LS Z "java/lang/String" 7 [] U_.vm h0 NN) ∧ U_.heap = h0) (fun _ _ _ _ _ => True) (fun _ U_ oo_ V_ => ∃ vv_ LL_, oo_ = .returned vv_ ∧ Q_rm0 Z zCS le y0 y1 y2 y3 h0 n0 vv_ V_.heap LL_ ∧ ReturnedEndW U_ oo_ V_ LL_ room_1.cells room_1.slots) := by
  refine MetFree.of_bodySF (plainFor_of_name pn_com_example_wiring_from_blueprints_wiringfromblueprints_internal_StaticFieldCheckedPinLaw) hisR ?_
  intro p e s m args below meth c s₁ Bd hml0 hP hK
  obtain ⟨rfl, ⟨hZ, hL0⟩, hh⟩ := hP
  have hx := Bd.exec
  have hby := Bd.bytes
  have hml : c.maxLocals = 14 := hml0
  have hown : s.vm.findClass "com/example/wiring_from_blueprints/wiringfromblueprints/internal/StaticFieldCheckedPinLaw" = some m.cls := findClass_of_methodNamed Bd.named
  have hnm := (name_of_methodNamed Bd.named Bd.method).1
  have hZ0 : Z.Warmed39 (s.setVm s.vm).vm := hZ
  have hown0 : (s.setVm s.vm).vm.findClass "com/example/wiring_from_blueprints/wiringfromblueprints/internal/StaticFieldCheckedPinLaw" = some m.cls := hown
  have hS0 : s.Since s.vm 0 := ⟨State.Warmed39.refl s, fun j p h1 h2 => absurd (Array.getElem?_eq_some_iff.mp h2).1 (Nat.not_lt.mpr h1)⟩
  have X0 : Stand p l e room_1 (s.setVm s.vm) m #[(.int le), (.int y0), (.int y1), (.int y2), (.int y3)] below meth c s₁ [] 0 0 := Stand.of_body Bd
  have e0 : s₁.heap = h0 := by rw [← hh, Bd.state]; rfl
  have N0 := Fr.nil n0
  have Z0 : n0 ≤ h0.size := O0.1 ▸ O0.2.1
  have hk0 := Nat.zero_le h0.size
  have K0 : Keep h0 h0 [] := Keep.refl _ _
  have R0 : ∀ t, Steps p.tables e below (s₁.setTop (mkF m 0 #[.val (.int le), .val (.int y0), .val (.int y1), .val (.int y2), .val (.int y3), .unset, .unset, .unset, .unset, .unset, .unset, .unset, .unset, .unset] [])) t → Steps p.tables e below (s₁.setTop (entryFrame m #[(.int le), (.int y0), (.int y1), (.int y2), (.int y3)] maxLocals)) t := fun t k => castTop (ef_rm0 m le y0 y1 y2 y3) k
  obtain ⟨_, _, ⟨T1, L1, k1, n1⟩, -, X1, ⟨Lc1, hQ1, cl_1, cy_1, cz_1⟩, st1⟩ := Jvm.LawKit.callS X0 hx (y := (⟨"com/example/wiring_from_blueprints/wiringfromblueprints/internal/StaticFieldCheckedPinLaw", "ch", "(I)C"⟩ : MethodName)) hown0 (mvT hZ0 (hw _ (List.mem_of_getElem? (i := 1) rfl))) (mvT hZ0 (hw _ (List.mem_of_getElem? (i := 2) rfl))) (mvT hZ0 (hw _ (List.mem_of_getElem? (i := 3) rfl))) (mvT hZ0 (hw _ (List.mem_of_getElem? (i := 4) rfl))) (by decide) (backOf (W := 0) (ch l Z a0 hw [] zCS y0 h0 n0 O0 S_CS hCS hcH hcW   ) hZ0 (hw _ (List.mem_of_getElem? (i := 4) rfl)) (hw _ (List.mem_of_getElem? (i := 3) rfl)) (by decide) (by decide)) (g := (mkF m 9 #[.val (.int le), .val (.int y0), .val (.int y1), .val (.int y2), .val (.int y3), .val (.int ((le &&& (2147483647 : Int32)) % (5 : Int32))), .unset, .unset, .unset, .unset, .unset, .unset, .unset, .unset] [(.int y0)])) rfl (by rw [hml]; rfl) (argsL := [(.int y0)]) (rest := []) (lenOf pd_10 rfl) rfl (by show 2 * 0 + _ ≤ _; exact Nat.le_of_eq rfl) (hb hby at_9) (fun _ _ => ⟨rfl, e0, (by decide : 0 + 0 ≤ _), (by decide : 0 + 0 ≤ _)⟩)
  dsimp only [Pt.U, Pt.locs, Pt.cells, Pt.slots] at X1 cl_1 cy_1 cz_1 st1 hQ1
  rw [cl_1, cy_1, cz_1] at X1
  obtain ⟨z0, rfl, N1q, e1, y1_0⟩ := hQ1
  have N1 := Fr.app N0 N1q
  obtain ⟨_, _, ⟨T2, L2, k2, n2⟩, -, X2, ⟨Lc2, hQ2, cl_2, cy_2, cz_2⟩, st2⟩ := Jvm.LawKit.callS X1 hx (y := (⟨"com/example/wiring_from_blueprints/wiringfromblueprints/internal/StaticFieldCheckedPinLaw", "ch", "(I)C"⟩ : MethodName)) hown0 (mvT hZ0 (hw _ (List.mem_of_getElem? (i := 1) rfl))) (mvT hZ0 (hw _ (List.mem_of_getElem? (i := 2) rfl))) (mvT hZ0 (hw _ (List.mem_of_getElem? (i := 3) rfl))) (mvT hZ0 (hw _ (List.mem_of_getElem? (i := 4) rfl))) (by decide) (backOf (W := 0) (ch l Z a0 hw [] zCS y1 h0 n0 O0 S_CS hCS hcH hcW   ) hZ0 (hw _ (List.mem_of_getElem? (i := 4) rfl)) (hw _ (List.mem_of_getElem? (i := 3) rfl)) (by decide) (by decide)) (g := (mkF m 15 #[.val (.int le), .val (.int y0), .val (.int y1), .val (.int y2), .val (.int y3), .val (.int ((le &&& (2147483647 : Int32)) % (5 : Int32))), .val (.int z0), .unset, .unset, .unset, .unset, .unset, .unset, .unset] [(.int y1)])) rfl (by rw [hml]; rfl) (argsL := [(.int y1)]) (rest := []) (lenOf pd_10 rfl) rfl (by show 2 * 0 + _ ≤ _; exact Nat.le_of_eq rfl) (hb hby at_15) (fun _ _ => ⟨rfl, e1, (by decide : 0 + 0 ≤ _), (by decide : 0 + 0 ≤ _)⟩)
  dsimp only [Pt.U, Pt.locs, Pt.cells, Pt.slots] at X2 cl_2 cy_2 cz_2 st2 hQ2
  rw [cl_2, cy_2, cz_2] at X2
  obtain ⟨z1, rfl, N2q, e2, y2_0⟩ := hQ2
  have N2 := Fr.app N1 N2q
  obtain ⟨_, _, ⟨T3, L3, k3, n3⟩, -, X3, ⟨Lc3, hQ3, cl_3, cy_3, cz_3⟩, st3⟩ := Jvm.LawKit.callS X2 hx (y := (⟨"com/example/wiring_from_blueprints/wiringfromblueprints/internal/StaticFieldCheckedPinLaw", "ch", "(I)C"⟩ : MethodName)) hown0 (mvT hZ0 (hw _ (List.mem_of_getElem? (i := 1) rfl))) (mvT hZ0 (hw _ (List.mem_of_getElem? (i := 2) rfl))) (mvT hZ0 (hw _ (List.mem_of_getElem? (i := 3) rfl))) (mvT hZ0 (hw _ (List.mem_of_getElem? (i := 4) rfl))) (by decide) (backOf (W := 0) (ch l Z a0 hw [] zCS y2 h0 n0 O0 S_CS hCS hcH hcW   ) hZ0 (hw _ (List.mem_of_getElem? (i := 4) rfl)) (hw _ (List.mem_of_getElem? (i := 3) rfl)) (by decide) (by decide)) (g := (mkF m 21 #[.val (.int le), .val (.int y0), .val (.int y1), .val (.int y2), .val (.int y3), .val (.int ((le &&& (2147483647 : Int32)) % (5 : Int32))), .val (.int z0), .val (.int z1), .unset, .unset, .unset, .unset, .unset, .unset] [(.int y2)])) rfl (by rw [hml]; rfl) (argsL := [(.int y2)]) (rest := []) (lenOf pd_10 rfl) rfl (by show 2 * 0 + _ ≤ _; exact Nat.le_of_eq rfl) (hb hby at_21) (fun _ _ => ⟨rfl, e2, (by decide : 0 + 0 ≤ _), (by decide : 0 + 0 ≤ _)⟩)
  dsimp only [Pt.U, Pt.locs, Pt.cells, Pt.slots] at X3 cl_3 cy_3 cz_3 st3 hQ3
  rw [cl_3, cy_3, cz_3] at X3
  obtain ⟨z2, rfl, N3q, e3, y3_0⟩ := hQ3
  have N3 := Fr.app N2 N3q
  obtain ⟨_, _, ⟨T4, L4, k4, n4⟩, -, X4, ⟨Lc4, hQ4, cl_4, cy_4, cz_4⟩, st4⟩ := Jvm.LawKit.callS X3 hx (y := (⟨"com/example/wiring_from_blueprints/wiringfromblueprints/internal/StaticFieldCheckedPinLaw", "ch", "(I)C"⟩ : MethodName)) hown0 (mvT hZ0 (hw _ (List.mem_of_getElem? (i := 1) rfl))) (mvT hZ0 (hw _ (List.mem_of_getElem? (i := 2) rfl))) (mvT hZ0 (hw _ (List.mem_of_getElem? (i := 3) rfl))) (mvT hZ0 (hw _ (List.mem_of_getElem? (i := 4) rfl))) (by decide) (backOf (W := 0) (ch l Z a0 hw [] zCS y3 h0 n0 O0 S_CS hCS hcH hcW   ) hZ0 (hw _ (List.mem_of_getElem? (i := 4) rfl)) (hw _ (List.mem_of_getElem? (i := 3) rfl)) (by decide) (by decide)) (g := (mkF m 28 #[.val (.int le), .val (.int y0), .val (.int y1), .val (.int y2), .val (.int y3), .val (.int ((le &&& (2147483647 : Int32)) % (5 : Int32))), .val (.int z0), .val (.int z1), .val (.int z2), .unset, .unset, .unset, .unset, .unset] [(.int y3)])) rfl (by rw [hml]; rfl) (argsL := [(.int y3)]) (rest := []) (lenOf pd_10 rfl) rfl (by show 2 * 0 + _ ≤ _; exact Nat.le_of_eq rfl) (hb hby at_28) (fun _ _ => ⟨rfl, e3, (by decide : 0 + 0 ≤ _), (by decide : 0 + 0 ≤ _)⟩)
  dsimp only [Pt.U, Pt.locs, Pt.cells, Pt.slots] at X4 cl_4 cy_4 cz_4 st4 hQ4
  rw [cl_4, cy_4, cz_4] at X4
  obtain ⟨z3, rfl, N4q, e4, y4_0⟩ := hQ4
  have N4 := Fr.app N3 N4q
  have R5 : ∀ t, Steps p.tables e below (T4.setTop (mkF m 43 #[.val (.int le), .val (.int y0), .val (.int y1), .val (.int y2), .val (.int y3), .val (.int ((le &&& (2147483647 : Int32)) % (5 : Int32))), .val (.int z0), .val (.int z1), .val (.int z2), .val (.int z3), .unset, .unset, .unset, .unset] [(.int z3), (.int z2), (.int z1), (.int z0), (.int ((le &&& (2147483647 : Int32)) % (5 : Int32)))])) t → Steps p.tables e below (s₁.setTop (entryFrame m #[(.int le), (.int y0), (.int y1), (.int y2), (.int y3)] maxLocals)) t := by
    intro t k
    refine R0 t ?_
    show Steps p.tables e below (s₁.setTop (mkF m 0 #[.val (.int le), .val (.int y0), .val (.int y1), .val (.int y2), .val (.int y3), .unset, .unset, .unset, .unset, .unset, .unset, .unset, .unset, .unset] [])) t
    refine XS.iloadN X0.here hx rfl (hb hby at_0) rfl ?_
    show Steps p.tables e below (s₁.setTop (mkF m 1 #[.val (.int le), .val (.int y0), .val (.int y1), .val (.int y2), .val (.int y3), .unset, .unset, .unset, .unset, .unset, .unset, .unset, .unset, .unset] [(.int le)])) t
    refine X0.ldcInt hx hown0 (mvT hZ0 (hw _ (List.mem_of_getElem? (i := 0) rfl))) (g := (mkF m 1 #[.val (.int le), .val (.int y0), .val (.int y1), .val (.int y2), .val (.int y3), .unset, .unset, .unset, .unset, .unset, .unset, .unset, .unset, .unset] [(.int le)])) rfl (hb hby at_1) _ ?_
    show Steps p.tables e below (s₁.setTop (mkF m 3 #[.val (.int le), .val (.int y0), .val (.int y1), .val (.int y2), .val (.int y3), .unset, .unset, .unset, .unset, .unset, .unset, .unset, .unset, .unset] [(.int (2147483647 : Int32)), (.int le)])) t
    refine XS.iand X0.here hx rfl (hb hby at_3) rfl ?_
    show Steps p.tables e below (s₁.setTop (mkF m 4 #[.val (.int le), .val (.int y0), .val (.int y1), .val (.int y2), .val (.int y3), .unset, .unset, .unset, .unset, .unset, .unset, .unset, .unset, .unset] [(.int (le &&& (2147483647 : Int32)))])) t
    refine XS.iconst X0.here hx rfl (hb hby at_4) ?_
    show Steps p.tables e below (s₁.setTop (mkF m 5 #[.val (.int le), .val (.int y0), .val (.int y1), .val (.int y2), .val (.int y3), .unset, .unset, .unset, .unset, .unset, .unset, .unset, .unset, .unset] [(.int (5 : Int32)), (.int (le &&& (2147483647 : Int32)))])) t
    refine iremM (g := (mkF m 5 #[.val (.int le), .val (.int y0), .val (.int y1), .val (.int y2), .val (.int y3), .unset, .unset, .unset, .unset, .unset, .unset, .unset, .unset, .unset] [(.int (5 : Int32)), (.int (le &&& (2147483647 : Int32)))])) X0 hx rfl (hb hby at_5) rfl (by decide) ?_
    show Steps p.tables e below (s₁.setTop (mkF m 6 #[.val (.int le), .val (.int y0), .val (.int y1), .val (.int y2), .val (.int y3), .unset, .unset, .unset, .unset, .unset, .unset, .unset, .unset, .unset] [(.int ((le &&& (2147483647 : Int32)) % (5 : Int32)))])) t
    refine XS.istore X0.here hx rfl (hb hby at_6) rfl (l' := #[.val (.int le), .val (.int y0), .val (.int y1), .val (.int y2), .val (.int y3), .val (.int ((le &&& (2147483647 : Int32)) % (5 : Int32))), .unset, .unset, .unset, .unset, .unset, .unset, .unset, .unset]) rfl ?_
    show Steps p.tables e below (s₁.setTop (mkF m 8 #[.val (.int le), .val (.int y0), .val (.int y1), .val (.int y2), .val (.int y3), .val (.int ((le &&& (2147483647 : Int32)) % (5 : Int32))), .unset, .unset, .unset, .unset, .unset, .unset, .unset, .unset] [])) t
    refine XS.iloadN X0.here hx rfl (hb hby at_8) rfl ?_
    show Steps p.tables e below (s₁.setTop (mkF m 9 #[.val (.int le), .val (.int y0), .val (.int y1), .val (.int y2), .val (.int y3), .val (.int ((le &&& (2147483647 : Int32)) % (5 : Int32))), .unset, .unset, .unset, .unset, .unset, .unset, .unset, .unset] [(.int y0)])) t
    refine st1 _ ?_
    show Steps p.tables e below (T1.setTop (mkF m 12 #[.val (.int le), .val (.int y0), .val (.int y1), .val (.int y2), .val (.int y3), .val (.int ((le &&& (2147483647 : Int32)) % (5 : Int32))), .unset, .unset, .unset, .unset, .unset, .unset, .unset, .unset] [(.int z0)])) t
    refine XS.istore X1.here hx rfl (hb hby at_12) rfl (l' := #[.val (.int le), .val (.int y0), .val (.int y1), .val (.int y2), .val (.int y3), .val (.int ((le &&& (2147483647 : Int32)) % (5 : Int32))), .val (.int z0), .unset, .unset, .unset, .unset, .unset, .unset, .unset]) rfl ?_
    show Steps p.tables e below (T1.setTop (mkF m 14 #[.val (.int le), .val (.int y0), .val (.int y1), .val (.int y2), .val (.int y3), .val (.int ((le &&& (2147483647 : Int32)) % (5 : Int32))), .val (.int z0), .unset, .unset, .unset, .unset, .unset, .unset, .unset] [])) t
    refine XS.iloadN X1.here hx rfl (hb hby at_14) rfl ?_
    show Steps p.tables e below (T1.setTop (mkF m 15 #[.val (.int le), .val (.int y0), .val (.int y1), .val (.int y2), .val (.int y3), .val (.int ((le &&& (2147483647 : Int32)) % (5 : Int32))), .val (.int z0), .unset, .unset, .unset, .unset, .unset, .unset, .unset] [(.int y1)])) t
    refine st2 _ ?_
    show Steps p.tables e below (T2.setTop (mkF m 18 #[.val (.int le), .val (.int y0), .val (.int y1), .val (.int y2), .val (.int y3), .val (.int ((le &&& (2147483647 : Int32)) % (5 : Int32))), .val (.int z0), .unset, .unset, .unset, .unset, .unset, .unset, .unset] [(.int z1)])) t
    refine XS.istore X2.here hx rfl (hb hby at_18) rfl (l' := #[.val (.int le), .val (.int y0), .val (.int y1), .val (.int y2), .val (.int y3), .val (.int ((le &&& (2147483647 : Int32)) % (5 : Int32))), .val (.int z0), .val (.int z1), .unset, .unset, .unset, .unset, .unset, .unset]) rfl ?_
    show Steps p.tables e below (T2.setTop (mkF m 20 #[.val (.int le), .val (.int y0), .val (.int y1), .val (.int y2), .val (.int y3), .val (.int ((le &&& (2147483647 : Int32)) % (5 : Int32))), .val (.int z0), .val (.int z1), .unset, .unset, .unset, .unset, .unset, .unset] [])) t
    refine XS.iloadN X2.here hx rfl (hb hby at_20) rfl ?_
    show Steps p.tables e below (T2.setTop (mkF m 21 #[.val (.int le), .val (.int y0), .val (.int y1), .val (.int y2), .val (.int y3), .val (.int ((le &&& (2147483647 : Int32)) % (5 : Int32))), .val (.int z0), .val (.int z1), .unset, .unset, .unset, .unset, .unset, .unset] [(.int y2)])) t
    refine st3 _ ?_
    show Steps p.tables e below (T3.setTop (mkF m 24 #[.val (.int le), .val (.int y0), .val (.int y1), .val (.int y2), .val (.int y3), .val (.int ((le &&& (2147483647 : Int32)) % (5 : Int32))), .val (.int z0), .val (.int z1), .unset, .unset, .unset, .unset, .unset, .unset] [(.int z2)])) t
    refine XS.istore X3.here hx rfl (hb hby at_24) rfl (l' := #[.val (.int le), .val (.int y0), .val (.int y1), .val (.int y2), .val (.int y3), .val (.int ((le &&& (2147483647 : Int32)) % (5 : Int32))), .val (.int z0), .val (.int z1), .val (.int z2), .unset, .unset, .unset, .unset, .unset]) rfl ?_
    show Steps p.tables e below (T3.setTop (mkF m 26 #[.val (.int le), .val (.int y0), .val (.int y1), .val (.int y2), .val (.int y3), .val (.int ((le &&& (2147483647 : Int32)) % (5 : Int32))), .val (.int z0), .val (.int z1), .val (.int z2), .unset, .unset, .unset, .unset, .unset] [])) t
    refine XS.iload X3.here hx rfl (hb hby at_26) rfl ?_
    show Steps p.tables e below (T3.setTop (mkF m 28 #[.val (.int le), .val (.int y0), .val (.int y1), .val (.int y2), .val (.int y3), .val (.int ((le &&& (2147483647 : Int32)) % (5 : Int32))), .val (.int z0), .val (.int z1), .val (.int z2), .unset, .unset, .unset, .unset, .unset] [(.int y3)])) t
    refine st4 _ ?_
    show Steps p.tables e below (T4.setTop (mkF m 31 #[.val (.int le), .val (.int y0), .val (.int y1), .val (.int y2), .val (.int y3), .val (.int ((le &&& (2147483647 : Int32)) % (5 : Int32))), .val (.int z0), .val (.int z1), .val (.int z2), .unset, .unset, .unset, .unset, .unset] [(.int z3)])) t
    refine XS.istore X4.here hx rfl (hb hby at_31) rfl (l' := #[.val (.int le), .val (.int y0), .val (.int y1), .val (.int y2), .val (.int y3), .val (.int ((le &&& (2147483647 : Int32)) % (5 : Int32))), .val (.int z0), .val (.int z1), .val (.int z2), .val (.int z3), .unset, .unset, .unset, .unset]) rfl ?_
    show Steps p.tables e below (T4.setTop (mkF m 33 #[.val (.int le), .val (.int y0), .val (.int y1), .val (.int y2), .val (.int y3), .val (.int ((le &&& (2147483647 : Int32)) % (5 : Int32))), .val (.int z0), .val (.int z1), .val (.int z2), .val (.int z3), .unset, .unset, .unset, .unset] [])) t
    refine XS.iload X4.here hx rfl (hb hby at_33) rfl ?_
    show Steps p.tables e below (T4.setTop (mkF m 35 #[.val (.int le), .val (.int y0), .val (.int y1), .val (.int y2), .val (.int y3), .val (.int ((le &&& (2147483647 : Int32)) % (5 : Int32))), .val (.int z0), .val (.int z1), .val (.int z2), .val (.int z3), .unset, .unset, .unset, .unset] [(.int ((le &&& (2147483647 : Int32)) % (5 : Int32)))])) t
    refine XS.iload X4.here hx rfl (hb hby at_35) rfl ?_
    show Steps p.tables e below (T4.setTop (mkF m 37 #[.val (.int le), .val (.int y0), .val (.int y1), .val (.int y2), .val (.int y3), .val (.int ((le &&& (2147483647 : Int32)) % (5 : Int32))), .val (.int z0), .val (.int z1), .val (.int z2), .val (.int z3), .unset, .unset, .unset, .unset] [(.int z0), (.int ((le &&& (2147483647 : Int32)) % (5 : Int32)))])) t
    refine XS.iload X4.here hx rfl (hb hby at_37) rfl ?_
    show Steps p.tables e below (T4.setTop (mkF m 39 #[.val (.int le), .val (.int y0), .val (.int y1), .val (.int y2), .val (.int y3), .val (.int ((le &&& (2147483647 : Int32)) % (5 : Int32))), .val (.int z0), .val (.int z1), .val (.int z2), .val (.int z3), .unset, .unset, .unset, .unset] [(.int z1), (.int z0), (.int ((le &&& (2147483647 : Int32)) % (5 : Int32)))])) t
    refine XS.iload X4.here hx rfl (hb hby at_39) rfl ?_
    show Steps p.tables e below (T4.setTop (mkF m 41 #[.val (.int le), .val (.int y0), .val (.int y1), .val (.int y2), .val (.int y3), .val (.int ((le &&& (2147483647 : Int32)) % (5 : Int32))), .val (.int z0), .val (.int z1), .val (.int z2), .val (.int z3), .unset, .unset, .unset, .unset] [(.int z2), (.int z1), (.int z0), (.int ((le &&& (2147483647 : Int32)) % (5 : Int32)))])) t
    refine XS.iload X4.here hx rfl (hb hby at_41) rfl ?_
    exact k
  rcases own_5 le with hi | hi | hi | hi | hi
  · have R6 := R5
    rw [hi] at R6
    obtain ⟨_, _, ⟨T7, L7, k7, n7⟩, -, X7q, hS7q, hg7q, ⟨Lc7, hQ7, cl_7, cy_7, cz_7⟩, st7⟩ := callSS X4 hx (y := (⟨"com/example/wiring_from_blueprints/wiringfromblueprints/internal/StaticFieldCheckedPinLaw", "build", "(ICCCC)Ljava/lang/String;"⟩ : MethodName)) hown0 (mvT hZ0 (hw _ (List.mem_of_getElem? (i := 5) rfl))) (mvT hZ0 (hw _ (List.mem_of_getElem? (i := 6) rfl))) (mvT hZ0 (hw _ (List.mem_of_getElem? (i := 3) rfl))) (mvT hZ0 (hw _ (List.mem_of_getElem? (i := 7) rfl))) (by decide) (own_backV (W := 0) (Pv := fun vm_ => LS Z "java/lang/String" 7 [] vm_ h0 NN) (build0 l Z a0 hw [] zCS z0 z1 z2 z3 NN h0 n0 O0 S_CS hCS hcH hcW   ) hZ0 (fun vm_ hW_ => LS.warm (s := s) hL0 hW_) (hw _ (List.mem_of_getElem? (i := 7) rfl)) (hw _ (List.mem_of_getElem? (i := 3) rfl)) (by decide) (by decide)) (g := (mkF m 43 #[.val (.int le), .val (.int y0), .val (.int y1), .val (.int y2), .val (.int y3), .val (.int (0 : Int32)), .val (.int z0), .val (.int z1), .val (.int z2), .val (.int z3), .unset, .unset, .unset, .unset] [(.int z3), (.int z2), (.int z1), (.int z0), (.int (0 : Int32))])) rfl (by rw [hml]; rfl) (argsL := [(.int (0 : Int32)), (.int z0), (.int z1), (.int z2), (.int z3)]) (rest := []) (lenOf pd_11 rfl) rfl (by show 2 * 0 + _ ≤ _; exact Nat.le_of_eq rfl) (hb hby at_43) (fun _ _ => ⟨rfl, e4, (by decide : 0 + 4 ≤ _), (by decide : 0 + 8 ≤ _)⟩)
    dsimp only [Pt.U, Pt.locs, Pt.cells, Pt.slots] at X7q cl_7 cy_7 cz_7 st7 hQ7 hS7q hg7q
    rw [cl_7, cy_7, cz_7] at X7q
    obtain ⟨X7, hS7, hZ7, hown7⟩ := rebS hS0 (by rw [e4]; exact hk0) X7q hS7q hg7q hZ0 hown0
    have hk7 := Nat.le_refl T7.heap.size
    obtain ⟨b7, tt7, kb7, rfl, N7q, K7q, fr7_b, y7_0, y7_1, y7_2, y7_3, hL7⟩ := hQ7
    have N7 := Fr.app N4 N7q
    have g_b7 : n0 ≤ b7 := Nat.le_trans Z0 fr7_b
    have sz_b7 : h0.size ≤ b7 := Nat.le_trans K0.1 fr7_b
    have nl_b7 : NN ≤ b7 := Nat.le_trans hL0.1 fr7_b
    have Z7 : n0 ≤ T7.heap.size := Nat.le_trans Z0 K7q.1
    have K7 : Keep h0 T7.heap [] := K0.trans K7q all0
    have O7 : Old Z n0 T7.heap := O0.keep K7q all0
    have ne_b7_tt7 : b7 ≠ tt7 := y7_0.neArv y7_3 (hw _ (List.mem_of_getElem? (i := 9) rfl))
    obtain ⟨_, _, ⟨T8, L8, k8, n8⟩, -, X8, ⟨Lc8, hQ8, cl_8, cy_8, cz_8⟩, st8⟩ := Jvm.LawKit.callS X7 hx (y := (⟨"com/example/wiring_from_blueprints/wiringfromblueprints/internal/StaticFieldCheckedPinLaw", "lastDot", "(ICCCC)I"⟩ : MethodName)) hown7 (mvT hZ7 (hw _ (List.mem_of_getElem? (i := 30) rfl))) (mvT hZ7 (hw _ (List.mem_of_getElem? (i := 31) rfl))) (mvT hZ7 (hw _ (List.mem_of_getElem? (i := 3) rfl))) (mvT hZ7 (hw _ (List.mem_of_getElem? (i := 32) rfl))) (by decide) (backOf (W := 0) (ld0_m l Z a0 hw [] zCS z0 z1 z2 z3 T7.heap n0 O7 S_CS hCS hcH hcW   ) hZ7 (hw _ (List.mem_of_getElem? (i := 32) rfl)) (hw _ (List.mem_of_getElem? (i := 3) rfl)) (by decide) (by decide)) (g := (mkF m 58 #[.val (.int le), .val (.int y0), .val (.int y1), .val (.int y2), .val (.int y3), .val (.int (0 : Int32)), .val (.int z0), .val (.int z1), .val (.int z2), .val (.int z3), .val (.ref b7), .unset, .unset, .unset] [(.int z3), (.int z2), (.int z1), (.int z0), (.int (0 : Int32))])) rfl (by rw [hml]; rfl) (argsL := [(.int (0 : Int32)), (.int z0), (.int z1), (.int z2), (.int z3)]) (rest := []) (lenOf pd_12 rfl) rfl (by show 2 * 0 + _ ≤ _; exact Nat.le_of_eq rfl) (hb hby at_58) (fun _ _ => ⟨rfl, rfl, (by decide : 4 + 0 ≤ _), (by decide : 8 + 0 ≤ _)⟩)
    dsimp only [Pt.U, Pt.locs, Pt.cells, Pt.slots] at X8 cl_8 cy_8 cz_8 st8 hQ8
    rw [cl_8, cy_8, cz_8] at X8
    obtain ⟨rfl, N8q, e8⟩ := hQ8
    have N8 := Fr.app N7 N8q
    have R9 : ∀ t, Steps p.tables e below (T8.setTop (mkF m 91 #[.val (.int le), .val (.int y0), .val (.int y1), .val (.int y2), .val (.int y3), .val (.int (0 : Int32)), .val (.int z0), .val (.int z1), .val (.int z2), .val (.int z3), .val (.ref b7), .val (.int (-1 : Int32)), .val (.int (0 : Int32)), .unset] [(.int (1 : Int32))])) t → Steps p.tables e below (s₁.setTop (entryFrame m #[(.int le), (.int y0), (.int y1), (.int y2), (.int y3)] maxLocals)) t := by
      intro t k
      refine R6 t ?_
      show Steps p.tables e below (T4.setTop (mkF m 43 #[.val (.int le), .val (.int y0), .val (.int y1), .val (.int y2), .val (.int y3), .val (.int (0 : Int32)), .val (.int z0), .val (.int z1), .val (.int z2), .val (.int z3), .unset, .unset, .unset, .unset] [(.int z3), (.int z2), (.int z1), (.int z0), (.int (0 : Int32))])) t
      refine st7.trans ?_
      show Steps p.tables e below (T7.setTop (mkF m 46 #[.val (.int le), .val (.int y0), .val (.int y1), .val (.int y2), .val (.int y3), .val (.int (0 : Int32)), .val (.int z0), .val (.int z1), .val (.int z2), .val (.int z3), .unset, .unset, .unset, .unset] [(.ref b7)])) t
      refine XS.astore X7.here hx rfl (hb hby at_46) rfl rfl (l' := #[.val (.int le), .val (.int y0), .val (.int y1), .val (.int y2), .val (.int y3), .val (.int (0 : Int32)), .val (.int z0), .val (.int z1), .val (.int z2), .val (.int z3), .val (.ref b7), .unset, .unset, .unset]) rfl ?_
      show Steps p.tables e below (T7.setTop (mkF m 48 #[.val (.int le), .val (.int y0), .val (.int y1), .val (.int y2), .val (.int y3), .val (.int (0 : Int32)), .val (.int z0), .val (.int z1), .val (.int z2), .val (.int z3), .val (.ref b7), .unset, .unset, .unset] [])) t
      refine XS.iload X7.here hx rfl (hb hby at_48) rfl ?_
      show Steps p.tables e below (T7.setTop (mkF m 50 #[.val (.int le), .val (.int y0), .val (.int y1), .val (.int y2), .val (.int y3), .val (.int (0 : Int32)), .val (.int z0), .val (.int z1), .val (.int z2), .val (.int z3), .val (.ref b7), .unset, .unset, .unset] [(.int (0 : Int32))])) t
      refine XS.iload X7.here hx rfl (hb hby at_50) rfl ?_
      show Steps p.tables e below (T7.setTop (mkF m 52 #[.val (.int le), .val (.int y0), .val (.int y1), .val (.int y2), .val (.int y3), .val (.int (0 : Int32)), .val (.int z0), .val (.int z1), .val (.int z2), .val (.int z3), .val (.ref b7), .unset, .unset, .unset] [(.int z0), (.int (0 : Int32))])) t
      refine XS.iload X7.here hx rfl (hb hby at_52) rfl ?_
      show Steps p.tables e below (T7.setTop (mkF m 54 #[.val (.int le), .val (.int y0), .val (.int y1), .val (.int y2), .val (.int y3), .val (.int (0 : Int32)), .val (.int z0), .val (.int z1), .val (.int z2), .val (.int z3), .val (.ref b7), .unset, .unset, .unset] [(.int z1), (.int z0), (.int (0 : Int32))])) t
      refine XS.iload X7.here hx rfl (hb hby at_54) rfl ?_
      show Steps p.tables e below (T7.setTop (mkF m 56 #[.val (.int le), .val (.int y0), .val (.int y1), .val (.int y2), .val (.int y3), .val (.int (0 : Int32)), .val (.int z0), .val (.int z1), .val (.int z2), .val (.int z3), .val (.ref b7), .unset, .unset, .unset] [(.int z2), (.int z1), (.int z0), (.int (0 : Int32))])) t
      refine XS.iload X7.here hx rfl (hb hby at_56) rfl ?_
      show Steps p.tables e below (T7.setTop (mkF m 58 #[.val (.int le), .val (.int y0), .val (.int y1), .val (.int y2), .val (.int y3), .val (.int (0 : Int32)), .val (.int z0), .val (.int z1), .val (.int z2), .val (.int z3), .val (.ref b7), .unset, .unset, .unset] [(.int z3), (.int z2), (.int z1), (.int z0), (.int (0 : Int32))])) t
      refine st8 _ ?_
      show Steps p.tables e below (T8.setTop (mkF m 61 #[.val (.int le), .val (.int y0), .val (.int y1), .val (.int y2), .val (.int y3), .val (.int (0 : Int32)), .val (.int z0), .val (.int z1), .val (.int z2), .val (.int z3), .val (.ref b7), .unset, .unset, .unset] [(.int (-1 : Int32))])) t
      refine XS.istore X8.here hx rfl (hb hby at_61) rfl (l' := #[.val (.int le), .val (.int y0), .val (.int y1), .val (.int y2), .val (.int y3), .val (.int (0 : Int32)), .val (.int z0), .val (.int z1), .val (.int z2), .val (.int z3), .val (.ref b7), .val (.int (-1 : Int32)), .unset, .unset]) rfl ?_
      show Steps p.tables e below (T8.setTop (mkF m 63 #[.val (.int le), .val (.int y0), .val (.int y1), .val (.int y2), .val (.int y3), .val (.int (0 : Int32)), .val (.int z0), .val (.int z1), .val (.int z2), .val (.int z3), .val (.ref b7), .val (.int (-1 : Int32)), .unset, .unset] [])) t
      refine XS.iload X8.here hx rfl (hb hby at_63) rfl ?_
      show Steps p.tables e below (T8.setTop (mkF m 65 #[.val (.int le), .val (.int y0), .val (.int y1), .val (.int y2), .val (.int y3), .val (.int (0 : Int32)), .val (.int z0), .val (.int z1), .val (.int z2), .val (.int z3), .val (.ref b7), .val (.int (-1 : Int32)), .unset, .unset] [(.int (-1 : Int32))])) t
      refine XS.iconst X8.here hx rfl (hb hby at_65) ?_
      show Steps p.tables e below (T8.setTop (mkF m 66 #[.val (.int le), .val (.int y0), .val (.int y1), .val (.int y2), .val (.int y3), .val (.int (0 : Int32)), .val (.int z0), .val (.int z1), .val (.int z2), .val (.int z3), .val (.ref b7), .val (.int (-1 : Int32)), .unset, .unset] [(.int (1 : Int32)), (.int (-1 : Int32))])) t
      refine XS.icmpYes X8.here hx rfl (pc0 := 66) (pc' := 82) rfl (hb hby at_66) rfl (tlt ((by decide) : (-1 : Int32) < (1 : Int32))).1 (by decide) (by decide) ?_
      show Steps p.tables e below (T8.setTop (mkF m 82 #[.val (.int le), .val (.int y0), .val (.int y1), .val (.int y2), .val (.int y3), .val (.int (0 : Int32)), .val (.int z0), .val (.int z1), .val (.int z2), .val (.int z3), .val (.ref b7), .val (.int (-1 : Int32)), .unset, .unset] [])) t
      refine XS.iconst X8.here hx rfl (hb hby at_82) ?_
      show Steps p.tables e below (T8.setTop (mkF m 83 #[.val (.int le), .val (.int y0), .val (.int y1), .val (.int y2), .val (.int y3), .val (.int (0 : Int32)), .val (.int z0), .val (.int z1), .val (.int z2), .val (.int z3), .val (.ref b7), .val (.int (-1 : Int32)), .unset, .unset] [(.int (0 : Int32))])) t
      refine XS.istore X8.here hx rfl (hb hby at_83) rfl (l' := #[.val (.int le), .val (.int y0), .val (.int y1), .val (.int y2), .val (.int y3), .val (.int (0 : Int32)), .val (.int z0), .val (.int z1), .val (.int z2), .val (.int z3), .val (.ref b7), .val (.int (-1 : Int32)), .val (.int (0 : Int32)), .unset]) rfl ?_
      show Steps p.tables e below (T8.setTop (mkF m 85 #[.val (.int le), .val (.int y0), .val (.int y1), .val (.int y2), .val (.int y3), .val (.int (0 : Int32)), .val (.int z0), .val (.int z1), .val (.int z2), .val (.int z3), .val (.ref b7), .val (.int (-1 : Int32)), .val (.int (0 : Int32)), .unset] [])) t
      refine XS.iload X8.here hx rfl (hb hby at_85) rfl ?_
      show Steps p.tables e below (T8.setTop (mkF m 87 #[.val (.int le), .val (.int y0), .val (.int y1), .val (.int y2), .val (.int y3), .val (.int (0 : Int32)), .val (.int z0), .val (.int z1), .val (.int z2), .val (.int z3), .val (.ref b7), .val (.int (-1 : Int32)), .val (.int (0 : Int32)), .unset] [(.int (0 : Int32))])) t
      refine XS.ifNo X8.here hx rfl (hb hby at_87) rfl ((if0 _ _).trans (teq ((by decide) : (0 : Int32) = (0 : Int32))).2) ?_
      show Steps p.tables e below (T8.setTop (mkF m 90 #[.val (.int le), .val (.int y0), .val (.int y1), .val (.int y2), .val (.int y3), .val (.int (0 : Int32)), .val (.int z0), .val (.int z1), .val (.int z2), .val (.int z3), .val (.ref b7), .val (.int (-1 : Int32)), .val (.int (0 : Int32)), .unset] [])) t
      refine XS.iconst X8.here hx rfl (hb hby at_90) ?_
      exact k
    obtain ⟨fs, hr, hrun, hended, hRW⟩ := X8.leaveW hS7 (by rw [e8]; exact hk7) (v := some (.int (1 : Int32))) (fun h => by rw [Bd.returns] at h; cases h)
    refine ⟨_, _, R9 _ ?_, hrun, hended, _, _, rfl, ?_, hRW.1, hRW.2.1, hRW.2.2.1, hRW.2.2.2.mono (by decide) (by decide)⟩
    · show Steps p.tables e below (T8.setTop (mkF m 91 #[.val (.int le), .val (.int y0), .val (.int y1), .val (.int y2), .val (.int y3), .val (.int (0 : Int32)), .val (.int z0), .val (.int z1), .val (.int z2), .val (.int z3), .val (.ref b7), .val (.int (-1 : Int32)), .val (.int (0 : Int32)), .unset] [(.int (1 : Int32))])) _
      exact retN X8 hx (t := .boolean) Bd.returns (by simp) (hb hby at_91) hr
    · show Q_rm0 Z zCS le y0 y1 y2 y3 h0 n0 _ T8.heap _
      rw [e8]
      exact ⟨rfl, N8⟩
  · have R10 := R5
    rw [hi] at R10
    obtain ⟨_, _, ⟨T11, L11, k11, n11⟩, -, X11, ⟨Lc11, hQ11, cl_11, cy_11, cz_11⟩, st11⟩ := Jvm.LawKit.callS X4 hx (y := (⟨"com/example/wiring_from_blueprints/wiringfromblueprints/internal/StaticFieldCheckedPinLaw", "build", "(ICCCC)Ljava/lang/String;"⟩ : MethodName)) hown0 (mvT hZ0 (hw _ (List.mem_of_getElem? (i := 5) rfl))) (mvT hZ0 (hw _ (List.mem_of_getElem? (i := 6) rfl))) (mvT hZ0 (hw _ (List.mem_of_getElem? (i := 3) rfl))) (mvT hZ0 (hw _ (List.mem_of_getElem? (i := 7) rfl))) (by decide) (backOf (W := 0) (build1 l Z a0 hw [] zCS z0 z1 z2 z3 h0 n0 O0 S_CS hCS hcH hcW   y1_0) hZ0 (hw _ (List.mem_of_getElem? (i := 7) rfl)) (hw _ (List.mem_of_getElem? (i := 3) rfl)) (by decide) (by decide)) (g := (mkF m 43 #[.val (.int le), .val (.int y0), .val (.int y1), .val (.int y2), .val (.int y3), .val (.int (1 : Int32)), .val (.int z0), .val (.int z1), .val (.int z2), .val (.int z3), .unset, .unset, .unset, .unset] [(.int z3), (.int z2), (.int z1), (.int z0), (.int (1 : Int32))])) rfl (by rw [hml]; rfl) (argsL := [(.int (1 : Int32)), (.int z0), (.int z1), (.int z2), (.int z3)]) (rest := []) (lenOf pd_11 rfl) rfl (by show 2 * 0 + _ ≤ _; exact Nat.le_of_eq rfl) (hb hby at_43) (fun _ _ => ⟨rfl, e4, (by decide : 0 + 3 ≤ _), (by decide : 0 + 6 ≤ _)⟩)
    dsimp only [Pt.U, Pt.locs, Pt.cells, Pt.slots] at X11 cl_11 cy_11 cz_11 st11 hQ11
    rw [cl_11, cy_11, cz_11] at X11
    obtain ⟨b11, tt11, kb11, rfl, N11q, K11q, fr11_b, y11_0, y11_1, y11_2, y11_3⟩ := hQ11
    have N11 := Fr.app N4 N11q
    have g_b11 : n0 ≤ b11 := Nat.le_trans Z0 fr11_b
    have sz_b11 : h0.size ≤ b11 := Nat.le_trans K0.1 fr11_b
    have nl_b11 : NN ≤ b11 := Nat.le_trans hL0.1 fr11_b
    have Z11 : n0 ≤ T11.heap.size := Nat.le_trans Z0 K11q.1
    have K11 : Keep h0 T11.heap [] := K0.trans K11q all0
    have O11 : Old Z n0 T11.heap := O0.keep K11q all0
    have hL11 := hL0.keep K11q all0
    have hk11 := Nat.le_trans hk0 K11q.1
    have ne_b11_tt11 : b11 ≠ tt11 := y11_0.neArv y11_3 (hw _ (List.mem_of_getElem? (i := 9) rfl))
    have R12 : ∀ t, Steps p.tables e below (T11.setTop (mkF m 58 #[.val (.int le), .val (.int y0), .val (.int y1), .val (.int y2), .val (.int y3), .val (.int (1 : Int32)), .val (.int z0), .val (.int z1), .val (.int z2), .val (.int z3), .val (.ref b11), .unset, .unset, .unset] [(.int z3), (.int z2), (.int z1), (.int z0), (.int (1 : Int32))])) t → Steps p.tables e below (s₁.setTop (entryFrame m #[(.int le), (.int y0), (.int y1), (.int y2), (.int y3)] maxLocals)) t := by
      intro t k
      refine R10 t ?_
      show Steps p.tables e below (T4.setTop (mkF m 43 #[.val (.int le), .val (.int y0), .val (.int y1), .val (.int y2), .val (.int y3), .val (.int (1 : Int32)), .val (.int z0), .val (.int z1), .val (.int z2), .val (.int z3), .unset, .unset, .unset, .unset] [(.int z3), (.int z2), (.int z1), (.int z0), (.int (1 : Int32))])) t
      refine st11 _ ?_
      show Steps p.tables e below (T11.setTop (mkF m 46 #[.val (.int le), .val (.int y0), .val (.int y1), .val (.int y2), .val (.int y3), .val (.int (1 : Int32)), .val (.int z0), .val (.int z1), .val (.int z2), .val (.int z3), .unset, .unset, .unset, .unset] [(.ref b11)])) t
      refine XS.astore X11.here hx rfl (hb hby at_46) rfl rfl (l' := #[.val (.int le), .val (.int y0), .val (.int y1), .val (.int y2), .val (.int y3), .val (.int (1 : Int32)), .val (.int z0), .val (.int z1), .val (.int z2), .val (.int z3), .val (.ref b11), .unset, .unset, .unset]) rfl ?_
      show Steps p.tables e below (T11.setTop (mkF m 48 #[.val (.int le), .val (.int y0), .val (.int y1), .val (.int y2), .val (.int y3), .val (.int (1 : Int32)), .val (.int z0), .val (.int z1), .val (.int z2), .val (.int z3), .val (.ref b11), .unset, .unset, .unset] [])) t
      refine XS.iload X11.here hx rfl (hb hby at_48) rfl ?_
      show Steps p.tables e below (T11.setTop (mkF m 50 #[.val (.int le), .val (.int y0), .val (.int y1), .val (.int y2), .val (.int y3), .val (.int (1 : Int32)), .val (.int z0), .val (.int z1), .val (.int z2), .val (.int z3), .val (.ref b11), .unset, .unset, .unset] [(.int (1 : Int32))])) t
      refine XS.iload X11.here hx rfl (hb hby at_50) rfl ?_
      show Steps p.tables e below (T11.setTop (mkF m 52 #[.val (.int le), .val (.int y0), .val (.int y1), .val (.int y2), .val (.int y3), .val (.int (1 : Int32)), .val (.int z0), .val (.int z1), .val (.int z2), .val (.int z3), .val (.ref b11), .unset, .unset, .unset] [(.int z0), (.int (1 : Int32))])) t
      refine XS.iload X11.here hx rfl (hb hby at_52) rfl ?_
      show Steps p.tables e below (T11.setTop (mkF m 54 #[.val (.int le), .val (.int y0), .val (.int y1), .val (.int y2), .val (.int y3), .val (.int (1 : Int32)), .val (.int z0), .val (.int z1), .val (.int z2), .val (.int z3), .val (.ref b11), .unset, .unset, .unset] [(.int z1), (.int z0), (.int (1 : Int32))])) t
      refine XS.iload X11.here hx rfl (hb hby at_54) rfl ?_
      show Steps p.tables e below (T11.setTop (mkF m 56 #[.val (.int le), .val (.int y0), .val (.int y1), .val (.int y2), .val (.int y3), .val (.int (1 : Int32)), .val (.int z0), .val (.int z1), .val (.int z2), .val (.int z3), .val (.ref b11), .unset, .unset, .unset] [(.int z2), (.int z1), (.int z0), (.int (1 : Int32))])) t
      refine XS.iload X11.here hx rfl (hb hby at_56) rfl ?_
      exact k
    by_cases hz0 : z0 = (46 : Int32)
    · obtain ⟨_, _, ⟨T13, L13, k13, n13⟩, -, X13, ⟨Lc13, hQ13, cl_13, cy_13, cz_13⟩, st13⟩ := Jvm.LawKit.callS X11 hx (y := (⟨"com/example/wiring_from_blueprints/wiringfromblueprints/internal/StaticFieldCheckedPinLaw", "lastDot", "(ICCCC)I"⟩ : MethodName)) hown0 (mvT hZ0 (hw _ (List.mem_of_getElem? (i := 30) rfl))) (mvT hZ0 (hw _ (List.mem_of_getElem? (i := 31) rfl))) (mvT hZ0 (hw _ (List.mem_of_getElem? (i := 3) rfl))) (mvT hZ0 (hw _ (List.mem_of_getElem? (i := 32) rfl))) (by decide) (backOf (W := 0) (ld1_0 l Z a0 hw [] zCS z0 z1 z2 z3 T11.heap n0 O11 S_CS hCS hcH hcW   hz0) hZ0 (hw _ (List.mem_of_getElem? (i := 32) rfl)) (hw _ (List.mem_of_getElem? (i := 3) rfl)) (by decide) (by decide)) (g := (mkF m 58 #[.val (.int le), .val (.int y0), .val (.int y1), .val (.int y2), .val (.int y3), .val (.int (1 : Int32)), .val (.int z0), .val (.int z1), .val (.int z2), .val (.int z3), .val (.ref b11), .unset, .unset, .unset] [(.int z3), (.int z2), (.int z1), (.int z0), (.int (1 : Int32))])) rfl (by rw [hml]; rfl) (argsL := [(.int (1 : Int32)), (.int z0), (.int z1), (.int z2), (.int z3)]) (rest := []) (lenOf pd_12 rfl) rfl (by show 2 * 0 + _ ≤ _; exact Nat.le_of_eq rfl) (hb hby at_58) (fun _ _ => ⟨rfl, rfl, (by decide : 3 + 0 ≤ _), (by decide : 6 + 0 ≤ _)⟩)
      dsimp only [Pt.U, Pt.locs, Pt.cells, Pt.slots] at X13 cl_13 cy_13 cz_13 st13 hQ13
      rw [cl_13, cy_13, cz_13] at X13
      obtain ⟨rfl, N13q, e13⟩ := hQ13
      have N13 := Fr.app N11 N13q
      have R14 : ∀ t, Steps p.tables e below (T13.setTop (mkF m 91 #[.val (.int le), .val (.int y0), .val (.int y1), .val (.int y2), .val (.int y3), .val (.int (1 : Int32)), .val (.int z0), .val (.int z1), .val (.int z2), .val (.int z3), .val (.ref b11), .val (.int (0 : Int32)), .val (.int (0 : Int32)), .unset] [(.int (1 : Int32))])) t → Steps p.tables e below (s₁.setTop (entryFrame m #[(.int le), (.int y0), (.int y1), (.int y2), (.int y3)] maxLocals)) t := by
        intro t k
        refine R12 t ?_
        show Steps p.tables e below (T11.setTop (mkF m 58 #[.val (.int le), .val (.int y0), .val (.int y1), .val (.int y2), .val (.int y3), .val (.int (1 : Int32)), .val (.int z0), .val (.int z1), .val (.int z2), .val (.int z3), .val (.ref b11), .unset, .unset, .unset] [(.int z3), (.int z2), (.int z1), (.int z0), (.int (1 : Int32))])) t
        refine st13 _ ?_
        show Steps p.tables e below (T13.setTop (mkF m 61 #[.val (.int le), .val (.int y0), .val (.int y1), .val (.int y2), .val (.int y3), .val (.int (1 : Int32)), .val (.int z0), .val (.int z1), .val (.int z2), .val (.int z3), .val (.ref b11), .unset, .unset, .unset] [(.int (0 : Int32))])) t
        refine XS.istore X13.here hx rfl (hb hby at_61) rfl (l' := #[.val (.int le), .val (.int y0), .val (.int y1), .val (.int y2), .val (.int y3), .val (.int (1 : Int32)), .val (.int z0), .val (.int z1), .val (.int z2), .val (.int z3), .val (.ref b11), .val (.int (0 : Int32)), .unset, .unset]) rfl ?_
        show Steps p.tables e below (T13.setTop (mkF m 63 #[.val (.int le), .val (.int y0), .val (.int y1), .val (.int y2), .val (.int y3), .val (.int (1 : Int32)), .val (.int z0), .val (.int z1), .val (.int z2), .val (.int z3), .val (.ref b11), .val (.int (0 : Int32)), .unset, .unset] [])) t
        refine XS.iload X13.here hx rfl (hb hby at_63) rfl ?_
        show Steps p.tables e below (T13.setTop (mkF m 65 #[.val (.int le), .val (.int y0), .val (.int y1), .val (.int y2), .val (.int y3), .val (.int (1 : Int32)), .val (.int z0), .val (.int z1), .val (.int z2), .val (.int z3), .val (.ref b11), .val (.int (0 : Int32)), .unset, .unset] [(.int (0 : Int32))])) t
        refine XS.iconst X13.here hx rfl (hb hby at_65) ?_
        show Steps p.tables e below (T13.setTop (mkF m 66 #[.val (.int le), .val (.int y0), .val (.int y1), .val (.int y2), .val (.int y3), .val (.int (1 : Int32)), .val (.int z0), .val (.int z1), .val (.int z2), .val (.int z3), .val (.ref b11), .val (.int (0 : Int32)), .unset, .unset] [(.int (1 : Int32)), (.int (0 : Int32))])) t
        refine XS.icmpYes X13.here hx rfl (pc0 := 66) (pc' := 82) rfl (hb hby at_66) rfl (tlt ((by decide) : (0 : Int32) < (1 : Int32))).1 (by decide) (by decide) ?_
        show Steps p.tables e below (T13.setTop (mkF m 82 #[.val (.int le), .val (.int y0), .val (.int y1), .val (.int y2), .val (.int y3), .val (.int (1 : Int32)), .val (.int z0), .val (.int z1), .val (.int z2), .val (.int z3), .val (.ref b11), .val (.int (0 : Int32)), .unset, .unset] [])) t
        refine XS.iconst X13.here hx rfl (hb hby at_82) ?_
        show Steps p.tables e below (T13.setTop (mkF m 83 #[.val (.int le), .val (.int y0), .val (.int y1), .val (.int y2), .val (.int y3), .val (.int (1 : Int32)), .val (.int z0), .val (.int z1), .val (.int z2), .val (.int z3), .val (.ref b11), .val (.int (0 : Int32)), .unset, .unset] [(.int (0 : Int32))])) t
        refine XS.istore X13.here hx rfl (hb hby at_83) rfl (l' := #[.val (.int le), .val (.int y0), .val (.int y1), .val (.int y2), .val (.int y3), .val (.int (1 : Int32)), .val (.int z0), .val (.int z1), .val (.int z2), .val (.int z3), .val (.ref b11), .val (.int (0 : Int32)), .val (.int (0 : Int32)), .unset]) rfl ?_
        show Steps p.tables e below (T13.setTop (mkF m 85 #[.val (.int le), .val (.int y0), .val (.int y1), .val (.int y2), .val (.int y3), .val (.int (1 : Int32)), .val (.int z0), .val (.int z1), .val (.int z2), .val (.int z3), .val (.ref b11), .val (.int (0 : Int32)), .val (.int (0 : Int32)), .unset] [])) t
        refine XS.iload X13.here hx rfl (hb hby at_85) rfl ?_
        show Steps p.tables e below (T13.setTop (mkF m 87 #[.val (.int le), .val (.int y0), .val (.int y1), .val (.int y2), .val (.int y3), .val (.int (1 : Int32)), .val (.int z0), .val (.int z1), .val (.int z2), .val (.int z3), .val (.ref b11), .val (.int (0 : Int32)), .val (.int (0 : Int32)), .unset] [(.int (0 : Int32))])) t
        refine XS.ifNo X13.here hx rfl (hb hby at_87) rfl ((if0 _ _).trans (teq ((by decide) : (0 : Int32) = (0 : Int32))).2) ?_
        show Steps p.tables e below (T13.setTop (mkF m 90 #[.val (.int le), .val (.int y0), .val (.int y1), .val (.int y2), .val (.int y3), .val (.int (1 : Int32)), .val (.int z0), .val (.int z1), .val (.int z2), .val (.int z3), .val (.ref b11), .val (.int (0 : Int32)), .val (.int (0 : Int32)), .unset] [])) t
        refine XS.iconst X13.here hx rfl (hb hby at_90) ?_
        exact k
      obtain ⟨fs, hr, hrun, hended, hRW⟩ := X13.leaveW hS0 (by rw [e13]; exact hk11) (v := some (.int (1 : Int32))) (fun h => by rw [Bd.returns] at h; cases h)
      refine ⟨_, _, R14 _ ?_, hrun, hended, _, _, rfl, ?_, hRW.1, hRW.2.1, hRW.2.2.1, hRW.2.2.2.mono (by decide) (by decide)⟩
      · show Steps p.tables e below (T13.setTop (mkF m 91 #[.val (.int le), .val (.int y0), .val (.int y1), .val (.int y2), .val (.int y3), .val (.int (1 : Int32)), .val (.int z0), .val (.int z1), .val (.int z2), .val (.int z3), .val (.ref b11), .val (.int (0 : Int32)), .val (.int (0 : Int32)), .unset] [(.int (1 : Int32))])) _
        exact retN X13 hx (t := .boolean) Bd.returns (by simp) (hb hby at_91) hr
      · show Q_rm0 Z zCS le y0 y1 y2 y3 h0 n0 _ T13.heap _
        rw [e13]
        exact ⟨rfl, N13⟩
    · obtain ⟨_, _, ⟨T15, L15, k15, n15⟩, -, X15, ⟨Lc15, hQ15, cl_15, cy_15, cz_15⟩, st15⟩ := Jvm.LawKit.callS X11 hx (y := (⟨"com/example/wiring_from_blueprints/wiringfromblueprints/internal/StaticFieldCheckedPinLaw", "lastDot", "(ICCCC)I"⟩ : MethodName)) hown0 (mvT hZ0 (hw _ (List.mem_of_getElem? (i := 30) rfl))) (mvT hZ0 (hw _ (List.mem_of_getElem? (i := 31) rfl))) (mvT hZ0 (hw _ (List.mem_of_getElem? (i := 3) rfl))) (mvT hZ0 (hw _ (List.mem_of_getElem? (i := 32) rfl))) (by decide) (backOf (W := 0) (ld1_m l Z a0 hw [] zCS z0 z1 z2 z3 T11.heap n0 O11 S_CS hCS hcH hcW   hz0) hZ0 (hw _ (List.mem_of_getElem? (i := 32) rfl)) (hw _ (List.mem_of_getElem? (i := 3) rfl)) (by decide) (by decide)) (g := (mkF m 58 #[.val (.int le), .val (.int y0), .val (.int y1), .val (.int y2), .val (.int y3), .val (.int (1 : Int32)), .val (.int z0), .val (.int z1), .val (.int z2), .val (.int z3), .val (.ref b11), .unset, .unset, .unset] [(.int z3), (.int z2), (.int z1), (.int z0), (.int (1 : Int32))])) rfl (by rw [hml]; rfl) (argsL := [(.int (1 : Int32)), (.int z0), (.int z1), (.int z2), (.int z3)]) (rest := []) (lenOf pd_12 rfl) rfl (by show 2 * 0 + _ ≤ _; exact Nat.le_of_eq rfl) (hb hby at_58) (fun _ _ => ⟨rfl, rfl, (by decide : 3 + 0 ≤ _), (by decide : 6 + 0 ≤ _)⟩)
      dsimp only [Pt.U, Pt.locs, Pt.cells, Pt.slots] at X15 cl_15 cy_15 cz_15 st15 hQ15
      rw [cl_15, cy_15, cz_15] at X15
      obtain ⟨rfl, N15q, e15⟩ := hQ15
      have N15 := Fr.app N11 N15q
      have R16 : ∀ t, Steps p.tables e below (T15.setTop (mkF m 91 #[.val (.int le), .val (.int y0), .val (.int y1), .val (.int y2), .val (.int y3), .val (.int (1 : Int32)), .val (.int z0), .val (.int z1), .val (.int z2), .val (.int z3), .val (.ref b11), .val (.int (-1 : Int32)), .val (.int (0 : Int32)), .unset] [(.int (1 : Int32))])) t → Steps p.tables e below (s₁.setTop (entryFrame m #[(.int le), (.int y0), (.int y1), (.int y2), (.int y3)] maxLocals)) t := by
        intro t k
        refine R12 t ?_
        show Steps p.tables e below (T11.setTop (mkF m 58 #[.val (.int le), .val (.int y0), .val (.int y1), .val (.int y2), .val (.int y3), .val (.int (1 : Int32)), .val (.int z0), .val (.int z1), .val (.int z2), .val (.int z3), .val (.ref b11), .unset, .unset, .unset] [(.int z3), (.int z2), (.int z1), (.int z0), (.int (1 : Int32))])) t
        refine st15 _ ?_
        show Steps p.tables e below (T15.setTop (mkF m 61 #[.val (.int le), .val (.int y0), .val (.int y1), .val (.int y2), .val (.int y3), .val (.int (1 : Int32)), .val (.int z0), .val (.int z1), .val (.int z2), .val (.int z3), .val (.ref b11), .unset, .unset, .unset] [(.int (-1 : Int32))])) t
        refine XS.istore X15.here hx rfl (hb hby at_61) rfl (l' := #[.val (.int le), .val (.int y0), .val (.int y1), .val (.int y2), .val (.int y3), .val (.int (1 : Int32)), .val (.int z0), .val (.int z1), .val (.int z2), .val (.int z3), .val (.ref b11), .val (.int (-1 : Int32)), .unset, .unset]) rfl ?_
        show Steps p.tables e below (T15.setTop (mkF m 63 #[.val (.int le), .val (.int y0), .val (.int y1), .val (.int y2), .val (.int y3), .val (.int (1 : Int32)), .val (.int z0), .val (.int z1), .val (.int z2), .val (.int z3), .val (.ref b11), .val (.int (-1 : Int32)), .unset, .unset] [])) t
        refine XS.iload X15.here hx rfl (hb hby at_63) rfl ?_
        show Steps p.tables e below (T15.setTop (mkF m 65 #[.val (.int le), .val (.int y0), .val (.int y1), .val (.int y2), .val (.int y3), .val (.int (1 : Int32)), .val (.int z0), .val (.int z1), .val (.int z2), .val (.int z3), .val (.ref b11), .val (.int (-1 : Int32)), .unset, .unset] [(.int (-1 : Int32))])) t
        refine XS.iconst X15.here hx rfl (hb hby at_65) ?_
        show Steps p.tables e below (T15.setTop (mkF m 66 #[.val (.int le), .val (.int y0), .val (.int y1), .val (.int y2), .val (.int y3), .val (.int (1 : Int32)), .val (.int z0), .val (.int z1), .val (.int z2), .val (.int z3), .val (.ref b11), .val (.int (-1 : Int32)), .unset, .unset] [(.int (1 : Int32)), (.int (-1 : Int32))])) t
        refine XS.icmpYes X15.here hx rfl (pc0 := 66) (pc' := 82) rfl (hb hby at_66) rfl (tlt ((by decide) : (-1 : Int32) < (1 : Int32))).1 (by decide) (by decide) ?_
        show Steps p.tables e below (T15.setTop (mkF m 82 #[.val (.int le), .val (.int y0), .val (.int y1), .val (.int y2), .val (.int y3), .val (.int (1 : Int32)), .val (.int z0), .val (.int z1), .val (.int z2), .val (.int z3), .val (.ref b11), .val (.int (-1 : Int32)), .unset, .unset] [])) t
        refine XS.iconst X15.here hx rfl (hb hby at_82) ?_
        show Steps p.tables e below (T15.setTop (mkF m 83 #[.val (.int le), .val (.int y0), .val (.int y1), .val (.int y2), .val (.int y3), .val (.int (1 : Int32)), .val (.int z0), .val (.int z1), .val (.int z2), .val (.int z3), .val (.ref b11), .val (.int (-1 : Int32)), .unset, .unset] [(.int (0 : Int32))])) t
        refine XS.istore X15.here hx rfl (hb hby at_83) rfl (l' := #[.val (.int le), .val (.int y0), .val (.int y1), .val (.int y2), .val (.int y3), .val (.int (1 : Int32)), .val (.int z0), .val (.int z1), .val (.int z2), .val (.int z3), .val (.ref b11), .val (.int (-1 : Int32)), .val (.int (0 : Int32)), .unset]) rfl ?_
        show Steps p.tables e below (T15.setTop (mkF m 85 #[.val (.int le), .val (.int y0), .val (.int y1), .val (.int y2), .val (.int y3), .val (.int (1 : Int32)), .val (.int z0), .val (.int z1), .val (.int z2), .val (.int z3), .val (.ref b11), .val (.int (-1 : Int32)), .val (.int (0 : Int32)), .unset] [])) t
        refine XS.iload X15.here hx rfl (hb hby at_85) rfl ?_
        show Steps p.tables e below (T15.setTop (mkF m 87 #[.val (.int le), .val (.int y0), .val (.int y1), .val (.int y2), .val (.int y3), .val (.int (1 : Int32)), .val (.int z0), .val (.int z1), .val (.int z2), .val (.int z3), .val (.ref b11), .val (.int (-1 : Int32)), .val (.int (0 : Int32)), .unset] [(.int (0 : Int32))])) t
        refine XS.ifNo X15.here hx rfl (hb hby at_87) rfl ((if0 _ _).trans (teq ((by decide) : (0 : Int32) = (0 : Int32))).2) ?_
        show Steps p.tables e below (T15.setTop (mkF m 90 #[.val (.int le), .val (.int y0), .val (.int y1), .val (.int y2), .val (.int y3), .val (.int (1 : Int32)), .val (.int z0), .val (.int z1), .val (.int z2), .val (.int z3), .val (.ref b11), .val (.int (-1 : Int32)), .val (.int (0 : Int32)), .unset] [])) t
        refine XS.iconst X15.here hx rfl (hb hby at_90) ?_
        exact k
      obtain ⟨fs, hr, hrun, hended, hRW⟩ := X15.leaveW hS0 (by rw [e15]; exact hk11) (v := some (.int (1 : Int32))) (fun h => by rw [Bd.returns] at h; cases h)
      refine ⟨_, _, R16 _ ?_, hrun, hended, _, _, rfl, ?_, hRW.1, hRW.2.1, hRW.2.2.1, hRW.2.2.2.mono (by decide) (by decide)⟩
      · show Steps p.tables e below (T15.setTop (mkF m 91 #[.val (.int le), .val (.int y0), .val (.int y1), .val (.int y2), .val (.int y3), .val (.int (1 : Int32)), .val (.int z0), .val (.int z1), .val (.int z2), .val (.int z3), .val (.ref b11), .val (.int (-1 : Int32)), .val (.int (0 : Int32)), .unset] [(.int (1 : Int32))])) _
        exact retN X15 hx (t := .boolean) Bd.returns (by simp) (hb hby at_91) hr
      · show Q_rm0 Z zCS le y0 y1 y2 y3 h0 n0 _ T15.heap _
        rw [e15]
        exact ⟨rfl, N15⟩
  · have R17 := R5
    rw [hi] at R17
    obtain ⟨_, _, ⟨T18, L18, k18, n18⟩, -, X18, ⟨Lc18, hQ18, cl_18, cy_18, cz_18⟩, st18⟩ := Jvm.LawKit.callS X4 hx (y := (⟨"com/example/wiring_from_blueprints/wiringfromblueprints/internal/StaticFieldCheckedPinLaw", "build", "(ICCCC)Ljava/lang/String;"⟩ : MethodName)) hown0 (mvT hZ0 (hw _ (List.mem_of_getElem? (i := 5) rfl))) (mvT hZ0 (hw _ (List.mem_of_getElem? (i := 6) rfl))) (mvT hZ0 (hw _ (List.mem_of_getElem? (i := 3) rfl))) (mvT hZ0 (hw _ (List.mem_of_getElem? (i := 7) rfl))) (by decide) (backOf (W := 0) (build2 l Z a0 hw [] zCS z0 z1 z2 z3 h0 n0 O0 S_CS hCS hcH hcW   y1_0 y2_0) hZ0 (hw _ (List.mem_of_getElem? (i := 7) rfl)) (hw _ (List.mem_of_getElem? (i := 3) rfl)) (by decide) (by decide)) (g := (mkF m 43 #[.val (.int le), .val (.int y0), .val (.int y1), .val (.int y2), .val (.int y3), .val (.int (2 : Int32)), .val (.int z0), .val (.int z1), .val (.int z2), .val (.int z3), .unset, .unset, .unset, .unset] [(.int z3), (.int z2), (.int z1), (.int z0), (.int (2 : Int32))])) rfl (by rw [hml]; rfl) (argsL := [(.int (2 : Int32)), (.int z0), (.int z1), (.int z2), (.int z3)]) (rest := []) (lenOf pd_11 rfl) rfl (by show 2 * 0 + _ ≤ _; exact Nat.le_of_eq rfl) (hb hby at_43) (fun _ _ => ⟨rfl, e4, (by decide : 0 + 3 ≤ _), (by decide : 0 + 8 ≤ _)⟩)
    dsimp only [Pt.U, Pt.locs, Pt.cells, Pt.slots] at X18 cl_18 cy_18 cz_18 st18 hQ18
    rw [cl_18, cy_18, cz_18] at X18
    obtain ⟨b18, tt18, kb18, rfl, N18q, K18q, fr18_b, y18_0, y18_1, y18_2, y18_3⟩ := hQ18
    have N18 := Fr.app N4 N18q
    have g_b18 : n0 ≤ b18 := Nat.le_trans Z0 fr18_b
    have sz_b18 : h0.size ≤ b18 := Nat.le_trans K0.1 fr18_b
    have nl_b18 : NN ≤ b18 := Nat.le_trans hL0.1 fr18_b
    have Z18 : n0 ≤ T18.heap.size := Nat.le_trans Z0 K18q.1
    have K18 : Keep h0 T18.heap [] := K0.trans K18q all0
    have O18 : Old Z n0 T18.heap := O0.keep K18q all0
    have hL18 := hL0.keep K18q all0
    have hk18 := Nat.le_trans hk0 K18q.1
    have ne_b18_tt18 : b18 ≠ tt18 := y18_0.neArv y18_3 (hw _ (List.mem_of_getElem? (i := 9) rfl))
    have R19 : ∀ t, Steps p.tables e below (T18.setTop (mkF m 58 #[.val (.int le), .val (.int y0), .val (.int y1), .val (.int y2), .val (.int y3), .val (.int (2 : Int32)), .val (.int z0), .val (.int z1), .val (.int z2), .val (.int z3), .val (.ref b18), .unset, .unset, .unset] [(.int z3), (.int z2), (.int z1), (.int z0), (.int (2 : Int32))])) t → Steps p.tables e below (s₁.setTop (entryFrame m #[(.int le), (.int y0), (.int y1), (.int y2), (.int y3)] maxLocals)) t := by
      intro t k
      refine R17 t ?_
      show Steps p.tables e below (T4.setTop (mkF m 43 #[.val (.int le), .val (.int y0), .val (.int y1), .val (.int y2), .val (.int y3), .val (.int (2 : Int32)), .val (.int z0), .val (.int z1), .val (.int z2), .val (.int z3), .unset, .unset, .unset, .unset] [(.int z3), (.int z2), (.int z1), (.int z0), (.int (2 : Int32))])) t
      refine st18 _ ?_
      show Steps p.tables e below (T18.setTop (mkF m 46 #[.val (.int le), .val (.int y0), .val (.int y1), .val (.int y2), .val (.int y3), .val (.int (2 : Int32)), .val (.int z0), .val (.int z1), .val (.int z2), .val (.int z3), .unset, .unset, .unset, .unset] [(.ref b18)])) t
      refine XS.astore X18.here hx rfl (hb hby at_46) rfl rfl (l' := #[.val (.int le), .val (.int y0), .val (.int y1), .val (.int y2), .val (.int y3), .val (.int (2 : Int32)), .val (.int z0), .val (.int z1), .val (.int z2), .val (.int z3), .val (.ref b18), .unset, .unset, .unset]) rfl ?_
      show Steps p.tables e below (T18.setTop (mkF m 48 #[.val (.int le), .val (.int y0), .val (.int y1), .val (.int y2), .val (.int y3), .val (.int (2 : Int32)), .val (.int z0), .val (.int z1), .val (.int z2), .val (.int z3), .val (.ref b18), .unset, .unset, .unset] [])) t
      refine XS.iload X18.here hx rfl (hb hby at_48) rfl ?_
      show Steps p.tables e below (T18.setTop (mkF m 50 #[.val (.int le), .val (.int y0), .val (.int y1), .val (.int y2), .val (.int y3), .val (.int (2 : Int32)), .val (.int z0), .val (.int z1), .val (.int z2), .val (.int z3), .val (.ref b18), .unset, .unset, .unset] [(.int (2 : Int32))])) t
      refine XS.iload X18.here hx rfl (hb hby at_50) rfl ?_
      show Steps p.tables e below (T18.setTop (mkF m 52 #[.val (.int le), .val (.int y0), .val (.int y1), .val (.int y2), .val (.int y3), .val (.int (2 : Int32)), .val (.int z0), .val (.int z1), .val (.int z2), .val (.int z3), .val (.ref b18), .unset, .unset, .unset] [(.int z0), (.int (2 : Int32))])) t
      refine XS.iload X18.here hx rfl (hb hby at_52) rfl ?_
      show Steps p.tables e below (T18.setTop (mkF m 54 #[.val (.int le), .val (.int y0), .val (.int y1), .val (.int y2), .val (.int y3), .val (.int (2 : Int32)), .val (.int z0), .val (.int z1), .val (.int z2), .val (.int z3), .val (.ref b18), .unset, .unset, .unset] [(.int z1), (.int z0), (.int (2 : Int32))])) t
      refine XS.iload X18.here hx rfl (hb hby at_54) rfl ?_
      show Steps p.tables e below (T18.setTop (mkF m 56 #[.val (.int le), .val (.int y0), .val (.int y1), .val (.int y2), .val (.int y3), .val (.int (2 : Int32)), .val (.int z0), .val (.int z1), .val (.int z2), .val (.int z3), .val (.ref b18), .unset, .unset, .unset] [(.int z2), (.int z1), (.int z0), (.int (2 : Int32))])) t
      refine XS.iload X18.here hx rfl (hb hby at_56) rfl ?_
      exact k
    by_cases hz1 : z1 = (46 : Int32)
    · obtain ⟨_, _, ⟨T20, L20, k20, n20⟩, -, X20, ⟨Lc20, hQ20, cl_20, cy_20, cz_20⟩, st20⟩ := Jvm.LawKit.callS X18 hx (y := (⟨"com/example/wiring_from_blueprints/wiringfromblueprints/internal/StaticFieldCheckedPinLaw", "lastDot", "(ICCCC)I"⟩ : MethodName)) hown0 (mvT hZ0 (hw _ (List.mem_of_getElem? (i := 30) rfl))) (mvT hZ0 (hw _ (List.mem_of_getElem? (i := 31) rfl))) (mvT hZ0 (hw _ (List.mem_of_getElem? (i := 3) rfl))) (mvT hZ0 (hw _ (List.mem_of_getElem? (i := 32) rfl))) (by decide) (backOf (W := 0) (ld2_1 l Z a0 hw [] zCS z0 z1 z2 z3 T18.heap n0 O18 S_CS hCS hcH hcW   hz1) hZ0 (hw _ (List.mem_of_getElem? (i := 32) rfl)) (hw _ (List.mem_of_getElem? (i := 3) rfl)) (by decide) (by decide)) (g := (mkF m 58 #[.val (.int le), .val (.int y0), .val (.int y1), .val (.int y2), .val (.int y3), .val (.int (2 : Int32)), .val (.int z0), .val (.int z1), .val (.int z2), .val (.int z3), .val (.ref b18), .unset, .unset, .unset] [(.int z3), (.int z2), (.int z1), (.int z0), (.int (2 : Int32))])) rfl (by rw [hml]; rfl) (argsL := [(.int (2 : Int32)), (.int z0), (.int z1), (.int z2), (.int z3)]) (rest := []) (lenOf pd_12 rfl) rfl (by show 2 * 0 + _ ≤ _; exact Nat.le_of_eq rfl) (hb hby at_58) (fun _ _ => ⟨rfl, rfl, (by decide : 3 + 0 ≤ _), (by decide : 8 + 0 ≤ _)⟩)
      dsimp only [Pt.U, Pt.locs, Pt.cells, Pt.slots] at X20 cl_20 cy_20 cz_20 st20 hQ20
      rw [cl_20, cy_20, cz_20] at X20
      obtain ⟨rfl, N20q, e20⟩ := hQ20
      have N20 := Fr.app N18 N20q
      have R21 : ∀ t, Steps p.tables e below (T20.setTop (mkF m 91 #[.val (.int le), .val (.int y0), .val (.int y1), .val (.int y2), .val (.int y3), .val (.int (2 : Int32)), .val (.int z0), .val (.int z1), .val (.int z2), .val (.int z3), .val (.ref b18), .val (.int (1 : Int32)), .val (.int (0 : Int32)), .unset] [(.int (1 : Int32))])) t → Steps p.tables e below (s₁.setTop (entryFrame m #[(.int le), (.int y0), (.int y1), (.int y2), (.int y3)] maxLocals)) t := by
        intro t k
        refine R19 t ?_
        show Steps p.tables e below (T18.setTop (mkF m 58 #[.val (.int le), .val (.int y0), .val (.int y1), .val (.int y2), .val (.int y3), .val (.int (2 : Int32)), .val (.int z0), .val (.int z1), .val (.int z2), .val (.int z3), .val (.ref b18), .unset, .unset, .unset] [(.int z3), (.int z2), (.int z1), (.int z0), (.int (2 : Int32))])) t
        refine st20 _ ?_
        show Steps p.tables e below (T20.setTop (mkF m 61 #[.val (.int le), .val (.int y0), .val (.int y1), .val (.int y2), .val (.int y3), .val (.int (2 : Int32)), .val (.int z0), .val (.int z1), .val (.int z2), .val (.int z3), .val (.ref b18), .unset, .unset, .unset] [(.int (1 : Int32))])) t
        refine XS.istore X20.here hx rfl (hb hby at_61) rfl (l' := #[.val (.int le), .val (.int y0), .val (.int y1), .val (.int y2), .val (.int y3), .val (.int (2 : Int32)), .val (.int z0), .val (.int z1), .val (.int z2), .val (.int z3), .val (.ref b18), .val (.int (1 : Int32)), .unset, .unset]) rfl ?_
        show Steps p.tables e below (T20.setTop (mkF m 63 #[.val (.int le), .val (.int y0), .val (.int y1), .val (.int y2), .val (.int y3), .val (.int (2 : Int32)), .val (.int z0), .val (.int z1), .val (.int z2), .val (.int z3), .val (.ref b18), .val (.int (1 : Int32)), .unset, .unset] [])) t
        refine XS.iload X20.here hx rfl (hb hby at_63) rfl ?_
        show Steps p.tables e below (T20.setTop (mkF m 65 #[.val (.int le), .val (.int y0), .val (.int y1), .val (.int y2), .val (.int y3), .val (.int (2 : Int32)), .val (.int z0), .val (.int z1), .val (.int z2), .val (.int z3), .val (.ref b18), .val (.int (1 : Int32)), .unset, .unset] [(.int (1 : Int32))])) t
        refine XS.iconst X20.here hx rfl (hb hby at_65) ?_
        show Steps p.tables e below (T20.setTop (mkF m 66 #[.val (.int le), .val (.int y0), .val (.int y1), .val (.int y2), .val (.int y3), .val (.int (2 : Int32)), .val (.int z0), .val (.int z1), .val (.int z2), .val (.int z3), .val (.ref b18), .val (.int (1 : Int32)), .unset, .unset] [(.int (1 : Int32)), (.int (1 : Int32))])) t
        refine XS.icmpNo X20.here hx rfl (hb hby at_66) rfl (flt ((by decide) : ¬ ((1 : Int32) < (1 : Int32)))).1 ?_
        show Steps p.tables e below (T20.setTop (mkF m 69 #[.val (.int le), .val (.int y0), .val (.int y1), .val (.int y2), .val (.int y3), .val (.int (2 : Int32)), .val (.int z0), .val (.int z1), .val (.int z2), .val (.int z3), .val (.ref b18), .val (.int (1 : Int32)), .unset, .unset] [])) t
        refine XS.iload X20.here hx rfl (hb hby at_69) rfl ?_
        show Steps p.tables e below (T20.setTop (mkF m 71 #[.val (.int le), .val (.int y0), .val (.int y1), .val (.int y2), .val (.int y3), .val (.int (2 : Int32)), .val (.int z0), .val (.int z1), .val (.int z2), .val (.int z3), .val (.ref b18), .val (.int (1 : Int32)), .unset, .unset] [(.int (1 : Int32))])) t
        refine XS.iload X20.here hx rfl (hb hby at_71) rfl ?_
        show Steps p.tables e below (T20.setTop (mkF m 73 #[.val (.int le), .val (.int y0), .val (.int y1), .val (.int y2), .val (.int y3), .val (.int (2 : Int32)), .val (.int z0), .val (.int z1), .val (.int z2), .val (.int z3), .val (.ref b18), .val (.int (1 : Int32)), .unset, .unset] [(.int (2 : Int32)), (.int (1 : Int32))])) t
        refine XS.iconst X20.here hx rfl (hb hby at_73) ?_
        show Steps p.tables e below (T20.setTop (mkF m 74 #[.val (.int le), .val (.int y0), .val (.int y1), .val (.int y2), .val (.int y3), .val (.int (2 : Int32)), .val (.int z0), .val (.int z1), .val (.int z2), .val (.int z3), .val (.ref b18), .val (.int (1 : Int32)), .unset, .unset] [(.int (1 : Int32)), (.int (2 : Int32)), (.int (1 : Int32))])) t
        refine XS.isub X20.here hx rfl (hb hby at_74) rfl ?_
        show Steps p.tables e below (T20.setTop (mkF m 75 #[.val (.int le), .val (.int y0), .val (.int y1), .val (.int y2), .val (.int y3), .val (.int (2 : Int32)), .val (.int z0), .val (.int z1), .val (.int z2), .val (.int z3), .val (.ref b18), .val (.int (1 : Int32)), .unset, .unset] [(.int ((2 : Int32) - (1 : Int32))), (.int (1 : Int32))])) t
        rw [show ((2 : Int32) - (1 : Int32)) = (1 : Int32) from by decide]
        show Steps p.tables e below (T20.setTop (mkF m 75 #[.val (.int le), .val (.int y0), .val (.int y1), .val (.int y2), .val (.int y3), .val (.int (2 : Int32)), .val (.int z0), .val (.int z1), .val (.int z2), .val (.int z3), .val (.ref b18), .val (.int (1 : Int32)), .unset, .unset] [(.int (1 : Int32)), (.int (1 : Int32))])) t
        refine XS.icmpYes X20.here hx rfl (pc0 := 75) (pc' := 82) rfl (hb hby at_75) rfl (teq ((by decide) : (1 : Int32) = (1 : Int32))).1 (by decide) (by decide) ?_
        show Steps p.tables e below (T20.setTop (mkF m 82 #[.val (.int le), .val (.int y0), .val (.int y1), .val (.int y2), .val (.int y3), .val (.int (2 : Int32)), .val (.int z0), .val (.int z1), .val (.int z2), .val (.int z3), .val (.ref b18), .val (.int (1 : Int32)), .unset, .unset] [])) t
        refine XS.iconst X20.here hx rfl (hb hby at_82) ?_
        show Steps p.tables e below (T20.setTop (mkF m 83 #[.val (.int le), .val (.int y0), .val (.int y1), .val (.int y2), .val (.int y3), .val (.int (2 : Int32)), .val (.int z0), .val (.int z1), .val (.int z2), .val (.int z3), .val (.ref b18), .val (.int (1 : Int32)), .unset, .unset] [(.int (0 : Int32))])) t
        refine XS.istore X20.here hx rfl (hb hby at_83) rfl (l' := #[.val (.int le), .val (.int y0), .val (.int y1), .val (.int y2), .val (.int y3), .val (.int (2 : Int32)), .val (.int z0), .val (.int z1), .val (.int z2), .val (.int z3), .val (.ref b18), .val (.int (1 : Int32)), .val (.int (0 : Int32)), .unset]) rfl ?_
        show Steps p.tables e below (T20.setTop (mkF m 85 #[.val (.int le), .val (.int y0), .val (.int y1), .val (.int y2), .val (.int y3), .val (.int (2 : Int32)), .val (.int z0), .val (.int z1), .val (.int z2), .val (.int z3), .val (.ref b18), .val (.int (1 : Int32)), .val (.int (0 : Int32)), .unset] [])) t
        refine XS.iload X20.here hx rfl (hb hby at_85) rfl ?_
        show Steps p.tables e below (T20.setTop (mkF m 87 #[.val (.int le), .val (.int y0), .val (.int y1), .val (.int y2), .val (.int y3), .val (.int (2 : Int32)), .val (.int z0), .val (.int z1), .val (.int z2), .val (.int z3), .val (.ref b18), .val (.int (1 : Int32)), .val (.int (0 : Int32)), .unset] [(.int (0 : Int32))])) t
        refine XS.ifNo X20.here hx rfl (hb hby at_87) rfl ((if0 _ _).trans (teq ((by decide) : (0 : Int32) = (0 : Int32))).2) ?_
        show Steps p.tables e below (T20.setTop (mkF m 90 #[.val (.int le), .val (.int y0), .val (.int y1), .val (.int y2), .val (.int y3), .val (.int (2 : Int32)), .val (.int z0), .val (.int z1), .val (.int z2), .val (.int z3), .val (.ref b18), .val (.int (1 : Int32)), .val (.int (0 : Int32)), .unset] [])) t
        refine XS.iconst X20.here hx rfl (hb hby at_90) ?_
        exact k
      obtain ⟨fs, hr, hrun, hended, hRW⟩ := X20.leaveW hS0 (by rw [e20]; exact hk18) (v := some (.int (1 : Int32))) (fun h => by rw [Bd.returns] at h; cases h)
      refine ⟨_, _, R21 _ ?_, hrun, hended, _, _, rfl, ?_, hRW.1, hRW.2.1, hRW.2.2.1, hRW.2.2.2.mono (by decide) (by decide)⟩
      · show Steps p.tables e below (T20.setTop (mkF m 91 #[.val (.int le), .val (.int y0), .val (.int y1), .val (.int y2), .val (.int y3), .val (.int (2 : Int32)), .val (.int z0), .val (.int z1), .val (.int z2), .val (.int z3), .val (.ref b18), .val (.int (1 : Int32)), .val (.int (0 : Int32)), .unset] [(.int (1 : Int32))])) _
        exact retN X20 hx (t := .boolean) Bd.returns (by simp) (hb hby at_91) hr
      · show Q_rm0 Z zCS le y0 y1 y2 y3 h0 n0 _ T20.heap _
        rw [e20]
        exact ⟨rfl, N20⟩
    · by_cases hz0 : z0 = (46 : Int32)
      · obtain ⟨_, _, ⟨T22, L22, k22, n22⟩, -, X22, ⟨Lc22, hQ22, cl_22, cy_22, cz_22⟩, st22⟩ := Jvm.LawKit.callS X18 hx (y := (⟨"com/example/wiring_from_blueprints/wiringfromblueprints/internal/StaticFieldCheckedPinLaw", "lastDot", "(ICCCC)I"⟩ : MethodName)) hown0 (mvT hZ0 (hw _ (List.mem_of_getElem? (i := 30) rfl))) (mvT hZ0 (hw _ (List.mem_of_getElem? (i := 31) rfl))) (mvT hZ0 (hw _ (List.mem_of_getElem? (i := 3) rfl))) (mvT hZ0 (hw _ (List.mem_of_getElem? (i := 32) rfl))) (by decide) (backOf (W := 0) (ld2_0 l Z a0 hw [] zCS z0 z1 z2 z3 T18.heap n0 O18 S_CS hCS hcH hcW   hz1 hz0) hZ0 (hw _ (List.mem_of_getElem? (i := 32) rfl)) (hw _ (List.mem_of_getElem? (i := 3) rfl)) (by decide) (by decide)) (g := (mkF m 58 #[.val (.int le), .val (.int y0), .val (.int y1), .val (.int y2), .val (.int y3), .val (.int (2 : Int32)), .val (.int z0), .val (.int z1), .val (.int z2), .val (.int z3), .val (.ref b18), .unset, .unset, .unset] [(.int z3), (.int z2), (.int z1), (.int z0), (.int (2 : Int32))])) rfl (by rw [hml]; rfl) (argsL := [(.int (2 : Int32)), (.int z0), (.int z1), (.int z2), (.int z3)]) (rest := []) (lenOf pd_12 rfl) rfl (by show 2 * 0 + _ ≤ _; exact Nat.le_of_eq rfl) (hb hby at_58) (fun _ _ => ⟨rfl, rfl, (by decide : 3 + 0 ≤ _), (by decide : 8 + 0 ≤ _)⟩)
        dsimp only [Pt.U, Pt.locs, Pt.cells, Pt.slots] at X22 cl_22 cy_22 cz_22 st22 hQ22
        rw [cl_22, cy_22, cz_22] at X22
        obtain ⟨rfl, N22q, e22⟩ := hQ22
        have N22 := Fr.app N18 N22q
        have R23 : ∀ t, Steps p.tables e below (T22.setTop (mkF m 91 #[.val (.int le), .val (.int y0), .val (.int y1), .val (.int y2), .val (.int y3), .val (.int (2 : Int32)), .val (.int z0), .val (.int z1), .val (.int z2), .val (.int z3), .val (.ref b18), .val (.int (0 : Int32)), .val (.int (0 : Int32)), .unset] [(.int (1 : Int32))])) t → Steps p.tables e below (s₁.setTop (entryFrame m #[(.int le), (.int y0), (.int y1), (.int y2), (.int y3)] maxLocals)) t := by
          intro t k
          refine R19 t ?_
          show Steps p.tables e below (T18.setTop (mkF m 58 #[.val (.int le), .val (.int y0), .val (.int y1), .val (.int y2), .val (.int y3), .val (.int (2 : Int32)), .val (.int z0), .val (.int z1), .val (.int z2), .val (.int z3), .val (.ref b18), .unset, .unset, .unset] [(.int z3), (.int z2), (.int z1), (.int z0), (.int (2 : Int32))])) t
          refine st22 _ ?_
          show Steps p.tables e below (T22.setTop (mkF m 61 #[.val (.int le), .val (.int y0), .val (.int y1), .val (.int y2), .val (.int y3), .val (.int (2 : Int32)), .val (.int z0), .val (.int z1), .val (.int z2), .val (.int z3), .val (.ref b18), .unset, .unset, .unset] [(.int (0 : Int32))])) t
          refine XS.istore X22.here hx rfl (hb hby at_61) rfl (l' := #[.val (.int le), .val (.int y0), .val (.int y1), .val (.int y2), .val (.int y3), .val (.int (2 : Int32)), .val (.int z0), .val (.int z1), .val (.int z2), .val (.int z3), .val (.ref b18), .val (.int (0 : Int32)), .unset, .unset]) rfl ?_
          show Steps p.tables e below (T22.setTop (mkF m 63 #[.val (.int le), .val (.int y0), .val (.int y1), .val (.int y2), .val (.int y3), .val (.int (2 : Int32)), .val (.int z0), .val (.int z1), .val (.int z2), .val (.int z3), .val (.ref b18), .val (.int (0 : Int32)), .unset, .unset] [])) t
          refine XS.iload X22.here hx rfl (hb hby at_63) rfl ?_
          show Steps p.tables e below (T22.setTop (mkF m 65 #[.val (.int le), .val (.int y0), .val (.int y1), .val (.int y2), .val (.int y3), .val (.int (2 : Int32)), .val (.int z0), .val (.int z1), .val (.int z2), .val (.int z3), .val (.ref b18), .val (.int (0 : Int32)), .unset, .unset] [(.int (0 : Int32))])) t
          refine XS.iconst X22.here hx rfl (hb hby at_65) ?_
          show Steps p.tables e below (T22.setTop (mkF m 66 #[.val (.int le), .val (.int y0), .val (.int y1), .val (.int y2), .val (.int y3), .val (.int (2 : Int32)), .val (.int z0), .val (.int z1), .val (.int z2), .val (.int z3), .val (.ref b18), .val (.int (0 : Int32)), .unset, .unset] [(.int (1 : Int32)), (.int (0 : Int32))])) t
          refine XS.icmpYes X22.here hx rfl (pc0 := 66) (pc' := 82) rfl (hb hby at_66) rfl (tlt ((by decide) : (0 : Int32) < (1 : Int32))).1 (by decide) (by decide) ?_
          show Steps p.tables e below (T22.setTop (mkF m 82 #[.val (.int le), .val (.int y0), .val (.int y1), .val (.int y2), .val (.int y3), .val (.int (2 : Int32)), .val (.int z0), .val (.int z1), .val (.int z2), .val (.int z3), .val (.ref b18), .val (.int (0 : Int32)), .unset, .unset] [])) t
          refine XS.iconst X22.here hx rfl (hb hby at_82) ?_
          show Steps p.tables e below (T22.setTop (mkF m 83 #[.val (.int le), .val (.int y0), .val (.int y1), .val (.int y2), .val (.int y3), .val (.int (2 : Int32)), .val (.int z0), .val (.int z1), .val (.int z2), .val (.int z3), .val (.ref b18), .val (.int (0 : Int32)), .unset, .unset] [(.int (0 : Int32))])) t
          refine XS.istore X22.here hx rfl (hb hby at_83) rfl (l' := #[.val (.int le), .val (.int y0), .val (.int y1), .val (.int y2), .val (.int y3), .val (.int (2 : Int32)), .val (.int z0), .val (.int z1), .val (.int z2), .val (.int z3), .val (.ref b18), .val (.int (0 : Int32)), .val (.int (0 : Int32)), .unset]) rfl ?_
          show Steps p.tables e below (T22.setTop (mkF m 85 #[.val (.int le), .val (.int y0), .val (.int y1), .val (.int y2), .val (.int y3), .val (.int (2 : Int32)), .val (.int z0), .val (.int z1), .val (.int z2), .val (.int z3), .val (.ref b18), .val (.int (0 : Int32)), .val (.int (0 : Int32)), .unset] [])) t
          refine XS.iload X22.here hx rfl (hb hby at_85) rfl ?_
          show Steps p.tables e below (T22.setTop (mkF m 87 #[.val (.int le), .val (.int y0), .val (.int y1), .val (.int y2), .val (.int y3), .val (.int (2 : Int32)), .val (.int z0), .val (.int z1), .val (.int z2), .val (.int z3), .val (.ref b18), .val (.int (0 : Int32)), .val (.int (0 : Int32)), .unset] [(.int (0 : Int32))])) t
          refine XS.ifNo X22.here hx rfl (hb hby at_87) rfl ((if0 _ _).trans (teq ((by decide) : (0 : Int32) = (0 : Int32))).2) ?_
          show Steps p.tables e below (T22.setTop (mkF m 90 #[.val (.int le), .val (.int y0), .val (.int y1), .val (.int y2), .val (.int y3), .val (.int (2 : Int32)), .val (.int z0), .val (.int z1), .val (.int z2), .val (.int z3), .val (.ref b18), .val (.int (0 : Int32)), .val (.int (0 : Int32)), .unset] [])) t
          refine XS.iconst X22.here hx rfl (hb hby at_90) ?_
          exact k
        obtain ⟨fs, hr, hrun, hended, hRW⟩ := X22.leaveW hS0 (by rw [e22]; exact hk18) (v := some (.int (1 : Int32))) (fun h => by rw [Bd.returns] at h; cases h)
        refine ⟨_, _, R23 _ ?_, hrun, hended, _, _, rfl, ?_, hRW.1, hRW.2.1, hRW.2.2.1, hRW.2.2.2.mono (by decide) (by decide)⟩
        · show Steps p.tables e below (T22.setTop (mkF m 91 #[.val (.int le), .val (.int y0), .val (.int y1), .val (.int y2), .val (.int y3), .val (.int (2 : Int32)), .val (.int z0), .val (.int z1), .val (.int z2), .val (.int z3), .val (.ref b18), .val (.int (0 : Int32)), .val (.int (0 : Int32)), .unset] [(.int (1 : Int32))])) _
          exact retN X22 hx (t := .boolean) Bd.returns (by simp) (hb hby at_91) hr
        · show Q_rm0 Z zCS le y0 y1 y2 y3 h0 n0 _ T22.heap _
          rw [e22]
          exact ⟨rfl, N22⟩
      · obtain ⟨_, _, ⟨T24, L24, k24, n24⟩, -, X24, ⟨Lc24, hQ24, cl_24, cy_24, cz_24⟩, st24⟩ := Jvm.LawKit.callS X18 hx (y := (⟨"com/example/wiring_from_blueprints/wiringfromblueprints/internal/StaticFieldCheckedPinLaw", "lastDot", "(ICCCC)I"⟩ : MethodName)) hown0 (mvT hZ0 (hw _ (List.mem_of_getElem? (i := 30) rfl))) (mvT hZ0 (hw _ (List.mem_of_getElem? (i := 31) rfl))) (mvT hZ0 (hw _ (List.mem_of_getElem? (i := 3) rfl))) (mvT hZ0 (hw _ (List.mem_of_getElem? (i := 32) rfl))) (by decide) (backOf (W := 0) (ld2_m l Z a0 hw [] zCS z0 z1 z2 z3 T18.heap n0 O18 S_CS hCS hcH hcW   hz1 hz0) hZ0 (hw _ (List.mem_of_getElem? (i := 32) rfl)) (hw _ (List.mem_of_getElem? (i := 3) rfl)) (by decide) (by decide)) (g := (mkF m 58 #[.val (.int le), .val (.int y0), .val (.int y1), .val (.int y2), .val (.int y3), .val (.int (2 : Int32)), .val (.int z0), .val (.int z1), .val (.int z2), .val (.int z3), .val (.ref b18), .unset, .unset, .unset] [(.int z3), (.int z2), (.int z1), (.int z0), (.int (2 : Int32))])) rfl (by rw [hml]; rfl) (argsL := [(.int (2 : Int32)), (.int z0), (.int z1), (.int z2), (.int z3)]) (rest := []) (lenOf pd_12 rfl) rfl (by show 2 * 0 + _ ≤ _; exact Nat.le_of_eq rfl) (hb hby at_58) (fun _ _ => ⟨rfl, rfl, (by decide : 3 + 0 ≤ _), (by decide : 8 + 0 ≤ _)⟩)
        dsimp only [Pt.U, Pt.locs, Pt.cells, Pt.slots] at X24 cl_24 cy_24 cz_24 st24 hQ24
        rw [cl_24, cy_24, cz_24] at X24
        obtain ⟨rfl, N24q, e24⟩ := hQ24
        have N24 := Fr.app N18 N24q
        have R25 : ∀ t, Steps p.tables e below (T24.setTop (mkF m 91 #[.val (.int le), .val (.int y0), .val (.int y1), .val (.int y2), .val (.int y3), .val (.int (2 : Int32)), .val (.int z0), .val (.int z1), .val (.int z2), .val (.int z3), .val (.ref b18), .val (.int (-1 : Int32)), .val (.int (0 : Int32)), .unset] [(.int (1 : Int32))])) t → Steps p.tables e below (s₁.setTop (entryFrame m #[(.int le), (.int y0), (.int y1), (.int y2), (.int y3)] maxLocals)) t := by
          intro t k
          refine R19 t ?_
          show Steps p.tables e below (T18.setTop (mkF m 58 #[.val (.int le), .val (.int y0), .val (.int y1), .val (.int y2), .val (.int y3), .val (.int (2 : Int32)), .val (.int z0), .val (.int z1), .val (.int z2), .val (.int z3), .val (.ref b18), .unset, .unset, .unset] [(.int z3), (.int z2), (.int z1), (.int z0), (.int (2 : Int32))])) t
          refine st24 _ ?_
          show Steps p.tables e below (T24.setTop (mkF m 61 #[.val (.int le), .val (.int y0), .val (.int y1), .val (.int y2), .val (.int y3), .val (.int (2 : Int32)), .val (.int z0), .val (.int z1), .val (.int z2), .val (.int z3), .val (.ref b18), .unset, .unset, .unset] [(.int (-1 : Int32))])) t
          refine XS.istore X24.here hx rfl (hb hby at_61) rfl (l' := #[.val (.int le), .val (.int y0), .val (.int y1), .val (.int y2), .val (.int y3), .val (.int (2 : Int32)), .val (.int z0), .val (.int z1), .val (.int z2), .val (.int z3), .val (.ref b18), .val (.int (-1 : Int32)), .unset, .unset]) rfl ?_
          show Steps p.tables e below (T24.setTop (mkF m 63 #[.val (.int le), .val (.int y0), .val (.int y1), .val (.int y2), .val (.int y3), .val (.int (2 : Int32)), .val (.int z0), .val (.int z1), .val (.int z2), .val (.int z3), .val (.ref b18), .val (.int (-1 : Int32)), .unset, .unset] [])) t
          refine XS.iload X24.here hx rfl (hb hby at_63) rfl ?_
          show Steps p.tables e below (T24.setTop (mkF m 65 #[.val (.int le), .val (.int y0), .val (.int y1), .val (.int y2), .val (.int y3), .val (.int (2 : Int32)), .val (.int z0), .val (.int z1), .val (.int z2), .val (.int z3), .val (.ref b18), .val (.int (-1 : Int32)), .unset, .unset] [(.int (-1 : Int32))])) t
          refine XS.iconst X24.here hx rfl (hb hby at_65) ?_
          show Steps p.tables e below (T24.setTop (mkF m 66 #[.val (.int le), .val (.int y0), .val (.int y1), .val (.int y2), .val (.int y3), .val (.int (2 : Int32)), .val (.int z0), .val (.int z1), .val (.int z2), .val (.int z3), .val (.ref b18), .val (.int (-1 : Int32)), .unset, .unset] [(.int (1 : Int32)), (.int (-1 : Int32))])) t
          refine XS.icmpYes X24.here hx rfl (pc0 := 66) (pc' := 82) rfl (hb hby at_66) rfl (tlt ((by decide) : (-1 : Int32) < (1 : Int32))).1 (by decide) (by decide) ?_
          show Steps p.tables e below (T24.setTop (mkF m 82 #[.val (.int le), .val (.int y0), .val (.int y1), .val (.int y2), .val (.int y3), .val (.int (2 : Int32)), .val (.int z0), .val (.int z1), .val (.int z2), .val (.int z3), .val (.ref b18), .val (.int (-1 : Int32)), .unset, .unset] [])) t
          refine XS.iconst X24.here hx rfl (hb hby at_82) ?_
          show Steps p.tables e below (T24.setTop (mkF m 83 #[.val (.int le), .val (.int y0), .val (.int y1), .val (.int y2), .val (.int y3), .val (.int (2 : Int32)), .val (.int z0), .val (.int z1), .val (.int z2), .val (.int z3), .val (.ref b18), .val (.int (-1 : Int32)), .unset, .unset] [(.int (0 : Int32))])) t
          refine XS.istore X24.here hx rfl (hb hby at_83) rfl (l' := #[.val (.int le), .val (.int y0), .val (.int y1), .val (.int y2), .val (.int y3), .val (.int (2 : Int32)), .val (.int z0), .val (.int z1), .val (.int z2), .val (.int z3), .val (.ref b18), .val (.int (-1 : Int32)), .val (.int (0 : Int32)), .unset]) rfl ?_
          show Steps p.tables e below (T24.setTop (mkF m 85 #[.val (.int le), .val (.int y0), .val (.int y1), .val (.int y2), .val (.int y3), .val (.int (2 : Int32)), .val (.int z0), .val (.int z1), .val (.int z2), .val (.int z3), .val (.ref b18), .val (.int (-1 : Int32)), .val (.int (0 : Int32)), .unset] [])) t
          refine XS.iload X24.here hx rfl (hb hby at_85) rfl ?_
          show Steps p.tables e below (T24.setTop (mkF m 87 #[.val (.int le), .val (.int y0), .val (.int y1), .val (.int y2), .val (.int y3), .val (.int (2 : Int32)), .val (.int z0), .val (.int z1), .val (.int z2), .val (.int z3), .val (.ref b18), .val (.int (-1 : Int32)), .val (.int (0 : Int32)), .unset] [(.int (0 : Int32))])) t
          refine XS.ifNo X24.here hx rfl (hb hby at_87) rfl ((if0 _ _).trans (teq ((by decide) : (0 : Int32) = (0 : Int32))).2) ?_
          show Steps p.tables e below (T24.setTop (mkF m 90 #[.val (.int le), .val (.int y0), .val (.int y1), .val (.int y2), .val (.int y3), .val (.int (2 : Int32)), .val (.int z0), .val (.int z1), .val (.int z2), .val (.int z3), .val (.ref b18), .val (.int (-1 : Int32)), .val (.int (0 : Int32)), .unset] [])) t
          refine XS.iconst X24.here hx rfl (hb hby at_90) ?_
          exact k
        obtain ⟨fs, hr, hrun, hended, hRW⟩ := X24.leaveW hS0 (by rw [e24]; exact hk18) (v := some (.int (1 : Int32))) (fun h => by rw [Bd.returns] at h; cases h)
        refine ⟨_, _, R25 _ ?_, hrun, hended, _, _, rfl, ?_, hRW.1, hRW.2.1, hRW.2.2.1, hRW.2.2.2.mono (by decide) (by decide)⟩
        · show Steps p.tables e below (T24.setTop (mkF m 91 #[.val (.int le), .val (.int y0), .val (.int y1), .val (.int y2), .val (.int y3), .val (.int (2 : Int32)), .val (.int z0), .val (.int z1), .val (.int z2), .val (.int z3), .val (.ref b18), .val (.int (-1 : Int32)), .val (.int (0 : Int32)), .unset] [(.int (1 : Int32))])) _
          exact retN X24 hx (t := .boolean) Bd.returns (by simp) (hb hby at_91) hr
        · show Q_rm0 Z zCS le y0 y1 y2 y3 h0 n0 _ T24.heap _
          rw [e24]
          exact ⟨rfl, N24⟩
  · have R26 := R5
    rw [hi] at R26
    obtain ⟨_, _, ⟨T27, L27, k27, n27⟩, -, X27, ⟨Lc27, hQ27, cl_27, cy_27, cz_27⟩, st27⟩ := Jvm.LawKit.callS X4 hx (y := (⟨"com/example/wiring_from_blueprints/wiringfromblueprints/internal/StaticFieldCheckedPinLaw", "build", "(ICCCC)Ljava/lang/String;"⟩ : MethodName)) hown0 (mvT hZ0 (hw _ (List.mem_of_getElem? (i := 5) rfl))) (mvT hZ0 (hw _ (List.mem_of_getElem? (i := 6) rfl))) (mvT hZ0 (hw _ (List.mem_of_getElem? (i := 3) rfl))) (mvT hZ0 (hw _ (List.mem_of_getElem? (i := 7) rfl))) (by decide) (backOf (W := 0) (build3 l Z a0 hw [] zCS z0 z1 z2 z3 h0 n0 O0 S_CS hCS hcH hcW   y1_0 y2_0 y3_0) hZ0 (hw _ (List.mem_of_getElem? (i := 7) rfl)) (hw _ (List.mem_of_getElem? (i := 3) rfl)) (by decide) (by decide)) (g := (mkF m 43 #[.val (.int le), .val (.int y0), .val (.int y1), .val (.int y2), .val (.int y3), .val (.int (3 : Int32)), .val (.int z0), .val (.int z1), .val (.int z2), .val (.int z3), .unset, .unset, .unset, .unset] [(.int z3), (.int z2), (.int z1), (.int z0), (.int (3 : Int32))])) rfl (by rw [hml]; rfl) (argsL := [(.int (3 : Int32)), (.int z0), (.int z1), (.int z2), (.int z3)]) (rest := []) (lenOf pd_11 rfl) rfl (by show 2 * 0 + _ ≤ _; exact Nat.le_of_eq rfl) (hb hby at_43) (fun _ _ => ⟨rfl, e4, (by decide : 0 + 3 ≤ _), (by decide : 0 + 10 ≤ _)⟩)
    dsimp only [Pt.U, Pt.locs, Pt.cells, Pt.slots] at X27 cl_27 cy_27 cz_27 st27 hQ27
    rw [cl_27, cy_27, cz_27] at X27
    obtain ⟨b27, tt27, kb27, rfl, N27q, K27q, fr27_b, y27_0, y27_1, y27_2, y27_3⟩ := hQ27
    have N27 := Fr.app N4 N27q
    have g_b27 : n0 ≤ b27 := Nat.le_trans Z0 fr27_b
    have sz_b27 : h0.size ≤ b27 := Nat.le_trans K0.1 fr27_b
    have nl_b27 : NN ≤ b27 := Nat.le_trans hL0.1 fr27_b
    have Z27 : n0 ≤ T27.heap.size := Nat.le_trans Z0 K27q.1
    have K27 : Keep h0 T27.heap [] := K0.trans K27q all0
    have O27 : Old Z n0 T27.heap := O0.keep K27q all0
    have hL27 := hL0.keep K27q all0
    have hk27 := Nat.le_trans hk0 K27q.1
    have ne_b27_tt27 : b27 ≠ tt27 := y27_0.neArv y27_3 (hw _ (List.mem_of_getElem? (i := 9) rfl))
    have R28 : ∀ t, Steps p.tables e below (T27.setTop (mkF m 58 #[.val (.int le), .val (.int y0), .val (.int y1), .val (.int y2), .val (.int y3), .val (.int (3 : Int32)), .val (.int z0), .val (.int z1), .val (.int z2), .val (.int z3), .val (.ref b27), .unset, .unset, .unset] [(.int z3), (.int z2), (.int z1), (.int z0), (.int (3 : Int32))])) t → Steps p.tables e below (s₁.setTop (entryFrame m #[(.int le), (.int y0), (.int y1), (.int y2), (.int y3)] maxLocals)) t := by
      intro t k
      refine R26 t ?_
      show Steps p.tables e below (T4.setTop (mkF m 43 #[.val (.int le), .val (.int y0), .val (.int y1), .val (.int y2), .val (.int y3), .val (.int (3 : Int32)), .val (.int z0), .val (.int z1), .val (.int z2), .val (.int z3), .unset, .unset, .unset, .unset] [(.int z3), (.int z2), (.int z1), (.int z0), (.int (3 : Int32))])) t
      refine st27 _ ?_
      show Steps p.tables e below (T27.setTop (mkF m 46 #[.val (.int le), .val (.int y0), .val (.int y1), .val (.int y2), .val (.int y3), .val (.int (3 : Int32)), .val (.int z0), .val (.int z1), .val (.int z2), .val (.int z3), .unset, .unset, .unset, .unset] [(.ref b27)])) t
      refine XS.astore X27.here hx rfl (hb hby at_46) rfl rfl (l' := #[.val (.int le), .val (.int y0), .val (.int y1), .val (.int y2), .val (.int y3), .val (.int (3 : Int32)), .val (.int z0), .val (.int z1), .val (.int z2), .val (.int z3), .val (.ref b27), .unset, .unset, .unset]) rfl ?_
      show Steps p.tables e below (T27.setTop (mkF m 48 #[.val (.int le), .val (.int y0), .val (.int y1), .val (.int y2), .val (.int y3), .val (.int (3 : Int32)), .val (.int z0), .val (.int z1), .val (.int z2), .val (.int z3), .val (.ref b27), .unset, .unset, .unset] [])) t
      refine XS.iload X27.here hx rfl (hb hby at_48) rfl ?_
      show Steps p.tables e below (T27.setTop (mkF m 50 #[.val (.int le), .val (.int y0), .val (.int y1), .val (.int y2), .val (.int y3), .val (.int (3 : Int32)), .val (.int z0), .val (.int z1), .val (.int z2), .val (.int z3), .val (.ref b27), .unset, .unset, .unset] [(.int (3 : Int32))])) t
      refine XS.iload X27.here hx rfl (hb hby at_50) rfl ?_
      show Steps p.tables e below (T27.setTop (mkF m 52 #[.val (.int le), .val (.int y0), .val (.int y1), .val (.int y2), .val (.int y3), .val (.int (3 : Int32)), .val (.int z0), .val (.int z1), .val (.int z2), .val (.int z3), .val (.ref b27), .unset, .unset, .unset] [(.int z0), (.int (3 : Int32))])) t
      refine XS.iload X27.here hx rfl (hb hby at_52) rfl ?_
      show Steps p.tables e below (T27.setTop (mkF m 54 #[.val (.int le), .val (.int y0), .val (.int y1), .val (.int y2), .val (.int y3), .val (.int (3 : Int32)), .val (.int z0), .val (.int z1), .val (.int z2), .val (.int z3), .val (.ref b27), .unset, .unset, .unset] [(.int z1), (.int z0), (.int (3 : Int32))])) t
      refine XS.iload X27.here hx rfl (hb hby at_54) rfl ?_
      show Steps p.tables e below (T27.setTop (mkF m 56 #[.val (.int le), .val (.int y0), .val (.int y1), .val (.int y2), .val (.int y3), .val (.int (3 : Int32)), .val (.int z0), .val (.int z1), .val (.int z2), .val (.int z3), .val (.ref b27), .unset, .unset, .unset] [(.int z2), (.int z1), (.int z0), (.int (3 : Int32))])) t
      refine XS.iload X27.here hx rfl (hb hby at_56) rfl ?_
      exact k
    by_cases hz2 : z2 = (46 : Int32)
    · obtain ⟨_, _, ⟨T29, L29, k29, n29⟩, -, X29, ⟨Lc29, hQ29, cl_29, cy_29, cz_29⟩, st29⟩ := Jvm.LawKit.callS X27 hx (y := (⟨"com/example/wiring_from_blueprints/wiringfromblueprints/internal/StaticFieldCheckedPinLaw", "lastDot", "(ICCCC)I"⟩ : MethodName)) hown0 (mvT hZ0 (hw _ (List.mem_of_getElem? (i := 30) rfl))) (mvT hZ0 (hw _ (List.mem_of_getElem? (i := 31) rfl))) (mvT hZ0 (hw _ (List.mem_of_getElem? (i := 3) rfl))) (mvT hZ0 (hw _ (List.mem_of_getElem? (i := 32) rfl))) (by decide) (backOf (W := 0) (ld3_2 l Z a0 hw [] zCS z0 z1 z2 z3 T27.heap n0 O27 S_CS hCS hcH hcW   hz2) hZ0 (hw _ (List.mem_of_getElem? (i := 32) rfl)) (hw _ (List.mem_of_getElem? (i := 3) rfl)) (by decide) (by decide)) (g := (mkF m 58 #[.val (.int le), .val (.int y0), .val (.int y1), .val (.int y2), .val (.int y3), .val (.int (3 : Int32)), .val (.int z0), .val (.int z1), .val (.int z2), .val (.int z3), .val (.ref b27), .unset, .unset, .unset] [(.int z3), (.int z2), (.int z1), (.int z0), (.int (3 : Int32))])) rfl (by rw [hml]; rfl) (argsL := [(.int (3 : Int32)), (.int z0), (.int z1), (.int z2), (.int z3)]) (rest := []) (lenOf pd_12 rfl) rfl (by show 2 * 0 + _ ≤ _; exact Nat.le_of_eq rfl) (hb hby at_58) (fun _ _ => ⟨rfl, rfl, (by decide : 3 + 0 ≤ _), (by decide : 10 + 0 ≤ _)⟩)
      dsimp only [Pt.U, Pt.locs, Pt.cells, Pt.slots] at X29 cl_29 cy_29 cz_29 st29 hQ29
      rw [cl_29, cy_29, cz_29] at X29
      obtain ⟨rfl, N29q, e29⟩ := hQ29
      have N29 := Fr.app N27 N29q
      have R30 : ∀ t, Steps p.tables e below (T29.setTop (mkF m 91 #[.val (.int le), .val (.int y0), .val (.int y1), .val (.int y2), .val (.int y3), .val (.int (3 : Int32)), .val (.int z0), .val (.int z1), .val (.int z2), .val (.int z3), .val (.ref b27), .val (.int (2 : Int32)), .val (.int (0 : Int32)), .unset] [(.int (1 : Int32))])) t → Steps p.tables e below (s₁.setTop (entryFrame m #[(.int le), (.int y0), (.int y1), (.int y2), (.int y3)] maxLocals)) t := by
        intro t k
        refine R28 t ?_
        show Steps p.tables e below (T27.setTop (mkF m 58 #[.val (.int le), .val (.int y0), .val (.int y1), .val (.int y2), .val (.int y3), .val (.int (3 : Int32)), .val (.int z0), .val (.int z1), .val (.int z2), .val (.int z3), .val (.ref b27), .unset, .unset, .unset] [(.int z3), (.int z2), (.int z1), (.int z0), (.int (3 : Int32))])) t
        refine st29 _ ?_
        show Steps p.tables e below (T29.setTop (mkF m 61 #[.val (.int le), .val (.int y0), .val (.int y1), .val (.int y2), .val (.int y3), .val (.int (3 : Int32)), .val (.int z0), .val (.int z1), .val (.int z2), .val (.int z3), .val (.ref b27), .unset, .unset, .unset] [(.int (2 : Int32))])) t
        refine XS.istore X29.here hx rfl (hb hby at_61) rfl (l' := #[.val (.int le), .val (.int y0), .val (.int y1), .val (.int y2), .val (.int y3), .val (.int (3 : Int32)), .val (.int z0), .val (.int z1), .val (.int z2), .val (.int z3), .val (.ref b27), .val (.int (2 : Int32)), .unset, .unset]) rfl ?_
        show Steps p.tables e below (T29.setTop (mkF m 63 #[.val (.int le), .val (.int y0), .val (.int y1), .val (.int y2), .val (.int y3), .val (.int (3 : Int32)), .val (.int z0), .val (.int z1), .val (.int z2), .val (.int z3), .val (.ref b27), .val (.int (2 : Int32)), .unset, .unset] [])) t
        refine XS.iload X29.here hx rfl (hb hby at_63) rfl ?_
        show Steps p.tables e below (T29.setTop (mkF m 65 #[.val (.int le), .val (.int y0), .val (.int y1), .val (.int y2), .val (.int y3), .val (.int (3 : Int32)), .val (.int z0), .val (.int z1), .val (.int z2), .val (.int z3), .val (.ref b27), .val (.int (2 : Int32)), .unset, .unset] [(.int (2 : Int32))])) t
        refine XS.iconst X29.here hx rfl (hb hby at_65) ?_
        show Steps p.tables e below (T29.setTop (mkF m 66 #[.val (.int le), .val (.int y0), .val (.int y1), .val (.int y2), .val (.int y3), .val (.int (3 : Int32)), .val (.int z0), .val (.int z1), .val (.int z2), .val (.int z3), .val (.ref b27), .val (.int (2 : Int32)), .unset, .unset] [(.int (1 : Int32)), (.int (2 : Int32))])) t
        refine XS.icmpNo X29.here hx rfl (hb hby at_66) rfl (flt ((by decide) : ¬ ((2 : Int32) < (1 : Int32)))).1 ?_
        show Steps p.tables e below (T29.setTop (mkF m 69 #[.val (.int le), .val (.int y0), .val (.int y1), .val (.int y2), .val (.int y3), .val (.int (3 : Int32)), .val (.int z0), .val (.int z1), .val (.int z2), .val (.int z3), .val (.ref b27), .val (.int (2 : Int32)), .unset, .unset] [])) t
        refine XS.iload X29.here hx rfl (hb hby at_69) rfl ?_
        show Steps p.tables e below (T29.setTop (mkF m 71 #[.val (.int le), .val (.int y0), .val (.int y1), .val (.int y2), .val (.int y3), .val (.int (3 : Int32)), .val (.int z0), .val (.int z1), .val (.int z2), .val (.int z3), .val (.ref b27), .val (.int (2 : Int32)), .unset, .unset] [(.int (2 : Int32))])) t
        refine XS.iload X29.here hx rfl (hb hby at_71) rfl ?_
        show Steps p.tables e below (T29.setTop (mkF m 73 #[.val (.int le), .val (.int y0), .val (.int y1), .val (.int y2), .val (.int y3), .val (.int (3 : Int32)), .val (.int z0), .val (.int z1), .val (.int z2), .val (.int z3), .val (.ref b27), .val (.int (2 : Int32)), .unset, .unset] [(.int (3 : Int32)), (.int (2 : Int32))])) t
        refine XS.iconst X29.here hx rfl (hb hby at_73) ?_
        show Steps p.tables e below (T29.setTop (mkF m 74 #[.val (.int le), .val (.int y0), .val (.int y1), .val (.int y2), .val (.int y3), .val (.int (3 : Int32)), .val (.int z0), .val (.int z1), .val (.int z2), .val (.int z3), .val (.ref b27), .val (.int (2 : Int32)), .unset, .unset] [(.int (1 : Int32)), (.int (3 : Int32)), (.int (2 : Int32))])) t
        refine XS.isub X29.here hx rfl (hb hby at_74) rfl ?_
        show Steps p.tables e below (T29.setTop (mkF m 75 #[.val (.int le), .val (.int y0), .val (.int y1), .val (.int y2), .val (.int y3), .val (.int (3 : Int32)), .val (.int z0), .val (.int z1), .val (.int z2), .val (.int z3), .val (.ref b27), .val (.int (2 : Int32)), .unset, .unset] [(.int ((3 : Int32) - (1 : Int32))), (.int (2 : Int32))])) t
        rw [show ((3 : Int32) - (1 : Int32)) = (2 : Int32) from by decide]
        show Steps p.tables e below (T29.setTop (mkF m 75 #[.val (.int le), .val (.int y0), .val (.int y1), .val (.int y2), .val (.int y3), .val (.int (3 : Int32)), .val (.int z0), .val (.int z1), .val (.int z2), .val (.int z3), .val (.ref b27), .val (.int (2 : Int32)), .unset, .unset] [(.int (2 : Int32)), (.int (2 : Int32))])) t
        refine XS.icmpYes X29.here hx rfl (pc0 := 75) (pc' := 82) rfl (hb hby at_75) rfl (teq ((by decide) : (2 : Int32) = (2 : Int32))).1 (by decide) (by decide) ?_
        show Steps p.tables e below (T29.setTop (mkF m 82 #[.val (.int le), .val (.int y0), .val (.int y1), .val (.int y2), .val (.int y3), .val (.int (3 : Int32)), .val (.int z0), .val (.int z1), .val (.int z2), .val (.int z3), .val (.ref b27), .val (.int (2 : Int32)), .unset, .unset] [])) t
        refine XS.iconst X29.here hx rfl (hb hby at_82) ?_
        show Steps p.tables e below (T29.setTop (mkF m 83 #[.val (.int le), .val (.int y0), .val (.int y1), .val (.int y2), .val (.int y3), .val (.int (3 : Int32)), .val (.int z0), .val (.int z1), .val (.int z2), .val (.int z3), .val (.ref b27), .val (.int (2 : Int32)), .unset, .unset] [(.int (0 : Int32))])) t
        refine XS.istore X29.here hx rfl (hb hby at_83) rfl (l' := #[.val (.int le), .val (.int y0), .val (.int y1), .val (.int y2), .val (.int y3), .val (.int (3 : Int32)), .val (.int z0), .val (.int z1), .val (.int z2), .val (.int z3), .val (.ref b27), .val (.int (2 : Int32)), .val (.int (0 : Int32)), .unset]) rfl ?_
        show Steps p.tables e below (T29.setTop (mkF m 85 #[.val (.int le), .val (.int y0), .val (.int y1), .val (.int y2), .val (.int y3), .val (.int (3 : Int32)), .val (.int z0), .val (.int z1), .val (.int z2), .val (.int z3), .val (.ref b27), .val (.int (2 : Int32)), .val (.int (0 : Int32)), .unset] [])) t
        refine XS.iload X29.here hx rfl (hb hby at_85) rfl ?_
        show Steps p.tables e below (T29.setTop (mkF m 87 #[.val (.int le), .val (.int y0), .val (.int y1), .val (.int y2), .val (.int y3), .val (.int (3 : Int32)), .val (.int z0), .val (.int z1), .val (.int z2), .val (.int z3), .val (.ref b27), .val (.int (2 : Int32)), .val (.int (0 : Int32)), .unset] [(.int (0 : Int32))])) t
        refine XS.ifNo X29.here hx rfl (hb hby at_87) rfl ((if0 _ _).trans (teq ((by decide) : (0 : Int32) = (0 : Int32))).2) ?_
        show Steps p.tables e below (T29.setTop (mkF m 90 #[.val (.int le), .val (.int y0), .val (.int y1), .val (.int y2), .val (.int y3), .val (.int (3 : Int32)), .val (.int z0), .val (.int z1), .val (.int z2), .val (.int z3), .val (.ref b27), .val (.int (2 : Int32)), .val (.int (0 : Int32)), .unset] [])) t
        refine XS.iconst X29.here hx rfl (hb hby at_90) ?_
        exact k
      obtain ⟨fs, hr, hrun, hended, hRW⟩ := X29.leaveW hS0 (by rw [e29]; exact hk27) (v := some (.int (1 : Int32))) (fun h => by rw [Bd.returns] at h; cases h)
      refine ⟨_, _, R30 _ ?_, hrun, hended, _, _, rfl, ?_, hRW.1, hRW.2.1, hRW.2.2.1, hRW.2.2.2.mono (by decide) (by decide)⟩
      · show Steps p.tables e below (T29.setTop (mkF m 91 #[.val (.int le), .val (.int y0), .val (.int y1), .val (.int y2), .val (.int y3), .val (.int (3 : Int32)), .val (.int z0), .val (.int z1), .val (.int z2), .val (.int z3), .val (.ref b27), .val (.int (2 : Int32)), .val (.int (0 : Int32)), .unset] [(.int (1 : Int32))])) _
        exact retN X29 hx (t := .boolean) Bd.returns (by simp) (hb hby at_91) hr
      · show Q_rm0 Z zCS le y0 y1 y2 y3 h0 n0 _ T29.heap _
        rw [e29]
        exact ⟨rfl, N29⟩
    · by_cases hz1 : z1 = (46 : Int32)
      · obtain ⟨_, _, ⟨T31, L31, k31, n31⟩, -, X31, ⟨Lc31, hQ31, cl_31, cy_31, cz_31⟩, st31⟩ := Jvm.LawKit.callS X27 hx (y := (⟨"com/example/wiring_from_blueprints/wiringfromblueprints/internal/StaticFieldCheckedPinLaw", "lastDot", "(ICCCC)I"⟩ : MethodName)) hown0 (mvT hZ0 (hw _ (List.mem_of_getElem? (i := 30) rfl))) (mvT hZ0 (hw _ (List.mem_of_getElem? (i := 31) rfl))) (mvT hZ0 (hw _ (List.mem_of_getElem? (i := 3) rfl))) (mvT hZ0 (hw _ (List.mem_of_getElem? (i := 32) rfl))) (by decide) (backOf (W := 0) (ld3_1 l Z a0 hw [] zCS z0 z1 z2 z3 T27.heap n0 O27 S_CS hCS hcH hcW   hz2 hz1) hZ0 (hw _ (List.mem_of_getElem? (i := 32) rfl)) (hw _ (List.mem_of_getElem? (i := 3) rfl)) (by decide) (by decide)) (g := (mkF m 58 #[.val (.int le), .val (.int y0), .val (.int y1), .val (.int y2), .val (.int y3), .val (.int (3 : Int32)), .val (.int z0), .val (.int z1), .val (.int z2), .val (.int z3), .val (.ref b27), .unset, .unset, .unset] [(.int z3), (.int z2), (.int z1), (.int z0), (.int (3 : Int32))])) rfl (by rw [hml]; rfl) (argsL := [(.int (3 : Int32)), (.int z0), (.int z1), (.int z2), (.int z3)]) (rest := []) (lenOf pd_12 rfl) rfl (by show 2 * 0 + _ ≤ _; exact Nat.le_of_eq rfl) (hb hby at_58) (fun _ _ => ⟨rfl, rfl, (by decide : 3 + 0 ≤ _), (by decide : 10 + 0 ≤ _)⟩)
        dsimp only [Pt.U, Pt.locs, Pt.cells, Pt.slots] at X31 cl_31 cy_31 cz_31 st31 hQ31
        rw [cl_31, cy_31, cz_31] at X31
        obtain ⟨rfl, N31q, e31⟩ := hQ31
        have N31 := Fr.app N27 N31q
        obtain ⟨_, _, ⟨T32, L32, k32, n32⟩, -, X32q, hS32q, hg32q, ⟨Lc32, hQ32, cl_32, cy_32, cz_32⟩, st32⟩ := callSS X31 hx (y := (⟨"com/example/wiring_from_blueprints/wiringfromblueprints/internal/StaticField", "checked", "(Ljava/lang/String;)Ljava/lang/String;"⟩ : MethodName)) hown0 (mvT hZ0 (hw _ (List.mem_of_getElem? (i := 44) rfl))) (mvT hZ0 (hw _ (List.mem_of_getElem? (i := 45) rfl))) (mvT hZ0 (hw _ (List.mem_of_getElem? (i := 46) rfl))) (mvT hZ0 (hw _ (List.mem_of_getElem? (i := 47) rfl))) (by decide) (backOfS (W := 0) (checked3_1 l Z a0 hw [] zCS b27 tt27 kb27 ((nar .char z0).toInt8.toInt32) ((nar .char z1).toInt8.toInt32) ((nar .char z2).toInt8.toInt32) T27.heap n0 O27 S_CS hCS hcH hcW   y27_0 y27_1 y27_2 y27_3 (fun q => hz2 ((own_b46 y3_0).1 q)) ((own_b46 y2_0).2 hz1)) hZ0 (hw _ (List.mem_of_getElem? (i := 47) rfl)) (hw _ (List.mem_of_getElem? (i := 46) rfl)) (by decide) (by decide)) (g := (mkF m 94 #[.val (.int le), .val (.int y0), .val (.int y1), .val (.int y2), .val (.int y3), .val (.int (3 : Int32)), .val (.int z0), .val (.int z1), .val (.int z2), .val (.int z3), .val (.ref b27), .val (.int (1 : Int32)), .val (.int (1 : Int32)), .unset] [(.ref b27)])) rfl (by rw [hml]; rfl) (argsL := [(.ref b27)]) (rest := []) (lenOf pd_13 rfl) rfl (by show 2 * 0 + _ ≤ _; exact Nat.le_of_eq rfl) (hb hby at_94) (fun _ _ => ⟨rfl, e31, (by decide : 3 + 2 ≤ _), (by decide : 10 + 48 ≤ _)⟩)
        dsimp only [Pt.U, Pt.locs, Pt.cells, Pt.slots] at X32q cl_32 cy_32 cz_32 st32 hQ32 hS32q hg32q
        rw [cl_32, cy_32, cz_32] at X32q
        obtain ⟨X32, hS32, hZ32, hown32⟩ := rebS hS0 (by rw [e31]; exact hk27) X32q hS32q hg32q hZ0 hown0
        have hk32 := Nat.le_refl T32.heap.size
        obtain ⟨rfl, N32q, K32q⟩ := hQ32
        have N32 := Fr.app N31 N32q
        have Z32 : n0 ≤ T32.heap.size := Nat.le_trans Z27 K32q.1
        have K32 : Keep h0 T32.heap [] := K27.trans K32q all0
        have O32 : Old Z n0 T32.heap := O27.keep K32q all0
        have R33 : ∀ t, Steps p.tables e below (T32.setTop (mkF m 111 #[.val (.int le), .val (.int y0), .val (.int y1), .val (.int y2), .val (.int y3), .val (.int (3 : Int32)), .val (.int z0), .val (.int z1), .val (.int z2), .val (.int z3), .val (.ref b27), .val (.int (1 : Int32)), .val (.int (1 : Int32)), .val (.ref b27)] [(.int (1 : Int32))])) t → Steps p.tables e below (s₁.setTop (entryFrame m #[(.int le), (.int y0), (.int y1), (.int y2), (.int y3)] maxLocals)) t := by
          intro t k
          refine R28 t ?_
          show Steps p.tables e below (T27.setTop (mkF m 58 #[.val (.int le), .val (.int y0), .val (.int y1), .val (.int y2), .val (.int y3), .val (.int (3 : Int32)), .val (.int z0), .val (.int z1), .val (.int z2), .val (.int z3), .val (.ref b27), .unset, .unset, .unset] [(.int z3), (.int z2), (.int z1), (.int z0), (.int (3 : Int32))])) t
          refine st31 _ ?_
          show Steps p.tables e below (T31.setTop (mkF m 61 #[.val (.int le), .val (.int y0), .val (.int y1), .val (.int y2), .val (.int y3), .val (.int (3 : Int32)), .val (.int z0), .val (.int z1), .val (.int z2), .val (.int z3), .val (.ref b27), .unset, .unset, .unset] [(.int (1 : Int32))])) t
          refine XS.istore X31.here hx rfl (hb hby at_61) rfl (l' := #[.val (.int le), .val (.int y0), .val (.int y1), .val (.int y2), .val (.int y3), .val (.int (3 : Int32)), .val (.int z0), .val (.int z1), .val (.int z2), .val (.int z3), .val (.ref b27), .val (.int (1 : Int32)), .unset, .unset]) rfl ?_
          show Steps p.tables e below (T31.setTop (mkF m 63 #[.val (.int le), .val (.int y0), .val (.int y1), .val (.int y2), .val (.int y3), .val (.int (3 : Int32)), .val (.int z0), .val (.int z1), .val (.int z2), .val (.int z3), .val (.ref b27), .val (.int (1 : Int32)), .unset, .unset] [])) t
          refine XS.iload X31.here hx rfl (hb hby at_63) rfl ?_
          show Steps p.tables e below (T31.setTop (mkF m 65 #[.val (.int le), .val (.int y0), .val (.int y1), .val (.int y2), .val (.int y3), .val (.int (3 : Int32)), .val (.int z0), .val (.int z1), .val (.int z2), .val (.int z3), .val (.ref b27), .val (.int (1 : Int32)), .unset, .unset] [(.int (1 : Int32))])) t
          refine XS.iconst X31.here hx rfl (hb hby at_65) ?_
          show Steps p.tables e below (T31.setTop (mkF m 66 #[.val (.int le), .val (.int y0), .val (.int y1), .val (.int y2), .val (.int y3), .val (.int (3 : Int32)), .val (.int z0), .val (.int z1), .val (.int z2), .val (.int z3), .val (.ref b27), .val (.int (1 : Int32)), .unset, .unset] [(.int (1 : Int32)), (.int (1 : Int32))])) t
          refine XS.icmpNo X31.here hx rfl (hb hby at_66) rfl (flt ((by decide) : ¬ ((1 : Int32) < (1 : Int32)))).1 ?_
          show Steps p.tables e below (T31.setTop (mkF m 69 #[.val (.int le), .val (.int y0), .val (.int y1), .val (.int y2), .val (.int y3), .val (.int (3 : Int32)), .val (.int z0), .val (.int z1), .val (.int z2), .val (.int z3), .val (.ref b27), .val (.int (1 : Int32)), .unset, .unset] [])) t
          refine XS.iload X31.here hx rfl (hb hby at_69) rfl ?_
          show Steps p.tables e below (T31.setTop (mkF m 71 #[.val (.int le), .val (.int y0), .val (.int y1), .val (.int y2), .val (.int y3), .val (.int (3 : Int32)), .val (.int z0), .val (.int z1), .val (.int z2), .val (.int z3), .val (.ref b27), .val (.int (1 : Int32)), .unset, .unset] [(.int (1 : Int32))])) t
          refine XS.iload X31.here hx rfl (hb hby at_71) rfl ?_
          show Steps p.tables e below (T31.setTop (mkF m 73 #[.val (.int le), .val (.int y0), .val (.int y1), .val (.int y2), .val (.int y3), .val (.int (3 : Int32)), .val (.int z0), .val (.int z1), .val (.int z2), .val (.int z3), .val (.ref b27), .val (.int (1 : Int32)), .unset, .unset] [(.int (3 : Int32)), (.int (1 : Int32))])) t
          refine XS.iconst X31.here hx rfl (hb hby at_73) ?_
          show Steps p.tables e below (T31.setTop (mkF m 74 #[.val (.int le), .val (.int y0), .val (.int y1), .val (.int y2), .val (.int y3), .val (.int (3 : Int32)), .val (.int z0), .val (.int z1), .val (.int z2), .val (.int z3), .val (.ref b27), .val (.int (1 : Int32)), .unset, .unset] [(.int (1 : Int32)), (.int (3 : Int32)), (.int (1 : Int32))])) t
          refine XS.isub X31.here hx rfl (hb hby at_74) rfl ?_
          show Steps p.tables e below (T31.setTop (mkF m 75 #[.val (.int le), .val (.int y0), .val (.int y1), .val (.int y2), .val (.int y3), .val (.int (3 : Int32)), .val (.int z0), .val (.int z1), .val (.int z2), .val (.int z3), .val (.ref b27), .val (.int (1 : Int32)), .unset, .unset] [(.int ((3 : Int32) - (1 : Int32))), (.int (1 : Int32))])) t
          rw [show ((3 : Int32) - (1 : Int32)) = (2 : Int32) from by decide]
          show Steps p.tables e below (T31.setTop (mkF m 75 #[.val (.int le), .val (.int y0), .val (.int y1), .val (.int y2), .val (.int y3), .val (.int (3 : Int32)), .val (.int z0), .val (.int z1), .val (.int z2), .val (.int z3), .val (.ref b27), .val (.int (1 : Int32)), .unset, .unset] [(.int (2 : Int32)), (.int (1 : Int32))])) t
          refine XS.icmpNo X31.here hx rfl (hb hby at_75) rfl (feq ((by decide) : ¬ ((1 : Int32) = (2 : Int32)))).1 ?_
          show Steps p.tables e below (T31.setTop (mkF m 78 #[.val (.int le), .val (.int y0), .val (.int y1), .val (.int y2), .val (.int y3), .val (.int (3 : Int32)), .val (.int z0), .val (.int z1), .val (.int z2), .val (.int z3), .val (.ref b27), .val (.int (1 : Int32)), .unset, .unset] [])) t
          refine XS.iconst X31.here hx rfl (hb hby at_78) ?_
          show Steps p.tables e below (T31.setTop (mkF m 79 #[.val (.int le), .val (.int y0), .val (.int y1), .val (.int y2), .val (.int y3), .val (.int (3 : Int32)), .val (.int z0), .val (.int z1), .val (.int z2), .val (.int z3), .val (.ref b27), .val (.int (1 : Int32)), .unset, .unset] [(.int (1 : Int32))])) t
          refine XS.goto X31.here hx rfl (pc0 := 79) (pc' := 83) rfl (hb hby at_79) (by decide) (by decide) ?_
          show Steps p.tables e below (T31.setTop (mkF m 83 #[.val (.int le), .val (.int y0), .val (.int y1), .val (.int y2), .val (.int y3), .val (.int (3 : Int32)), .val (.int z0), .val (.int z1), .val (.int z2), .val (.int z3), .val (.ref b27), .val (.int (1 : Int32)), .unset, .unset] [(.int (1 : Int32))])) t
          refine XS.istore X31.here hx rfl (hb hby at_83) rfl (l' := #[.val (.int le), .val (.int y0), .val (.int y1), .val (.int y2), .val (.int y3), .val (.int (3 : Int32)), .val (.int z0), .val (.int z1), .val (.int z2), .val (.int z3), .val (.ref b27), .val (.int (1 : Int32)), .val (.int (1 : Int32)), .unset]) rfl ?_
          show Steps p.tables e below (T31.setTop (mkF m 85 #[.val (.int le), .val (.int y0), .val (.int y1), .val (.int y2), .val (.int y3), .val (.int (3 : Int32)), .val (.int z0), .val (.int z1), .val (.int z2), .val (.int z3), .val (.ref b27), .val (.int (1 : Int32)), .val (.int (1 : Int32)), .unset] [])) t
          refine XS.iload X31.here hx rfl (hb hby at_85) rfl ?_
          show Steps p.tables e below (T31.setTop (mkF m 87 #[.val (.int le), .val (.int y0), .val (.int y1), .val (.int y2), .val (.int y3), .val (.int (3 : Int32)), .val (.int z0), .val (.int z1), .val (.int z2), .val (.int z3), .val (.ref b27), .val (.int (1 : Int32)), .val (.int (1 : Int32)), .unset] [(.int (1 : Int32))])) t
          refine XS.ifYes X31.here hx rfl (pc0 := 87) (pc' := 92) rfl (hb hby at_87) rfl ((if0 _ _).trans (feq ((by decide) : ¬ ((1 : Int32) = (0 : Int32)))).2) (by decide) (by decide) ?_
          show Steps p.tables e below (T31.setTop (mkF m 92 #[.val (.int le), .val (.int y0), .val (.int y1), .val (.int y2), .val (.int y3), .val (.int (3 : Int32)), .val (.int z0), .val (.int z1), .val (.int z2), .val (.int z3), .val (.ref b27), .val (.int (1 : Int32)), .val (.int (1 : Int32)), .unset] [])) t
          refine XS.aload X31.here hx rfl (hb hby at_92) rfl rfl ?_
          show Steps p.tables e below (T31.setTop (mkF m 94 #[.val (.int le), .val (.int y0), .val (.int y1), .val (.int y2), .val (.int y3), .val (.int (3 : Int32)), .val (.int z0), .val (.int z1), .val (.int z2), .val (.int z3), .val (.ref b27), .val (.int (1 : Int32)), .val (.int (1 : Int32)), .unset] [(.ref b27)])) t
          refine st32.trans ?_
          show Steps p.tables e below (T32.setTop (mkF m 97 #[.val (.int le), .val (.int y0), .val (.int y1), .val (.int y2), .val (.int y3), .val (.int (3 : Int32)), .val (.int z0), .val (.int z1), .val (.int z2), .val (.int z3), .val (.ref b27), .val (.int (1 : Int32)), .val (.int (1 : Int32)), .unset] [(.ref b27)])) t
          refine XS.astore X32.here hx rfl (hb hby at_97) rfl rfl (l' := #[.val (.int le), .val (.int y0), .val (.int y1), .val (.int y2), .val (.int y3), .val (.int (3 : Int32)), .val (.int z0), .val (.int z1), .val (.int z2), .val (.int z3), .val (.ref b27), .val (.int (1 : Int32)), .val (.int (1 : Int32)), .val (.ref b27)]) rfl ?_
          show Steps p.tables e below (T32.setTop (mkF m 99 #[.val (.int le), .val (.int y0), .val (.int y1), .val (.int y2), .val (.int y3), .val (.int (3 : Int32)), .val (.int z0), .val (.int z1), .val (.int z2), .val (.int z3), .val (.ref b27), .val (.int (1 : Int32)), .val (.int (1 : Int32)), .val (.ref b27)] [])) t
          refine XS.aload X32.here hx rfl (hb hby at_99) rfl rfl ?_
          show Steps p.tables e below (T32.setTop (mkF m 101 #[.val (.int le), .val (.int y0), .val (.int y1), .val (.int y2), .val (.int y3), .val (.int (3 : Int32)), .val (.int z0), .val (.int z1), .val (.int z2), .val (.int z3), .val (.ref b27), .val (.int (1 : Int32)), .val (.int (1 : Int32)), .val (.ref b27)] [(.ref b27)])) t
          refine XS.aload X32.here hx rfl (hb hby at_101) rfl rfl ?_
          show Steps p.tables e below (T32.setTop (mkF m 103 #[.val (.int le), .val (.int y0), .val (.int y1), .val (.int y2), .val (.int y3), .val (.int (3 : Int32)), .val (.int z0), .val (.int z1), .val (.int z2), .val (.int z3), .val (.ref b27), .val (.int (1 : Int32)), .val (.int (1 : Int32)), .val (.ref b27)] [(.ref b27), (.ref b27)])) t
          refine Jvm.RoadKit.acmp (g := (mkF m 103 #[.val (.int le), .val (.int y0), .val (.int y1), .val (.int y2), .val (.int y3), .val (.int (3 : Int32)), .val (.int z0), .val (.int z1), .val (.int z2), .val (.int z3), .val (.ref b27), .val (.int (1 : Int32)), .val (.int (1 : Int32)), .val (.ref b27)] [(.ref b27), (.ref b27)])) X32 hx rfl rfl rfl (pc0 := 103) (pc' := 106) (same := true) rfl (hb hby at_103) rfl (decide_eq_true (congrArg Value.ref rfl)) (by decide) (by decide) ?_
          show Steps p.tables e below (T32.setTop (mkF m 106 #[.val (.int le), .val (.int y0), .val (.int y1), .val (.int y2), .val (.int y3), .val (.int (3 : Int32)), .val (.int z0), .val (.int z1), .val (.int z2), .val (.int z3), .val (.ref b27), .val (.int (1 : Int32)), .val (.int (1 : Int32)), .val (.ref b27)] [])) t
          refine XS.iconst X32.here hx rfl (hb hby at_106) ?_
          show Steps p.tables e below (T32.setTop (mkF m 107 #[.val (.int le), .val (.int y0), .val (.int y1), .val (.int y2), .val (.int y3), .val (.int (3 : Int32)), .val (.int z0), .val (.int z1), .val (.int z2), .val (.int z3), .val (.ref b27), .val (.int (1 : Int32)), .val (.int (1 : Int32)), .val (.ref b27)] [(.int (1 : Int32))])) t
          refine XS.goto X32.here hx rfl (pc0 := 107) (pc' := 111) rfl (hb hby at_107) (by decide) (by decide) ?_
          exact k
        obtain ⟨fs, hr, hrun, hended, hRW⟩ := X32.leaveW hS32 hk32 (v := some (.int (1 : Int32))) (fun h => by rw [Bd.returns] at h; cases h)
        refine ⟨_, _, R33 _ ?_, hrun, hended, _, _, rfl, ?_, hRW.1, hRW.2.1, hRW.2.2.1, hRW.2.2.2.mono (by decide) (by decide)⟩
        · show Steps p.tables e below (T32.setTop (mkF m 111 #[.val (.int le), .val (.int y0), .val (.int y1), .val (.int y2), .val (.int y3), .val (.int (3 : Int32)), .val (.int z0), .val (.int z1), .val (.int z2), .val (.int z3), .val (.ref b27), .val (.int (1 : Int32)), .val (.int (1 : Int32)), .val (.ref b27)] [(.int (1 : Int32))])) _
          exact retN X32 hx (t := .boolean) Bd.returns (by simp) (hb hby at_111) hr
        · show Q_rm0 Z zCS le y0 y1 y2 y3 h0 n0 _ T32.heap _
          exact ⟨rfl, N32⟩
      · by_cases hz0 : z0 = (46 : Int32)
        · obtain ⟨_, _, ⟨T34, L34, k34, n34⟩, -, X34, ⟨Lc34, hQ34, cl_34, cy_34, cz_34⟩, st34⟩ := Jvm.LawKit.callS X27 hx (y := (⟨"com/example/wiring_from_blueprints/wiringfromblueprints/internal/StaticFieldCheckedPinLaw", "lastDot", "(ICCCC)I"⟩ : MethodName)) hown0 (mvT hZ0 (hw _ (List.mem_of_getElem? (i := 30) rfl))) (mvT hZ0 (hw _ (List.mem_of_getElem? (i := 31) rfl))) (mvT hZ0 (hw _ (List.mem_of_getElem? (i := 3) rfl))) (mvT hZ0 (hw _ (List.mem_of_getElem? (i := 32) rfl))) (by decide) (backOf (W := 0) (ld3_0 l Z a0 hw [] zCS z0 z1 z2 z3 T27.heap n0 O27 S_CS hCS hcH hcW   hz2 hz1 hz0) hZ0 (hw _ (List.mem_of_getElem? (i := 32) rfl)) (hw _ (List.mem_of_getElem? (i := 3) rfl)) (by decide) (by decide)) (g := (mkF m 58 #[.val (.int le), .val (.int y0), .val (.int y1), .val (.int y2), .val (.int y3), .val (.int (3 : Int32)), .val (.int z0), .val (.int z1), .val (.int z2), .val (.int z3), .val (.ref b27), .unset, .unset, .unset] [(.int z3), (.int z2), (.int z1), (.int z0), (.int (3 : Int32))])) rfl (by rw [hml]; rfl) (argsL := [(.int (3 : Int32)), (.int z0), (.int z1), (.int z2), (.int z3)]) (rest := []) (lenOf pd_12 rfl) rfl (by show 2 * 0 + _ ≤ _; exact Nat.le_of_eq rfl) (hb hby at_58) (fun _ _ => ⟨rfl, rfl, (by decide : 3 + 0 ≤ _), (by decide : 10 + 0 ≤ _)⟩)
          dsimp only [Pt.U, Pt.locs, Pt.cells, Pt.slots] at X34 cl_34 cy_34 cz_34 st34 hQ34
          rw [cl_34, cy_34, cz_34] at X34
          obtain ⟨rfl, N34q, e34⟩ := hQ34
          have N34 := Fr.app N27 N34q
          have R35 : ∀ t, Steps p.tables e below (T34.setTop (mkF m 91 #[.val (.int le), .val (.int y0), .val (.int y1), .val (.int y2), .val (.int y3), .val (.int (3 : Int32)), .val (.int z0), .val (.int z1), .val (.int z2), .val (.int z3), .val (.ref b27), .val (.int (0 : Int32)), .val (.int (0 : Int32)), .unset] [(.int (1 : Int32))])) t → Steps p.tables e below (s₁.setTop (entryFrame m #[(.int le), (.int y0), (.int y1), (.int y2), (.int y3)] maxLocals)) t := by
            intro t k
            refine R28 t ?_
            show Steps p.tables e below (T27.setTop (mkF m 58 #[.val (.int le), .val (.int y0), .val (.int y1), .val (.int y2), .val (.int y3), .val (.int (3 : Int32)), .val (.int z0), .val (.int z1), .val (.int z2), .val (.int z3), .val (.ref b27), .unset, .unset, .unset] [(.int z3), (.int z2), (.int z1), (.int z0), (.int (3 : Int32))])) t
            refine st34 _ ?_
            show Steps p.tables e below (T34.setTop (mkF m 61 #[.val (.int le), .val (.int y0), .val (.int y1), .val (.int y2), .val (.int y3), .val (.int (3 : Int32)), .val (.int z0), .val (.int z1), .val (.int z2), .val (.int z3), .val (.ref b27), .unset, .unset, .unset] [(.int (0 : Int32))])) t
            refine XS.istore X34.here hx rfl (hb hby at_61) rfl (l' := #[.val (.int le), .val (.int y0), .val (.int y1), .val (.int y2), .val (.int y3), .val (.int (3 : Int32)), .val (.int z0), .val (.int z1), .val (.int z2), .val (.int z3), .val (.ref b27), .val (.int (0 : Int32)), .unset, .unset]) rfl ?_
            show Steps p.tables e below (T34.setTop (mkF m 63 #[.val (.int le), .val (.int y0), .val (.int y1), .val (.int y2), .val (.int y3), .val (.int (3 : Int32)), .val (.int z0), .val (.int z1), .val (.int z2), .val (.int z3), .val (.ref b27), .val (.int (0 : Int32)), .unset, .unset] [])) t
            refine XS.iload X34.here hx rfl (hb hby at_63) rfl ?_
            show Steps p.tables e below (T34.setTop (mkF m 65 #[.val (.int le), .val (.int y0), .val (.int y1), .val (.int y2), .val (.int y3), .val (.int (3 : Int32)), .val (.int z0), .val (.int z1), .val (.int z2), .val (.int z3), .val (.ref b27), .val (.int (0 : Int32)), .unset, .unset] [(.int (0 : Int32))])) t
            refine XS.iconst X34.here hx rfl (hb hby at_65) ?_
            show Steps p.tables e below (T34.setTop (mkF m 66 #[.val (.int le), .val (.int y0), .val (.int y1), .val (.int y2), .val (.int y3), .val (.int (3 : Int32)), .val (.int z0), .val (.int z1), .val (.int z2), .val (.int z3), .val (.ref b27), .val (.int (0 : Int32)), .unset, .unset] [(.int (1 : Int32)), (.int (0 : Int32))])) t
            refine XS.icmpYes X34.here hx rfl (pc0 := 66) (pc' := 82) rfl (hb hby at_66) rfl (tlt ((by decide) : (0 : Int32) < (1 : Int32))).1 (by decide) (by decide) ?_
            show Steps p.tables e below (T34.setTop (mkF m 82 #[.val (.int le), .val (.int y0), .val (.int y1), .val (.int y2), .val (.int y3), .val (.int (3 : Int32)), .val (.int z0), .val (.int z1), .val (.int z2), .val (.int z3), .val (.ref b27), .val (.int (0 : Int32)), .unset, .unset] [])) t
            refine XS.iconst X34.here hx rfl (hb hby at_82) ?_
            show Steps p.tables e below (T34.setTop (mkF m 83 #[.val (.int le), .val (.int y0), .val (.int y1), .val (.int y2), .val (.int y3), .val (.int (3 : Int32)), .val (.int z0), .val (.int z1), .val (.int z2), .val (.int z3), .val (.ref b27), .val (.int (0 : Int32)), .unset, .unset] [(.int (0 : Int32))])) t
            refine XS.istore X34.here hx rfl (hb hby at_83) rfl (l' := #[.val (.int le), .val (.int y0), .val (.int y1), .val (.int y2), .val (.int y3), .val (.int (3 : Int32)), .val (.int z0), .val (.int z1), .val (.int z2), .val (.int z3), .val (.ref b27), .val (.int (0 : Int32)), .val (.int (0 : Int32)), .unset]) rfl ?_
            show Steps p.tables e below (T34.setTop (mkF m 85 #[.val (.int le), .val (.int y0), .val (.int y1), .val (.int y2), .val (.int y3), .val (.int (3 : Int32)), .val (.int z0), .val (.int z1), .val (.int z2), .val (.int z3), .val (.ref b27), .val (.int (0 : Int32)), .val (.int (0 : Int32)), .unset] [])) t
            refine XS.iload X34.here hx rfl (hb hby at_85) rfl ?_
            show Steps p.tables e below (T34.setTop (mkF m 87 #[.val (.int le), .val (.int y0), .val (.int y1), .val (.int y2), .val (.int y3), .val (.int (3 : Int32)), .val (.int z0), .val (.int z1), .val (.int z2), .val (.int z3), .val (.ref b27), .val (.int (0 : Int32)), .val (.int (0 : Int32)), .unset] [(.int (0 : Int32))])) t
            refine XS.ifNo X34.here hx rfl (hb hby at_87) rfl ((if0 _ _).trans (teq ((by decide) : (0 : Int32) = (0 : Int32))).2) ?_
            show Steps p.tables e below (T34.setTop (mkF m 90 #[.val (.int le), .val (.int y0), .val (.int y1), .val (.int y2), .val (.int y3), .val (.int (3 : Int32)), .val (.int z0), .val (.int z1), .val (.int z2), .val (.int z3), .val (.ref b27), .val (.int (0 : Int32)), .val (.int (0 : Int32)), .unset] [])) t
            refine XS.iconst X34.here hx rfl (hb hby at_90) ?_
            exact k
          obtain ⟨fs, hr, hrun, hended, hRW⟩ := X34.leaveW hS0 (by rw [e34]; exact hk27) (v := some (.int (1 : Int32))) (fun h => by rw [Bd.returns] at h; cases h)
          refine ⟨_, _, R35 _ ?_, hrun, hended, _, _, rfl, ?_, hRW.1, hRW.2.1, hRW.2.2.1, hRW.2.2.2.mono (by decide) (by decide)⟩
          · show Steps p.tables e below (T34.setTop (mkF m 91 #[.val (.int le), .val (.int y0), .val (.int y1), .val (.int y2), .val (.int y3), .val (.int (3 : Int32)), .val (.int z0), .val (.int z1), .val (.int z2), .val (.int z3), .val (.ref b27), .val (.int (0 : Int32)), .val (.int (0 : Int32)), .unset] [(.int (1 : Int32))])) _
            exact retN X34 hx (t := .boolean) Bd.returns (by simp) (hb hby at_91) hr
          · show Q_rm0 Z zCS le y0 y1 y2 y3 h0 n0 _ T34.heap _
            rw [e34]
            exact ⟨rfl, N34⟩
        · obtain ⟨_, _, ⟨T36, L36, k36, n36⟩, -, X36, ⟨Lc36, hQ36, cl_36, cy_36, cz_36⟩, st36⟩ := Jvm.LawKit.callS X27 hx (y := (⟨"com/example/wiring_from_blueprints/wiringfromblueprints/internal/StaticFieldCheckedPinLaw", "lastDot", "(ICCCC)I"⟩ : MethodName)) hown0 (mvT hZ0 (hw _ (List.mem_of_getElem? (i := 30) rfl))) (mvT hZ0 (hw _ (List.mem_of_getElem? (i := 31) rfl))) (mvT hZ0 (hw _ (List.mem_of_getElem? (i := 3) rfl))) (mvT hZ0 (hw _ (List.mem_of_getElem? (i := 32) rfl))) (by decide) (backOf (W := 0) (ld3_m l Z a0 hw [] zCS z0 z1 z2 z3 T27.heap n0 O27 S_CS hCS hcH hcW   hz2 hz1 hz0) hZ0 (hw _ (List.mem_of_getElem? (i := 32) rfl)) (hw _ (List.mem_of_getElem? (i := 3) rfl)) (by decide) (by decide)) (g := (mkF m 58 #[.val (.int le), .val (.int y0), .val (.int y1), .val (.int y2), .val (.int y3), .val (.int (3 : Int32)), .val (.int z0), .val (.int z1), .val (.int z2), .val (.int z3), .val (.ref b27), .unset, .unset, .unset] [(.int z3), (.int z2), (.int z1), (.int z0), (.int (3 : Int32))])) rfl (by rw [hml]; rfl) (argsL := [(.int (3 : Int32)), (.int z0), (.int z1), (.int z2), (.int z3)]) (rest := []) (lenOf pd_12 rfl) rfl (by show 2 * 0 + _ ≤ _; exact Nat.le_of_eq rfl) (hb hby at_58) (fun _ _ => ⟨rfl, rfl, (by decide : 3 + 0 ≤ _), (by decide : 10 + 0 ≤ _)⟩)
          dsimp only [Pt.U, Pt.locs, Pt.cells, Pt.slots] at X36 cl_36 cy_36 cz_36 st36 hQ36
          rw [cl_36, cy_36, cz_36] at X36
          obtain ⟨rfl, N36q, e36⟩ := hQ36
          have N36 := Fr.app N27 N36q
          have R37 : ∀ t, Steps p.tables e below (T36.setTop (mkF m 91 #[.val (.int le), .val (.int y0), .val (.int y1), .val (.int y2), .val (.int y3), .val (.int (3 : Int32)), .val (.int z0), .val (.int z1), .val (.int z2), .val (.int z3), .val (.ref b27), .val (.int (-1 : Int32)), .val (.int (0 : Int32)), .unset] [(.int (1 : Int32))])) t → Steps p.tables e below (s₁.setTop (entryFrame m #[(.int le), (.int y0), (.int y1), (.int y2), (.int y3)] maxLocals)) t := by
            intro t k
            refine R28 t ?_
            show Steps p.tables e below (T27.setTop (mkF m 58 #[.val (.int le), .val (.int y0), .val (.int y1), .val (.int y2), .val (.int y3), .val (.int (3 : Int32)), .val (.int z0), .val (.int z1), .val (.int z2), .val (.int z3), .val (.ref b27), .unset, .unset, .unset] [(.int z3), (.int z2), (.int z1), (.int z0), (.int (3 : Int32))])) t
            refine st36 _ ?_
            show Steps p.tables e below (T36.setTop (mkF m 61 #[.val (.int le), .val (.int y0), .val (.int y1), .val (.int y2), .val (.int y3), .val (.int (3 : Int32)), .val (.int z0), .val (.int z1), .val (.int z2), .val (.int z3), .val (.ref b27), .unset, .unset, .unset] [(.int (-1 : Int32))])) t
            refine XS.istore X36.here hx rfl (hb hby at_61) rfl (l' := #[.val (.int le), .val (.int y0), .val (.int y1), .val (.int y2), .val (.int y3), .val (.int (3 : Int32)), .val (.int z0), .val (.int z1), .val (.int z2), .val (.int z3), .val (.ref b27), .val (.int (-1 : Int32)), .unset, .unset]) rfl ?_
            show Steps p.tables e below (T36.setTop (mkF m 63 #[.val (.int le), .val (.int y0), .val (.int y1), .val (.int y2), .val (.int y3), .val (.int (3 : Int32)), .val (.int z0), .val (.int z1), .val (.int z2), .val (.int z3), .val (.ref b27), .val (.int (-1 : Int32)), .unset, .unset] [])) t
            refine XS.iload X36.here hx rfl (hb hby at_63) rfl ?_
            show Steps p.tables e below (T36.setTop (mkF m 65 #[.val (.int le), .val (.int y0), .val (.int y1), .val (.int y2), .val (.int y3), .val (.int (3 : Int32)), .val (.int z0), .val (.int z1), .val (.int z2), .val (.int z3), .val (.ref b27), .val (.int (-1 : Int32)), .unset, .unset] [(.int (-1 : Int32))])) t
            refine XS.iconst X36.here hx rfl (hb hby at_65) ?_
            show Steps p.tables e below (T36.setTop (mkF m 66 #[.val (.int le), .val (.int y0), .val (.int y1), .val (.int y2), .val (.int y3), .val (.int (3 : Int32)), .val (.int z0), .val (.int z1), .val (.int z2), .val (.int z3), .val (.ref b27), .val (.int (-1 : Int32)), .unset, .unset] [(.int (1 : Int32)), (.int (-1 : Int32))])) t
            refine XS.icmpYes X36.here hx rfl (pc0 := 66) (pc' := 82) rfl (hb hby at_66) rfl (tlt ((by decide) : (-1 : Int32) < (1 : Int32))).1 (by decide) (by decide) ?_
            show Steps p.tables e below (T36.setTop (mkF m 82 #[.val (.int le), .val (.int y0), .val (.int y1), .val (.int y2), .val (.int y3), .val (.int (3 : Int32)), .val (.int z0), .val (.int z1), .val (.int z2), .val (.int z3), .val (.ref b27), .val (.int (-1 : Int32)), .unset, .unset] [])) t
            refine XS.iconst X36.here hx rfl (hb hby at_82) ?_
            show Steps p.tables e below (T36.setTop (mkF m 83 #[.val (.int le), .val (.int y0), .val (.int y1), .val (.int y2), .val (.int y3), .val (.int (3 : Int32)), .val (.int z0), .val (.int z1), .val (.int z2), .val (.int z3), .val (.ref b27), .val (.int (-1 : Int32)), .unset, .unset] [(.int (0 : Int32))])) t
            refine XS.istore X36.here hx rfl (hb hby at_83) rfl (l' := #[.val (.int le), .val (.int y0), .val (.int y1), .val (.int y2), .val (.int y3), .val (.int (3 : Int32)), .val (.int z0), .val (.int z1), .val (.int z2), .val (.int z3), .val (.ref b27), .val (.int (-1 : Int32)), .val (.int (0 : Int32)), .unset]) rfl ?_
            show Steps p.tables e below (T36.setTop (mkF m 85 #[.val (.int le), .val (.int y0), .val (.int y1), .val (.int y2), .val (.int y3), .val (.int (3 : Int32)), .val (.int z0), .val (.int z1), .val (.int z2), .val (.int z3), .val (.ref b27), .val (.int (-1 : Int32)), .val (.int (0 : Int32)), .unset] [])) t
            refine XS.iload X36.here hx rfl (hb hby at_85) rfl ?_
            show Steps p.tables e below (T36.setTop (mkF m 87 #[.val (.int le), .val (.int y0), .val (.int y1), .val (.int y2), .val (.int y3), .val (.int (3 : Int32)), .val (.int z0), .val (.int z1), .val (.int z2), .val (.int z3), .val (.ref b27), .val (.int (-1 : Int32)), .val (.int (0 : Int32)), .unset] [(.int (0 : Int32))])) t
            refine XS.ifNo X36.here hx rfl (hb hby at_87) rfl ((if0 _ _).trans (teq ((by decide) : (0 : Int32) = (0 : Int32))).2) ?_
            show Steps p.tables e below (T36.setTop (mkF m 90 #[.val (.int le), .val (.int y0), .val (.int y1), .val (.int y2), .val (.int y3), .val (.int (3 : Int32)), .val (.int z0), .val (.int z1), .val (.int z2), .val (.int z3), .val (.ref b27), .val (.int (-1 : Int32)), .val (.int (0 : Int32)), .unset] [])) t
            refine XS.iconst X36.here hx rfl (hb hby at_90) ?_
            exact k
          obtain ⟨fs, hr, hrun, hended, hRW⟩ := X36.leaveW hS0 (by rw [e36]; exact hk27) (v := some (.int (1 : Int32))) (fun h => by rw [Bd.returns] at h; cases h)
          refine ⟨_, _, R37 _ ?_, hrun, hended, _, _, rfl, ?_, hRW.1, hRW.2.1, hRW.2.2.1, hRW.2.2.2.mono (by decide) (by decide)⟩
          · show Steps p.tables e below (T36.setTop (mkF m 91 #[.val (.int le), .val (.int y0), .val (.int y1), .val (.int y2), .val (.int y3), .val (.int (3 : Int32)), .val (.int z0), .val (.int z1), .val (.int z2), .val (.int z3), .val (.ref b27), .val (.int (-1 : Int32)), .val (.int (0 : Int32)), .unset] [(.int (1 : Int32))])) _
            exact retN X36 hx (t := .boolean) Bd.returns (by simp) (hb hby at_91) hr
          · show Q_rm0 Z zCS le y0 y1 y2 y3 h0 n0 _ T36.heap _
            rw [e36]
            exact ⟨rfl, N36⟩
  · have R38 := R5
    rw [hi] at R38
    obtain ⟨_, _, ⟨T39, L39, k39, n39⟩, -, X39, ⟨Lc39, hQ39, cl_39, cy_39, cz_39⟩, st39⟩ := Jvm.LawKit.callS X4 hx (y := (⟨"com/example/wiring_from_blueprints/wiringfromblueprints/internal/StaticFieldCheckedPinLaw", "build", "(ICCCC)Ljava/lang/String;"⟩ : MethodName)) hown0 (mvT hZ0 (hw _ (List.mem_of_getElem? (i := 5) rfl))) (mvT hZ0 (hw _ (List.mem_of_getElem? (i := 6) rfl))) (mvT hZ0 (hw _ (List.mem_of_getElem? (i := 3) rfl))) (mvT hZ0 (hw _ (List.mem_of_getElem? (i := 7) rfl))) (by decide) (backOf (W := 0) (build4 l Z a0 hw [] zCS z0 z1 z2 z3 h0 n0 O0 S_CS hCS hcH hcW   y1_0 y2_0 y3_0 y4_0) hZ0 (hw _ (List.mem_of_getElem? (i := 7) rfl)) (hw _ (List.mem_of_getElem? (i := 3) rfl)) (by decide) (by decide)) (g := (mkF m 43 #[.val (.int le), .val (.int y0), .val (.int y1), .val (.int y2), .val (.int y3), .val (.int (4 : Int32)), .val (.int z0), .val (.int z1), .val (.int z2), .val (.int z3), .unset, .unset, .unset, .unset] [(.int z3), (.int z2), (.int z1), (.int z0), (.int (4 : Int32))])) rfl (by rw [hml]; rfl) (argsL := [(.int (4 : Int32)), (.int z0), (.int z1), (.int z2), (.int z3)]) (rest := []) (lenOf pd_11 rfl) rfl (by show 2 * 0 + _ ≤ _; exact Nat.le_of_eq rfl) (hb hby at_43) (fun _ _ => ⟨rfl, e4, (by decide : 0 + 3 ≤ _), (by decide : 0 + 12 ≤ _)⟩)
    dsimp only [Pt.U, Pt.locs, Pt.cells, Pt.slots] at X39 cl_39 cy_39 cz_39 st39 hQ39
    rw [cl_39, cy_39, cz_39] at X39
    obtain ⟨b39, tt39, kb39, rfl, N39q, K39q, fr39_b, y39_0, y39_1, y39_2, y39_3⟩ := hQ39
    have N39 := Fr.app N4 N39q
    have g_b39 : n0 ≤ b39 := Nat.le_trans Z0 fr39_b
    have sz_b39 : h0.size ≤ b39 := Nat.le_trans K0.1 fr39_b
    have nl_b39 : NN ≤ b39 := Nat.le_trans hL0.1 fr39_b
    have Z39 : n0 ≤ T39.heap.size := Nat.le_trans Z0 K39q.1
    have K39 : Keep h0 T39.heap [] := K0.trans K39q all0
    have O39 : Old Z n0 T39.heap := O0.keep K39q all0
    have hL39 := hL0.keep K39q all0
    have hk39 := Nat.le_trans hk0 K39q.1
    have ne_b39_tt39 : b39 ≠ tt39 := y39_0.neArv y39_3 (hw _ (List.mem_of_getElem? (i := 9) rfl))
    have R40 : ∀ t, Steps p.tables e below (T39.setTop (mkF m 58 #[.val (.int le), .val (.int y0), .val (.int y1), .val (.int y2), .val (.int y3), .val (.int (4 : Int32)), .val (.int z0), .val (.int z1), .val (.int z2), .val (.int z3), .val (.ref b39), .unset, .unset, .unset] [(.int z3), (.int z2), (.int z1), (.int z0), (.int (4 : Int32))])) t → Steps p.tables e below (s₁.setTop (entryFrame m #[(.int le), (.int y0), (.int y1), (.int y2), (.int y3)] maxLocals)) t := by
      intro t k
      refine R38 t ?_
      show Steps p.tables e below (T4.setTop (mkF m 43 #[.val (.int le), .val (.int y0), .val (.int y1), .val (.int y2), .val (.int y3), .val (.int (4 : Int32)), .val (.int z0), .val (.int z1), .val (.int z2), .val (.int z3), .unset, .unset, .unset, .unset] [(.int z3), (.int z2), (.int z1), (.int z0), (.int (4 : Int32))])) t
      refine st39 _ ?_
      show Steps p.tables e below (T39.setTop (mkF m 46 #[.val (.int le), .val (.int y0), .val (.int y1), .val (.int y2), .val (.int y3), .val (.int (4 : Int32)), .val (.int z0), .val (.int z1), .val (.int z2), .val (.int z3), .unset, .unset, .unset, .unset] [(.ref b39)])) t
      refine XS.astore X39.here hx rfl (hb hby at_46) rfl rfl (l' := #[.val (.int le), .val (.int y0), .val (.int y1), .val (.int y2), .val (.int y3), .val (.int (4 : Int32)), .val (.int z0), .val (.int z1), .val (.int z2), .val (.int z3), .val (.ref b39), .unset, .unset, .unset]) rfl ?_
      show Steps p.tables e below (T39.setTop (mkF m 48 #[.val (.int le), .val (.int y0), .val (.int y1), .val (.int y2), .val (.int y3), .val (.int (4 : Int32)), .val (.int z0), .val (.int z1), .val (.int z2), .val (.int z3), .val (.ref b39), .unset, .unset, .unset] [])) t
      refine XS.iload X39.here hx rfl (hb hby at_48) rfl ?_
      show Steps p.tables e below (T39.setTop (mkF m 50 #[.val (.int le), .val (.int y0), .val (.int y1), .val (.int y2), .val (.int y3), .val (.int (4 : Int32)), .val (.int z0), .val (.int z1), .val (.int z2), .val (.int z3), .val (.ref b39), .unset, .unset, .unset] [(.int (4 : Int32))])) t
      refine XS.iload X39.here hx rfl (hb hby at_50) rfl ?_
      show Steps p.tables e below (T39.setTop (mkF m 52 #[.val (.int le), .val (.int y0), .val (.int y1), .val (.int y2), .val (.int y3), .val (.int (4 : Int32)), .val (.int z0), .val (.int z1), .val (.int z2), .val (.int z3), .val (.ref b39), .unset, .unset, .unset] [(.int z0), (.int (4 : Int32))])) t
      refine XS.iload X39.here hx rfl (hb hby at_52) rfl ?_
      show Steps p.tables e below (T39.setTop (mkF m 54 #[.val (.int le), .val (.int y0), .val (.int y1), .val (.int y2), .val (.int y3), .val (.int (4 : Int32)), .val (.int z0), .val (.int z1), .val (.int z2), .val (.int z3), .val (.ref b39), .unset, .unset, .unset] [(.int z1), (.int z0), (.int (4 : Int32))])) t
      refine XS.iload X39.here hx rfl (hb hby at_54) rfl ?_
      show Steps p.tables e below (T39.setTop (mkF m 56 #[.val (.int le), .val (.int y0), .val (.int y1), .val (.int y2), .val (.int y3), .val (.int (4 : Int32)), .val (.int z0), .val (.int z1), .val (.int z2), .val (.int z3), .val (.ref b39), .unset, .unset, .unset] [(.int z2), (.int z1), (.int z0), (.int (4 : Int32))])) t
      refine XS.iload X39.here hx rfl (hb hby at_56) rfl ?_
      exact k
    by_cases hz3 : z3 = (46 : Int32)
    · obtain ⟨_, _, ⟨T41, L41, k41, n41⟩, -, X41, ⟨Lc41, hQ41, cl_41, cy_41, cz_41⟩, st41⟩ := Jvm.LawKit.callS X39 hx (y := (⟨"com/example/wiring_from_blueprints/wiringfromblueprints/internal/StaticFieldCheckedPinLaw", "lastDot", "(ICCCC)I"⟩ : MethodName)) hown0 (mvT hZ0 (hw _ (List.mem_of_getElem? (i := 30) rfl))) (mvT hZ0 (hw _ (List.mem_of_getElem? (i := 31) rfl))) (mvT hZ0 (hw _ (List.mem_of_getElem? (i := 3) rfl))) (mvT hZ0 (hw _ (List.mem_of_getElem? (i := 32) rfl))) (by decide) (backOf (W := 0) (ld4_3 l Z a0 hw [] zCS z0 z1 z2 z3 T39.heap n0 O39 S_CS hCS hcH hcW   hz3) hZ0 (hw _ (List.mem_of_getElem? (i := 32) rfl)) (hw _ (List.mem_of_getElem? (i := 3) rfl)) (by decide) (by decide)) (g := (mkF m 58 #[.val (.int le), .val (.int y0), .val (.int y1), .val (.int y2), .val (.int y3), .val (.int (4 : Int32)), .val (.int z0), .val (.int z1), .val (.int z2), .val (.int z3), .val (.ref b39), .unset, .unset, .unset] [(.int z3), (.int z2), (.int z1), (.int z0), (.int (4 : Int32))])) rfl (by rw [hml]; rfl) (argsL := [(.int (4 : Int32)), (.int z0), (.int z1), (.int z2), (.int z3)]) (rest := []) (lenOf pd_12 rfl) rfl (by show 2 * 0 + _ ≤ _; exact Nat.le_of_eq rfl) (hb hby at_58) (fun _ _ => ⟨rfl, rfl, (by decide : 3 + 0 ≤ _), (by decide : 12 + 0 ≤ _)⟩)
      dsimp only [Pt.U, Pt.locs, Pt.cells, Pt.slots] at X41 cl_41 cy_41 cz_41 st41 hQ41
      rw [cl_41, cy_41, cz_41] at X41
      obtain ⟨rfl, N41q, e41⟩ := hQ41
      have N41 := Fr.app N39 N41q
      have R42 : ∀ t, Steps p.tables e below (T41.setTop (mkF m 91 #[.val (.int le), .val (.int y0), .val (.int y1), .val (.int y2), .val (.int y3), .val (.int (4 : Int32)), .val (.int z0), .val (.int z1), .val (.int z2), .val (.int z3), .val (.ref b39), .val (.int (3 : Int32)), .val (.int (0 : Int32)), .unset] [(.int (1 : Int32))])) t → Steps p.tables e below (s₁.setTop (entryFrame m #[(.int le), (.int y0), (.int y1), (.int y2), (.int y3)] maxLocals)) t := by
        intro t k
        refine R40 t ?_
        show Steps p.tables e below (T39.setTop (mkF m 58 #[.val (.int le), .val (.int y0), .val (.int y1), .val (.int y2), .val (.int y3), .val (.int (4 : Int32)), .val (.int z0), .val (.int z1), .val (.int z2), .val (.int z3), .val (.ref b39), .unset, .unset, .unset] [(.int z3), (.int z2), (.int z1), (.int z0), (.int (4 : Int32))])) t
        refine st41 _ ?_
        show Steps p.tables e below (T41.setTop (mkF m 61 #[.val (.int le), .val (.int y0), .val (.int y1), .val (.int y2), .val (.int y3), .val (.int (4 : Int32)), .val (.int z0), .val (.int z1), .val (.int z2), .val (.int z3), .val (.ref b39), .unset, .unset, .unset] [(.int (3 : Int32))])) t
        refine XS.istore X41.here hx rfl (hb hby at_61) rfl (l' := #[.val (.int le), .val (.int y0), .val (.int y1), .val (.int y2), .val (.int y3), .val (.int (4 : Int32)), .val (.int z0), .val (.int z1), .val (.int z2), .val (.int z3), .val (.ref b39), .val (.int (3 : Int32)), .unset, .unset]) rfl ?_
        show Steps p.tables e below (T41.setTop (mkF m 63 #[.val (.int le), .val (.int y0), .val (.int y1), .val (.int y2), .val (.int y3), .val (.int (4 : Int32)), .val (.int z0), .val (.int z1), .val (.int z2), .val (.int z3), .val (.ref b39), .val (.int (3 : Int32)), .unset, .unset] [])) t
        refine XS.iload X41.here hx rfl (hb hby at_63) rfl ?_
        show Steps p.tables e below (T41.setTop (mkF m 65 #[.val (.int le), .val (.int y0), .val (.int y1), .val (.int y2), .val (.int y3), .val (.int (4 : Int32)), .val (.int z0), .val (.int z1), .val (.int z2), .val (.int z3), .val (.ref b39), .val (.int (3 : Int32)), .unset, .unset] [(.int (3 : Int32))])) t
        refine XS.iconst X41.here hx rfl (hb hby at_65) ?_
        show Steps p.tables e below (T41.setTop (mkF m 66 #[.val (.int le), .val (.int y0), .val (.int y1), .val (.int y2), .val (.int y3), .val (.int (4 : Int32)), .val (.int z0), .val (.int z1), .val (.int z2), .val (.int z3), .val (.ref b39), .val (.int (3 : Int32)), .unset, .unset] [(.int (1 : Int32)), (.int (3 : Int32))])) t
        refine XS.icmpNo X41.here hx rfl (hb hby at_66) rfl (flt ((by decide) : ¬ ((3 : Int32) < (1 : Int32)))).1 ?_
        show Steps p.tables e below (T41.setTop (mkF m 69 #[.val (.int le), .val (.int y0), .val (.int y1), .val (.int y2), .val (.int y3), .val (.int (4 : Int32)), .val (.int z0), .val (.int z1), .val (.int z2), .val (.int z3), .val (.ref b39), .val (.int (3 : Int32)), .unset, .unset] [])) t
        refine XS.iload X41.here hx rfl (hb hby at_69) rfl ?_
        show Steps p.tables e below (T41.setTop (mkF m 71 #[.val (.int le), .val (.int y0), .val (.int y1), .val (.int y2), .val (.int y3), .val (.int (4 : Int32)), .val (.int z0), .val (.int z1), .val (.int z2), .val (.int z3), .val (.ref b39), .val (.int (3 : Int32)), .unset, .unset] [(.int (3 : Int32))])) t
        refine XS.iload X41.here hx rfl (hb hby at_71) rfl ?_
        show Steps p.tables e below (T41.setTop (mkF m 73 #[.val (.int le), .val (.int y0), .val (.int y1), .val (.int y2), .val (.int y3), .val (.int (4 : Int32)), .val (.int z0), .val (.int z1), .val (.int z2), .val (.int z3), .val (.ref b39), .val (.int (3 : Int32)), .unset, .unset] [(.int (4 : Int32)), (.int (3 : Int32))])) t
        refine XS.iconst X41.here hx rfl (hb hby at_73) ?_
        show Steps p.tables e below (T41.setTop (mkF m 74 #[.val (.int le), .val (.int y0), .val (.int y1), .val (.int y2), .val (.int y3), .val (.int (4 : Int32)), .val (.int z0), .val (.int z1), .val (.int z2), .val (.int z3), .val (.ref b39), .val (.int (3 : Int32)), .unset, .unset] [(.int (1 : Int32)), (.int (4 : Int32)), (.int (3 : Int32))])) t
        refine XS.isub X41.here hx rfl (hb hby at_74) rfl ?_
        show Steps p.tables e below (T41.setTop (mkF m 75 #[.val (.int le), .val (.int y0), .val (.int y1), .val (.int y2), .val (.int y3), .val (.int (4 : Int32)), .val (.int z0), .val (.int z1), .val (.int z2), .val (.int z3), .val (.ref b39), .val (.int (3 : Int32)), .unset, .unset] [(.int ((4 : Int32) - (1 : Int32))), (.int (3 : Int32))])) t
        rw [show ((4 : Int32) - (1 : Int32)) = (3 : Int32) from by decide]
        show Steps p.tables e below (T41.setTop (mkF m 75 #[.val (.int le), .val (.int y0), .val (.int y1), .val (.int y2), .val (.int y3), .val (.int (4 : Int32)), .val (.int z0), .val (.int z1), .val (.int z2), .val (.int z3), .val (.ref b39), .val (.int (3 : Int32)), .unset, .unset] [(.int (3 : Int32)), (.int (3 : Int32))])) t
        refine XS.icmpYes X41.here hx rfl (pc0 := 75) (pc' := 82) rfl (hb hby at_75) rfl (teq ((by decide) : (3 : Int32) = (3 : Int32))).1 (by decide) (by decide) ?_
        show Steps p.tables e below (T41.setTop (mkF m 82 #[.val (.int le), .val (.int y0), .val (.int y1), .val (.int y2), .val (.int y3), .val (.int (4 : Int32)), .val (.int z0), .val (.int z1), .val (.int z2), .val (.int z3), .val (.ref b39), .val (.int (3 : Int32)), .unset, .unset] [])) t
        refine XS.iconst X41.here hx rfl (hb hby at_82) ?_
        show Steps p.tables e below (T41.setTop (mkF m 83 #[.val (.int le), .val (.int y0), .val (.int y1), .val (.int y2), .val (.int y3), .val (.int (4 : Int32)), .val (.int z0), .val (.int z1), .val (.int z2), .val (.int z3), .val (.ref b39), .val (.int (3 : Int32)), .unset, .unset] [(.int (0 : Int32))])) t
        refine XS.istore X41.here hx rfl (hb hby at_83) rfl (l' := #[.val (.int le), .val (.int y0), .val (.int y1), .val (.int y2), .val (.int y3), .val (.int (4 : Int32)), .val (.int z0), .val (.int z1), .val (.int z2), .val (.int z3), .val (.ref b39), .val (.int (3 : Int32)), .val (.int (0 : Int32)), .unset]) rfl ?_
        show Steps p.tables e below (T41.setTop (mkF m 85 #[.val (.int le), .val (.int y0), .val (.int y1), .val (.int y2), .val (.int y3), .val (.int (4 : Int32)), .val (.int z0), .val (.int z1), .val (.int z2), .val (.int z3), .val (.ref b39), .val (.int (3 : Int32)), .val (.int (0 : Int32)), .unset] [])) t
        refine XS.iload X41.here hx rfl (hb hby at_85) rfl ?_
        show Steps p.tables e below (T41.setTop (mkF m 87 #[.val (.int le), .val (.int y0), .val (.int y1), .val (.int y2), .val (.int y3), .val (.int (4 : Int32)), .val (.int z0), .val (.int z1), .val (.int z2), .val (.int z3), .val (.ref b39), .val (.int (3 : Int32)), .val (.int (0 : Int32)), .unset] [(.int (0 : Int32))])) t
        refine XS.ifNo X41.here hx rfl (hb hby at_87) rfl ((if0 _ _).trans (teq ((by decide) : (0 : Int32) = (0 : Int32))).2) ?_
        show Steps p.tables e below (T41.setTop (mkF m 90 #[.val (.int le), .val (.int y0), .val (.int y1), .val (.int y2), .val (.int y3), .val (.int (4 : Int32)), .val (.int z0), .val (.int z1), .val (.int z2), .val (.int z3), .val (.ref b39), .val (.int (3 : Int32)), .val (.int (0 : Int32)), .unset] [])) t
        refine XS.iconst X41.here hx rfl (hb hby at_90) ?_
        exact k
      obtain ⟨fs, hr, hrun, hended, hRW⟩ := X41.leaveW hS0 (by rw [e41]; exact hk39) (v := some (.int (1 : Int32))) (fun h => by rw [Bd.returns] at h; cases h)
      refine ⟨_, _, R42 _ ?_, hrun, hended, _, _, rfl, ?_, hRW.1, hRW.2.1, hRW.2.2.1, hRW.2.2.2.mono (by decide) (by decide)⟩
      · show Steps p.tables e below (T41.setTop (mkF m 91 #[.val (.int le), .val (.int y0), .val (.int y1), .val (.int y2), .val (.int y3), .val (.int (4 : Int32)), .val (.int z0), .val (.int z1), .val (.int z2), .val (.int z3), .val (.ref b39), .val (.int (3 : Int32)), .val (.int (0 : Int32)), .unset] [(.int (1 : Int32))])) _
        exact retN X41 hx (t := .boolean) Bd.returns (by simp) (hb hby at_91) hr
      · show Q_rm0 Z zCS le y0 y1 y2 y3 h0 n0 _ T41.heap _
        rw [e41]
        exact ⟨rfl, N41⟩
    · by_cases hz2 : z2 = (46 : Int32)
      · obtain ⟨_, _, ⟨T43, L43, k43, n43⟩, -, X43, ⟨Lc43, hQ43, cl_43, cy_43, cz_43⟩, st43⟩ := Jvm.LawKit.callS X39 hx (y := (⟨"com/example/wiring_from_blueprints/wiringfromblueprints/internal/StaticFieldCheckedPinLaw", "lastDot", "(ICCCC)I"⟩ : MethodName)) hown0 (mvT hZ0 (hw _ (List.mem_of_getElem? (i := 30) rfl))) (mvT hZ0 (hw _ (List.mem_of_getElem? (i := 31) rfl))) (mvT hZ0 (hw _ (List.mem_of_getElem? (i := 3) rfl))) (mvT hZ0 (hw _ (List.mem_of_getElem? (i := 32) rfl))) (by decide) (backOf (W := 0) (ld4_2 l Z a0 hw [] zCS z0 z1 z2 z3 T39.heap n0 O39 S_CS hCS hcH hcW   hz3 hz2) hZ0 (hw _ (List.mem_of_getElem? (i := 32) rfl)) (hw _ (List.mem_of_getElem? (i := 3) rfl)) (by decide) (by decide)) (g := (mkF m 58 #[.val (.int le), .val (.int y0), .val (.int y1), .val (.int y2), .val (.int y3), .val (.int (4 : Int32)), .val (.int z0), .val (.int z1), .val (.int z2), .val (.int z3), .val (.ref b39), .unset, .unset, .unset] [(.int z3), (.int z2), (.int z1), (.int z0), (.int (4 : Int32))])) rfl (by rw [hml]; rfl) (argsL := [(.int (4 : Int32)), (.int z0), (.int z1), (.int z2), (.int z3)]) (rest := []) (lenOf pd_12 rfl) rfl (by show 2 * 0 + _ ≤ _; exact Nat.le_of_eq rfl) (hb hby at_58) (fun _ _ => ⟨rfl, rfl, (by decide : 3 + 0 ≤ _), (by decide : 12 + 0 ≤ _)⟩)
        dsimp only [Pt.U, Pt.locs, Pt.cells, Pt.slots] at X43 cl_43 cy_43 cz_43 st43 hQ43
        rw [cl_43, cy_43, cz_43] at X43
        obtain ⟨rfl, N43q, e43⟩ := hQ43
        have N43 := Fr.app N39 N43q
        obtain ⟨_, _, ⟨T44, L44, k44, n44⟩, -, X44q, hS44q, hg44q, ⟨Lc44, hQ44, cl_44, cy_44, cz_44⟩, st44⟩ := callSS X43 hx (y := (⟨"com/example/wiring_from_blueprints/wiringfromblueprints/internal/StaticField", "checked", "(Ljava/lang/String;)Ljava/lang/String;"⟩ : MethodName)) hown0 (mvT hZ0 (hw _ (List.mem_of_getElem? (i := 44) rfl))) (mvT hZ0 (hw _ (List.mem_of_getElem? (i := 45) rfl))) (mvT hZ0 (hw _ (List.mem_of_getElem? (i := 46) rfl))) (mvT hZ0 (hw _ (List.mem_of_getElem? (i := 47) rfl))) (by decide) (backOfS (W := 0) (checked4_2 l Z a0 hw [] zCS b39 tt39 kb39 ((nar .char z0).toInt8.toInt32) ((nar .char z1).toInt8.toInt32) ((nar .char z2).toInt8.toInt32) ((nar .char z3).toInt8.toInt32) T39.heap n0 O39 S_CS hCS hcH hcW   y39_0 y39_1 y39_2 y39_3 (fun q => hz3 ((own_b46 y4_0).1 q)) ((own_b46 y3_0).2 hz2)) hZ0 (hw _ (List.mem_of_getElem? (i := 47) rfl)) (hw _ (List.mem_of_getElem? (i := 46) rfl)) (by decide) (by decide)) (g := (mkF m 94 #[.val (.int le), .val (.int y0), .val (.int y1), .val (.int y2), .val (.int y3), .val (.int (4 : Int32)), .val (.int z0), .val (.int z1), .val (.int z2), .val (.int z3), .val (.ref b39), .val (.int (2 : Int32)), .val (.int (1 : Int32)), .unset] [(.ref b39)])) rfl (by rw [hml]; rfl) (argsL := [(.ref b39)]) (rest := []) (lenOf pd_13 rfl) rfl (by show 2 * 0 + _ ≤ _; exact Nat.le_of_eq rfl) (hb hby at_94) (fun _ _ => ⟨rfl, e43, (by decide : 3 + 2 ≤ _), (by decide : 12 + 48 ≤ _)⟩)
        dsimp only [Pt.U, Pt.locs, Pt.cells, Pt.slots] at X44q cl_44 cy_44 cz_44 st44 hQ44 hS44q hg44q
        rw [cl_44, cy_44, cz_44] at X44q
        obtain ⟨X44, hS44, hZ44, hown44⟩ := rebS hS0 (by rw [e43]; exact hk39) X44q hS44q hg44q hZ0 hown0
        have hk44 := Nat.le_refl T44.heap.size
        obtain ⟨rfl, N44q, K44q⟩ := hQ44
        have N44 := Fr.app N43 N44q
        have Z44 : n0 ≤ T44.heap.size := Nat.le_trans Z39 K44q.1
        have K44 : Keep h0 T44.heap [] := K39.trans K44q all0
        have O44 : Old Z n0 T44.heap := O39.keep K44q all0
        have R45 : ∀ t, Steps p.tables e below (T44.setTop (mkF m 111 #[.val (.int le), .val (.int y0), .val (.int y1), .val (.int y2), .val (.int y3), .val (.int (4 : Int32)), .val (.int z0), .val (.int z1), .val (.int z2), .val (.int z3), .val (.ref b39), .val (.int (2 : Int32)), .val (.int (1 : Int32)), .val (.ref b39)] [(.int (1 : Int32))])) t → Steps p.tables e below (s₁.setTop (entryFrame m #[(.int le), (.int y0), (.int y1), (.int y2), (.int y3)] maxLocals)) t := by
          intro t k
          refine R40 t ?_
          show Steps p.tables e below (T39.setTop (mkF m 58 #[.val (.int le), .val (.int y0), .val (.int y1), .val (.int y2), .val (.int y3), .val (.int (4 : Int32)), .val (.int z0), .val (.int z1), .val (.int z2), .val (.int z3), .val (.ref b39), .unset, .unset, .unset] [(.int z3), (.int z2), (.int z1), (.int z0), (.int (4 : Int32))])) t
          refine st43 _ ?_
          show Steps p.tables e below (T43.setTop (mkF m 61 #[.val (.int le), .val (.int y0), .val (.int y1), .val (.int y2), .val (.int y3), .val (.int (4 : Int32)), .val (.int z0), .val (.int z1), .val (.int z2), .val (.int z3), .val (.ref b39), .unset, .unset, .unset] [(.int (2 : Int32))])) t
          refine XS.istore X43.here hx rfl (hb hby at_61) rfl (l' := #[.val (.int le), .val (.int y0), .val (.int y1), .val (.int y2), .val (.int y3), .val (.int (4 : Int32)), .val (.int z0), .val (.int z1), .val (.int z2), .val (.int z3), .val (.ref b39), .val (.int (2 : Int32)), .unset, .unset]) rfl ?_
          show Steps p.tables e below (T43.setTop (mkF m 63 #[.val (.int le), .val (.int y0), .val (.int y1), .val (.int y2), .val (.int y3), .val (.int (4 : Int32)), .val (.int z0), .val (.int z1), .val (.int z2), .val (.int z3), .val (.ref b39), .val (.int (2 : Int32)), .unset, .unset] [])) t
          refine XS.iload X43.here hx rfl (hb hby at_63) rfl ?_
          show Steps p.tables e below (T43.setTop (mkF m 65 #[.val (.int le), .val (.int y0), .val (.int y1), .val (.int y2), .val (.int y3), .val (.int (4 : Int32)), .val (.int z0), .val (.int z1), .val (.int z2), .val (.int z3), .val (.ref b39), .val (.int (2 : Int32)), .unset, .unset] [(.int (2 : Int32))])) t
          refine XS.iconst X43.here hx rfl (hb hby at_65) ?_
          show Steps p.tables e below (T43.setTop (mkF m 66 #[.val (.int le), .val (.int y0), .val (.int y1), .val (.int y2), .val (.int y3), .val (.int (4 : Int32)), .val (.int z0), .val (.int z1), .val (.int z2), .val (.int z3), .val (.ref b39), .val (.int (2 : Int32)), .unset, .unset] [(.int (1 : Int32)), (.int (2 : Int32))])) t
          refine XS.icmpNo X43.here hx rfl (hb hby at_66) rfl (flt ((by decide) : ¬ ((2 : Int32) < (1 : Int32)))).1 ?_
          show Steps p.tables e below (T43.setTop (mkF m 69 #[.val (.int le), .val (.int y0), .val (.int y1), .val (.int y2), .val (.int y3), .val (.int (4 : Int32)), .val (.int z0), .val (.int z1), .val (.int z2), .val (.int z3), .val (.ref b39), .val (.int (2 : Int32)), .unset, .unset] [])) t
          refine XS.iload X43.here hx rfl (hb hby at_69) rfl ?_
          show Steps p.tables e below (T43.setTop (mkF m 71 #[.val (.int le), .val (.int y0), .val (.int y1), .val (.int y2), .val (.int y3), .val (.int (4 : Int32)), .val (.int z0), .val (.int z1), .val (.int z2), .val (.int z3), .val (.ref b39), .val (.int (2 : Int32)), .unset, .unset] [(.int (2 : Int32))])) t
          refine XS.iload X43.here hx rfl (hb hby at_71) rfl ?_
          show Steps p.tables e below (T43.setTop (mkF m 73 #[.val (.int le), .val (.int y0), .val (.int y1), .val (.int y2), .val (.int y3), .val (.int (4 : Int32)), .val (.int z0), .val (.int z1), .val (.int z2), .val (.int z3), .val (.ref b39), .val (.int (2 : Int32)), .unset, .unset] [(.int (4 : Int32)), (.int (2 : Int32))])) t
          refine XS.iconst X43.here hx rfl (hb hby at_73) ?_
          show Steps p.tables e below (T43.setTop (mkF m 74 #[.val (.int le), .val (.int y0), .val (.int y1), .val (.int y2), .val (.int y3), .val (.int (4 : Int32)), .val (.int z0), .val (.int z1), .val (.int z2), .val (.int z3), .val (.ref b39), .val (.int (2 : Int32)), .unset, .unset] [(.int (1 : Int32)), (.int (4 : Int32)), (.int (2 : Int32))])) t
          refine XS.isub X43.here hx rfl (hb hby at_74) rfl ?_
          show Steps p.tables e below (T43.setTop (mkF m 75 #[.val (.int le), .val (.int y0), .val (.int y1), .val (.int y2), .val (.int y3), .val (.int (4 : Int32)), .val (.int z0), .val (.int z1), .val (.int z2), .val (.int z3), .val (.ref b39), .val (.int (2 : Int32)), .unset, .unset] [(.int ((4 : Int32) - (1 : Int32))), (.int (2 : Int32))])) t
          rw [show ((4 : Int32) - (1 : Int32)) = (3 : Int32) from by decide]
          show Steps p.tables e below (T43.setTop (mkF m 75 #[.val (.int le), .val (.int y0), .val (.int y1), .val (.int y2), .val (.int y3), .val (.int (4 : Int32)), .val (.int z0), .val (.int z1), .val (.int z2), .val (.int z3), .val (.ref b39), .val (.int (2 : Int32)), .unset, .unset] [(.int (3 : Int32)), (.int (2 : Int32))])) t
          refine XS.icmpNo X43.here hx rfl (hb hby at_75) rfl (feq ((by decide) : ¬ ((2 : Int32) = (3 : Int32)))).1 ?_
          show Steps p.tables e below (T43.setTop (mkF m 78 #[.val (.int le), .val (.int y0), .val (.int y1), .val (.int y2), .val (.int y3), .val (.int (4 : Int32)), .val (.int z0), .val (.int z1), .val (.int z2), .val (.int z3), .val (.ref b39), .val (.int (2 : Int32)), .unset, .unset] [])) t
          refine XS.iconst X43.here hx rfl (hb hby at_78) ?_
          show Steps p.tables e below (T43.setTop (mkF m 79 #[.val (.int le), .val (.int y0), .val (.int y1), .val (.int y2), .val (.int y3), .val (.int (4 : Int32)), .val (.int z0), .val (.int z1), .val (.int z2), .val (.int z3), .val (.ref b39), .val (.int (2 : Int32)), .unset, .unset] [(.int (1 : Int32))])) t
          refine XS.goto X43.here hx rfl (pc0 := 79) (pc' := 83) rfl (hb hby at_79) (by decide) (by decide) ?_
          show Steps p.tables e below (T43.setTop (mkF m 83 #[.val (.int le), .val (.int y0), .val (.int y1), .val (.int y2), .val (.int y3), .val (.int (4 : Int32)), .val (.int z0), .val (.int z1), .val (.int z2), .val (.int z3), .val (.ref b39), .val (.int (2 : Int32)), .unset, .unset] [(.int (1 : Int32))])) t
          refine XS.istore X43.here hx rfl (hb hby at_83) rfl (l' := #[.val (.int le), .val (.int y0), .val (.int y1), .val (.int y2), .val (.int y3), .val (.int (4 : Int32)), .val (.int z0), .val (.int z1), .val (.int z2), .val (.int z3), .val (.ref b39), .val (.int (2 : Int32)), .val (.int (1 : Int32)), .unset]) rfl ?_
          show Steps p.tables e below (T43.setTop (mkF m 85 #[.val (.int le), .val (.int y0), .val (.int y1), .val (.int y2), .val (.int y3), .val (.int (4 : Int32)), .val (.int z0), .val (.int z1), .val (.int z2), .val (.int z3), .val (.ref b39), .val (.int (2 : Int32)), .val (.int (1 : Int32)), .unset] [])) t
          refine XS.iload X43.here hx rfl (hb hby at_85) rfl ?_
          show Steps p.tables e below (T43.setTop (mkF m 87 #[.val (.int le), .val (.int y0), .val (.int y1), .val (.int y2), .val (.int y3), .val (.int (4 : Int32)), .val (.int z0), .val (.int z1), .val (.int z2), .val (.int z3), .val (.ref b39), .val (.int (2 : Int32)), .val (.int (1 : Int32)), .unset] [(.int (1 : Int32))])) t
          refine XS.ifYes X43.here hx rfl (pc0 := 87) (pc' := 92) rfl (hb hby at_87) rfl ((if0 _ _).trans (feq ((by decide) : ¬ ((1 : Int32) = (0 : Int32)))).2) (by decide) (by decide) ?_
          show Steps p.tables e below (T43.setTop (mkF m 92 #[.val (.int le), .val (.int y0), .val (.int y1), .val (.int y2), .val (.int y3), .val (.int (4 : Int32)), .val (.int z0), .val (.int z1), .val (.int z2), .val (.int z3), .val (.ref b39), .val (.int (2 : Int32)), .val (.int (1 : Int32)), .unset] [])) t
          refine XS.aload X43.here hx rfl (hb hby at_92) rfl rfl ?_
          show Steps p.tables e below (T43.setTop (mkF m 94 #[.val (.int le), .val (.int y0), .val (.int y1), .val (.int y2), .val (.int y3), .val (.int (4 : Int32)), .val (.int z0), .val (.int z1), .val (.int z2), .val (.int z3), .val (.ref b39), .val (.int (2 : Int32)), .val (.int (1 : Int32)), .unset] [(.ref b39)])) t
          refine st44.trans ?_
          show Steps p.tables e below (T44.setTop (mkF m 97 #[.val (.int le), .val (.int y0), .val (.int y1), .val (.int y2), .val (.int y3), .val (.int (4 : Int32)), .val (.int z0), .val (.int z1), .val (.int z2), .val (.int z3), .val (.ref b39), .val (.int (2 : Int32)), .val (.int (1 : Int32)), .unset] [(.ref b39)])) t
          refine XS.astore X44.here hx rfl (hb hby at_97) rfl rfl (l' := #[.val (.int le), .val (.int y0), .val (.int y1), .val (.int y2), .val (.int y3), .val (.int (4 : Int32)), .val (.int z0), .val (.int z1), .val (.int z2), .val (.int z3), .val (.ref b39), .val (.int (2 : Int32)), .val (.int (1 : Int32)), .val (.ref b39)]) rfl ?_
          show Steps p.tables e below (T44.setTop (mkF m 99 #[.val (.int le), .val (.int y0), .val (.int y1), .val (.int y2), .val (.int y3), .val (.int (4 : Int32)), .val (.int z0), .val (.int z1), .val (.int z2), .val (.int z3), .val (.ref b39), .val (.int (2 : Int32)), .val (.int (1 : Int32)), .val (.ref b39)] [])) t
          refine XS.aload X44.here hx rfl (hb hby at_99) rfl rfl ?_
          show Steps p.tables e below (T44.setTop (mkF m 101 #[.val (.int le), .val (.int y0), .val (.int y1), .val (.int y2), .val (.int y3), .val (.int (4 : Int32)), .val (.int z0), .val (.int z1), .val (.int z2), .val (.int z3), .val (.ref b39), .val (.int (2 : Int32)), .val (.int (1 : Int32)), .val (.ref b39)] [(.ref b39)])) t
          refine XS.aload X44.here hx rfl (hb hby at_101) rfl rfl ?_
          show Steps p.tables e below (T44.setTop (mkF m 103 #[.val (.int le), .val (.int y0), .val (.int y1), .val (.int y2), .val (.int y3), .val (.int (4 : Int32)), .val (.int z0), .val (.int z1), .val (.int z2), .val (.int z3), .val (.ref b39), .val (.int (2 : Int32)), .val (.int (1 : Int32)), .val (.ref b39)] [(.ref b39), (.ref b39)])) t
          refine Jvm.RoadKit.acmp (g := (mkF m 103 #[.val (.int le), .val (.int y0), .val (.int y1), .val (.int y2), .val (.int y3), .val (.int (4 : Int32)), .val (.int z0), .val (.int z1), .val (.int z2), .val (.int z3), .val (.ref b39), .val (.int (2 : Int32)), .val (.int (1 : Int32)), .val (.ref b39)] [(.ref b39), (.ref b39)])) X44 hx rfl rfl rfl (pc0 := 103) (pc' := 106) (same := true) rfl (hb hby at_103) rfl (decide_eq_true (congrArg Value.ref rfl)) (by decide) (by decide) ?_
          show Steps p.tables e below (T44.setTop (mkF m 106 #[.val (.int le), .val (.int y0), .val (.int y1), .val (.int y2), .val (.int y3), .val (.int (4 : Int32)), .val (.int z0), .val (.int z1), .val (.int z2), .val (.int z3), .val (.ref b39), .val (.int (2 : Int32)), .val (.int (1 : Int32)), .val (.ref b39)] [])) t
          refine XS.iconst X44.here hx rfl (hb hby at_106) ?_
          show Steps p.tables e below (T44.setTop (mkF m 107 #[.val (.int le), .val (.int y0), .val (.int y1), .val (.int y2), .val (.int y3), .val (.int (4 : Int32)), .val (.int z0), .val (.int z1), .val (.int z2), .val (.int z3), .val (.ref b39), .val (.int (2 : Int32)), .val (.int (1 : Int32)), .val (.ref b39)] [(.int (1 : Int32))])) t
          refine XS.goto X44.here hx rfl (pc0 := 107) (pc' := 111) rfl (hb hby at_107) (by decide) (by decide) ?_
          exact k
        obtain ⟨fs, hr, hrun, hended, hRW⟩ := X44.leaveW hS44 hk44 (v := some (.int (1 : Int32))) (fun h => by rw [Bd.returns] at h; cases h)
        refine ⟨_, _, R45 _ ?_, hrun, hended, _, _, rfl, ?_, hRW.1, hRW.2.1, hRW.2.2.1, hRW.2.2.2.mono (by decide) (by decide)⟩
        · show Steps p.tables e below (T44.setTop (mkF m 111 #[.val (.int le), .val (.int y0), .val (.int y1), .val (.int y2), .val (.int y3), .val (.int (4 : Int32)), .val (.int z0), .val (.int z1), .val (.int z2), .val (.int z3), .val (.ref b39), .val (.int (2 : Int32)), .val (.int (1 : Int32)), .val (.ref b39)] [(.int (1 : Int32))])) _
          exact retN X44 hx (t := .boolean) Bd.returns (by simp) (hb hby at_111) hr
        · show Q_rm0 Z zCS le y0 y1 y2 y3 h0 n0 _ T44.heap _
          exact ⟨rfl, N44⟩
      · by_cases hz1 : z1 = (46 : Int32)
        · obtain ⟨_, _, ⟨T46, L46, k46, n46⟩, -, X46, ⟨Lc46, hQ46, cl_46, cy_46, cz_46⟩, st46⟩ := Jvm.LawKit.callS X39 hx (y := (⟨"com/example/wiring_from_blueprints/wiringfromblueprints/internal/StaticFieldCheckedPinLaw", "lastDot", "(ICCCC)I"⟩ : MethodName)) hown0 (mvT hZ0 (hw _ (List.mem_of_getElem? (i := 30) rfl))) (mvT hZ0 (hw _ (List.mem_of_getElem? (i := 31) rfl))) (mvT hZ0 (hw _ (List.mem_of_getElem? (i := 3) rfl))) (mvT hZ0 (hw _ (List.mem_of_getElem? (i := 32) rfl))) (by decide) (backOf (W := 0) (ld4_1 l Z a0 hw [] zCS z0 z1 z2 z3 T39.heap n0 O39 S_CS hCS hcH hcW   hz3 hz2 hz1) hZ0 (hw _ (List.mem_of_getElem? (i := 32) rfl)) (hw _ (List.mem_of_getElem? (i := 3) rfl)) (by decide) (by decide)) (g := (mkF m 58 #[.val (.int le), .val (.int y0), .val (.int y1), .val (.int y2), .val (.int y3), .val (.int (4 : Int32)), .val (.int z0), .val (.int z1), .val (.int z2), .val (.int z3), .val (.ref b39), .unset, .unset, .unset] [(.int z3), (.int z2), (.int z1), (.int z0), (.int (4 : Int32))])) rfl (by rw [hml]; rfl) (argsL := [(.int (4 : Int32)), (.int z0), (.int z1), (.int z2), (.int z3)]) (rest := []) (lenOf pd_12 rfl) rfl (by show 2 * 0 + _ ≤ _; exact Nat.le_of_eq rfl) (hb hby at_58) (fun _ _ => ⟨rfl, rfl, (by decide : 3 + 0 ≤ _), (by decide : 12 + 0 ≤ _)⟩)
          dsimp only [Pt.U, Pt.locs, Pt.cells, Pt.slots] at X46 cl_46 cy_46 cz_46 st46 hQ46
          rw [cl_46, cy_46, cz_46] at X46
          obtain ⟨rfl, N46q, e46⟩ := hQ46
          have N46 := Fr.app N39 N46q
          obtain ⟨_, _, ⟨T47, L47, k47, n47⟩, -, X47q, hS47q, hg47q, ⟨Lc47, hQ47, cl_47, cy_47, cz_47⟩, st47⟩ := callSS X46 hx (y := (⟨"com/example/wiring_from_blueprints/wiringfromblueprints/internal/StaticField", "checked", "(Ljava/lang/String;)Ljava/lang/String;"⟩ : MethodName)) hown0 (mvT hZ0 (hw _ (List.mem_of_getElem? (i := 44) rfl))) (mvT hZ0 (hw _ (List.mem_of_getElem? (i := 45) rfl))) (mvT hZ0 (hw _ (List.mem_of_getElem? (i := 46) rfl))) (mvT hZ0 (hw _ (List.mem_of_getElem? (i := 47) rfl))) (by decide) (backOfS (W := 0) (checked4_1 l Z a0 hw [] zCS b39 tt39 kb39 ((nar .char z0).toInt8.toInt32) ((nar .char z1).toInt8.toInt32) ((nar .char z2).toInt8.toInt32) ((nar .char z3).toInt8.toInt32) T39.heap n0 O39 S_CS hCS hcH hcW   y39_0 y39_1 y39_2 y39_3 (fun q => hz3 ((own_b46 y4_0).1 q)) (fun q => hz2 ((own_b46 y3_0).1 q)) ((own_b46 y2_0).2 hz1)) hZ0 (hw _ (List.mem_of_getElem? (i := 47) rfl)) (hw _ (List.mem_of_getElem? (i := 46) rfl)) (by decide) (by decide)) (g := (mkF m 94 #[.val (.int le), .val (.int y0), .val (.int y1), .val (.int y2), .val (.int y3), .val (.int (4 : Int32)), .val (.int z0), .val (.int z1), .val (.int z2), .val (.int z3), .val (.ref b39), .val (.int (1 : Int32)), .val (.int (1 : Int32)), .unset] [(.ref b39)])) rfl (by rw [hml]; rfl) (argsL := [(.ref b39)]) (rest := []) (lenOf pd_13 rfl) rfl (by show 2 * 0 + _ ≤ _; exact Nat.le_of_eq rfl) (hb hby at_94) (fun _ _ => ⟨rfl, e46, (by decide : 3 + 2 ≤ _), (by decide : 12 + 48 ≤ _)⟩)
          dsimp only [Pt.U, Pt.locs, Pt.cells, Pt.slots] at X47q cl_47 cy_47 cz_47 st47 hQ47 hS47q hg47q
          rw [cl_47, cy_47, cz_47] at X47q
          obtain ⟨X47, hS47, hZ47, hown47⟩ := rebS hS0 (by rw [e46]; exact hk39) X47q hS47q hg47q hZ0 hown0
          have hk47 := Nat.le_refl T47.heap.size
          obtain ⟨rfl, N47q, K47q⟩ := hQ47
          have N47 := Fr.app N46 N47q
          have Z47 : n0 ≤ T47.heap.size := Nat.le_trans Z39 K47q.1
          have K47 : Keep h0 T47.heap [] := K39.trans K47q all0
          have O47 : Old Z n0 T47.heap := O39.keep K47q all0
          have R48 : ∀ t, Steps p.tables e below (T47.setTop (mkF m 111 #[.val (.int le), .val (.int y0), .val (.int y1), .val (.int y2), .val (.int y3), .val (.int (4 : Int32)), .val (.int z0), .val (.int z1), .val (.int z2), .val (.int z3), .val (.ref b39), .val (.int (1 : Int32)), .val (.int (1 : Int32)), .val (.ref b39)] [(.int (1 : Int32))])) t → Steps p.tables e below (s₁.setTop (entryFrame m #[(.int le), (.int y0), (.int y1), (.int y2), (.int y3)] maxLocals)) t := by
            intro t k
            refine R40 t ?_
            show Steps p.tables e below (T39.setTop (mkF m 58 #[.val (.int le), .val (.int y0), .val (.int y1), .val (.int y2), .val (.int y3), .val (.int (4 : Int32)), .val (.int z0), .val (.int z1), .val (.int z2), .val (.int z3), .val (.ref b39), .unset, .unset, .unset] [(.int z3), (.int z2), (.int z1), (.int z0), (.int (4 : Int32))])) t
            refine st46 _ ?_
            show Steps p.tables e below (T46.setTop (mkF m 61 #[.val (.int le), .val (.int y0), .val (.int y1), .val (.int y2), .val (.int y3), .val (.int (4 : Int32)), .val (.int z0), .val (.int z1), .val (.int z2), .val (.int z3), .val (.ref b39), .unset, .unset, .unset] [(.int (1 : Int32))])) t
            refine XS.istore X46.here hx rfl (hb hby at_61) rfl (l' := #[.val (.int le), .val (.int y0), .val (.int y1), .val (.int y2), .val (.int y3), .val (.int (4 : Int32)), .val (.int z0), .val (.int z1), .val (.int z2), .val (.int z3), .val (.ref b39), .val (.int (1 : Int32)), .unset, .unset]) rfl ?_
            show Steps p.tables e below (T46.setTop (mkF m 63 #[.val (.int le), .val (.int y0), .val (.int y1), .val (.int y2), .val (.int y3), .val (.int (4 : Int32)), .val (.int z0), .val (.int z1), .val (.int z2), .val (.int z3), .val (.ref b39), .val (.int (1 : Int32)), .unset, .unset] [])) t
            refine XS.iload X46.here hx rfl (hb hby at_63) rfl ?_
            show Steps p.tables e below (T46.setTop (mkF m 65 #[.val (.int le), .val (.int y0), .val (.int y1), .val (.int y2), .val (.int y3), .val (.int (4 : Int32)), .val (.int z0), .val (.int z1), .val (.int z2), .val (.int z3), .val (.ref b39), .val (.int (1 : Int32)), .unset, .unset] [(.int (1 : Int32))])) t
            refine XS.iconst X46.here hx rfl (hb hby at_65) ?_
            show Steps p.tables e below (T46.setTop (mkF m 66 #[.val (.int le), .val (.int y0), .val (.int y1), .val (.int y2), .val (.int y3), .val (.int (4 : Int32)), .val (.int z0), .val (.int z1), .val (.int z2), .val (.int z3), .val (.ref b39), .val (.int (1 : Int32)), .unset, .unset] [(.int (1 : Int32)), (.int (1 : Int32))])) t
            refine XS.icmpNo X46.here hx rfl (hb hby at_66) rfl (flt ((by decide) : ¬ ((1 : Int32) < (1 : Int32)))).1 ?_
            show Steps p.tables e below (T46.setTop (mkF m 69 #[.val (.int le), .val (.int y0), .val (.int y1), .val (.int y2), .val (.int y3), .val (.int (4 : Int32)), .val (.int z0), .val (.int z1), .val (.int z2), .val (.int z3), .val (.ref b39), .val (.int (1 : Int32)), .unset, .unset] [])) t
            refine XS.iload X46.here hx rfl (hb hby at_69) rfl ?_
            show Steps p.tables e below (T46.setTop (mkF m 71 #[.val (.int le), .val (.int y0), .val (.int y1), .val (.int y2), .val (.int y3), .val (.int (4 : Int32)), .val (.int z0), .val (.int z1), .val (.int z2), .val (.int z3), .val (.ref b39), .val (.int (1 : Int32)), .unset, .unset] [(.int (1 : Int32))])) t
            refine XS.iload X46.here hx rfl (hb hby at_71) rfl ?_
            show Steps p.tables e below (T46.setTop (mkF m 73 #[.val (.int le), .val (.int y0), .val (.int y1), .val (.int y2), .val (.int y3), .val (.int (4 : Int32)), .val (.int z0), .val (.int z1), .val (.int z2), .val (.int z3), .val (.ref b39), .val (.int (1 : Int32)), .unset, .unset] [(.int (4 : Int32)), (.int (1 : Int32))])) t
            refine XS.iconst X46.here hx rfl (hb hby at_73) ?_
            show Steps p.tables e below (T46.setTop (mkF m 74 #[.val (.int le), .val (.int y0), .val (.int y1), .val (.int y2), .val (.int y3), .val (.int (4 : Int32)), .val (.int z0), .val (.int z1), .val (.int z2), .val (.int z3), .val (.ref b39), .val (.int (1 : Int32)), .unset, .unset] [(.int (1 : Int32)), (.int (4 : Int32)), (.int (1 : Int32))])) t
            refine XS.isub X46.here hx rfl (hb hby at_74) rfl ?_
            show Steps p.tables e below (T46.setTop (mkF m 75 #[.val (.int le), .val (.int y0), .val (.int y1), .val (.int y2), .val (.int y3), .val (.int (4 : Int32)), .val (.int z0), .val (.int z1), .val (.int z2), .val (.int z3), .val (.ref b39), .val (.int (1 : Int32)), .unset, .unset] [(.int ((4 : Int32) - (1 : Int32))), (.int (1 : Int32))])) t
            rw [show ((4 : Int32) - (1 : Int32)) = (3 : Int32) from by decide]
            show Steps p.tables e below (T46.setTop (mkF m 75 #[.val (.int le), .val (.int y0), .val (.int y1), .val (.int y2), .val (.int y3), .val (.int (4 : Int32)), .val (.int z0), .val (.int z1), .val (.int z2), .val (.int z3), .val (.ref b39), .val (.int (1 : Int32)), .unset, .unset] [(.int (3 : Int32)), (.int (1 : Int32))])) t
            refine XS.icmpNo X46.here hx rfl (hb hby at_75) rfl (feq ((by decide) : ¬ ((1 : Int32) = (3 : Int32)))).1 ?_
            show Steps p.tables e below (T46.setTop (mkF m 78 #[.val (.int le), .val (.int y0), .val (.int y1), .val (.int y2), .val (.int y3), .val (.int (4 : Int32)), .val (.int z0), .val (.int z1), .val (.int z2), .val (.int z3), .val (.ref b39), .val (.int (1 : Int32)), .unset, .unset] [])) t
            refine XS.iconst X46.here hx rfl (hb hby at_78) ?_
            show Steps p.tables e below (T46.setTop (mkF m 79 #[.val (.int le), .val (.int y0), .val (.int y1), .val (.int y2), .val (.int y3), .val (.int (4 : Int32)), .val (.int z0), .val (.int z1), .val (.int z2), .val (.int z3), .val (.ref b39), .val (.int (1 : Int32)), .unset, .unset] [(.int (1 : Int32))])) t
            refine XS.goto X46.here hx rfl (pc0 := 79) (pc' := 83) rfl (hb hby at_79) (by decide) (by decide) ?_
            show Steps p.tables e below (T46.setTop (mkF m 83 #[.val (.int le), .val (.int y0), .val (.int y1), .val (.int y2), .val (.int y3), .val (.int (4 : Int32)), .val (.int z0), .val (.int z1), .val (.int z2), .val (.int z3), .val (.ref b39), .val (.int (1 : Int32)), .unset, .unset] [(.int (1 : Int32))])) t
            refine XS.istore X46.here hx rfl (hb hby at_83) rfl (l' := #[.val (.int le), .val (.int y0), .val (.int y1), .val (.int y2), .val (.int y3), .val (.int (4 : Int32)), .val (.int z0), .val (.int z1), .val (.int z2), .val (.int z3), .val (.ref b39), .val (.int (1 : Int32)), .val (.int (1 : Int32)), .unset]) rfl ?_
            show Steps p.tables e below (T46.setTop (mkF m 85 #[.val (.int le), .val (.int y0), .val (.int y1), .val (.int y2), .val (.int y3), .val (.int (4 : Int32)), .val (.int z0), .val (.int z1), .val (.int z2), .val (.int z3), .val (.ref b39), .val (.int (1 : Int32)), .val (.int (1 : Int32)), .unset] [])) t
            refine XS.iload X46.here hx rfl (hb hby at_85) rfl ?_
            show Steps p.tables e below (T46.setTop (mkF m 87 #[.val (.int le), .val (.int y0), .val (.int y1), .val (.int y2), .val (.int y3), .val (.int (4 : Int32)), .val (.int z0), .val (.int z1), .val (.int z2), .val (.int z3), .val (.ref b39), .val (.int (1 : Int32)), .val (.int (1 : Int32)), .unset] [(.int (1 : Int32))])) t
            refine XS.ifYes X46.here hx rfl (pc0 := 87) (pc' := 92) rfl (hb hby at_87) rfl ((if0 _ _).trans (feq ((by decide) : ¬ ((1 : Int32) = (0 : Int32)))).2) (by decide) (by decide) ?_
            show Steps p.tables e below (T46.setTop (mkF m 92 #[.val (.int le), .val (.int y0), .val (.int y1), .val (.int y2), .val (.int y3), .val (.int (4 : Int32)), .val (.int z0), .val (.int z1), .val (.int z2), .val (.int z3), .val (.ref b39), .val (.int (1 : Int32)), .val (.int (1 : Int32)), .unset] [])) t
            refine XS.aload X46.here hx rfl (hb hby at_92) rfl rfl ?_
            show Steps p.tables e below (T46.setTop (mkF m 94 #[.val (.int le), .val (.int y0), .val (.int y1), .val (.int y2), .val (.int y3), .val (.int (4 : Int32)), .val (.int z0), .val (.int z1), .val (.int z2), .val (.int z3), .val (.ref b39), .val (.int (1 : Int32)), .val (.int (1 : Int32)), .unset] [(.ref b39)])) t
            refine st47.trans ?_
            show Steps p.tables e below (T47.setTop (mkF m 97 #[.val (.int le), .val (.int y0), .val (.int y1), .val (.int y2), .val (.int y3), .val (.int (4 : Int32)), .val (.int z0), .val (.int z1), .val (.int z2), .val (.int z3), .val (.ref b39), .val (.int (1 : Int32)), .val (.int (1 : Int32)), .unset] [(.ref b39)])) t
            refine XS.astore X47.here hx rfl (hb hby at_97) rfl rfl (l' := #[.val (.int le), .val (.int y0), .val (.int y1), .val (.int y2), .val (.int y3), .val (.int (4 : Int32)), .val (.int z0), .val (.int z1), .val (.int z2), .val (.int z3), .val (.ref b39), .val (.int (1 : Int32)), .val (.int (1 : Int32)), .val (.ref b39)]) rfl ?_
            show Steps p.tables e below (T47.setTop (mkF m 99 #[.val (.int le), .val (.int y0), .val (.int y1), .val (.int y2), .val (.int y3), .val (.int (4 : Int32)), .val (.int z0), .val (.int z1), .val (.int z2), .val (.int z3), .val (.ref b39), .val (.int (1 : Int32)), .val (.int (1 : Int32)), .val (.ref b39)] [])) t
            refine XS.aload X47.here hx rfl (hb hby at_99) rfl rfl ?_
            show Steps p.tables e below (T47.setTop (mkF m 101 #[.val (.int le), .val (.int y0), .val (.int y1), .val (.int y2), .val (.int y3), .val (.int (4 : Int32)), .val (.int z0), .val (.int z1), .val (.int z2), .val (.int z3), .val (.ref b39), .val (.int (1 : Int32)), .val (.int (1 : Int32)), .val (.ref b39)] [(.ref b39)])) t
            refine XS.aload X47.here hx rfl (hb hby at_101) rfl rfl ?_
            show Steps p.tables e below (T47.setTop (mkF m 103 #[.val (.int le), .val (.int y0), .val (.int y1), .val (.int y2), .val (.int y3), .val (.int (4 : Int32)), .val (.int z0), .val (.int z1), .val (.int z2), .val (.int z3), .val (.ref b39), .val (.int (1 : Int32)), .val (.int (1 : Int32)), .val (.ref b39)] [(.ref b39), (.ref b39)])) t
            refine Jvm.RoadKit.acmp (g := (mkF m 103 #[.val (.int le), .val (.int y0), .val (.int y1), .val (.int y2), .val (.int y3), .val (.int (4 : Int32)), .val (.int z0), .val (.int z1), .val (.int z2), .val (.int z3), .val (.ref b39), .val (.int (1 : Int32)), .val (.int (1 : Int32)), .val (.ref b39)] [(.ref b39), (.ref b39)])) X47 hx rfl rfl rfl (pc0 := 103) (pc' := 106) (same := true) rfl (hb hby at_103) rfl (decide_eq_true (congrArg Value.ref rfl)) (by decide) (by decide) ?_
            show Steps p.tables e below (T47.setTop (mkF m 106 #[.val (.int le), .val (.int y0), .val (.int y1), .val (.int y2), .val (.int y3), .val (.int (4 : Int32)), .val (.int z0), .val (.int z1), .val (.int z2), .val (.int z3), .val (.ref b39), .val (.int (1 : Int32)), .val (.int (1 : Int32)), .val (.ref b39)] [])) t
            refine XS.iconst X47.here hx rfl (hb hby at_106) ?_
            show Steps p.tables e below (T47.setTop (mkF m 107 #[.val (.int le), .val (.int y0), .val (.int y1), .val (.int y2), .val (.int y3), .val (.int (4 : Int32)), .val (.int z0), .val (.int z1), .val (.int z2), .val (.int z3), .val (.ref b39), .val (.int (1 : Int32)), .val (.int (1 : Int32)), .val (.ref b39)] [(.int (1 : Int32))])) t
            refine XS.goto X47.here hx rfl (pc0 := 107) (pc' := 111) rfl (hb hby at_107) (by decide) (by decide) ?_
            exact k
          obtain ⟨fs, hr, hrun, hended, hRW⟩ := X47.leaveW hS47 hk47 (v := some (.int (1 : Int32))) (fun h => by rw [Bd.returns] at h; cases h)
          refine ⟨_, _, R48 _ ?_, hrun, hended, _, _, rfl, ?_, hRW.1, hRW.2.1, hRW.2.2.1, hRW.2.2.2.mono (by decide) (by decide)⟩
          · show Steps p.tables e below (T47.setTop (mkF m 111 #[.val (.int le), .val (.int y0), .val (.int y1), .val (.int y2), .val (.int y3), .val (.int (4 : Int32)), .val (.int z0), .val (.int z1), .val (.int z2), .val (.int z3), .val (.ref b39), .val (.int (1 : Int32)), .val (.int (1 : Int32)), .val (.ref b39)] [(.int (1 : Int32))])) _
            exact retN X47 hx (t := .boolean) Bd.returns (by simp) (hb hby at_111) hr
          · show Q_rm0 Z zCS le y0 y1 y2 y3 h0 n0 _ T47.heap _
            exact ⟨rfl, N47⟩
        · by_cases hz0 : z0 = (46 : Int32)
          · obtain ⟨_, _, ⟨T49, L49, k49, n49⟩, -, X49, ⟨Lc49, hQ49, cl_49, cy_49, cz_49⟩, st49⟩ := Jvm.LawKit.callS X39 hx (y := (⟨"com/example/wiring_from_blueprints/wiringfromblueprints/internal/StaticFieldCheckedPinLaw", "lastDot", "(ICCCC)I"⟩ : MethodName)) hown0 (mvT hZ0 (hw _ (List.mem_of_getElem? (i := 30) rfl))) (mvT hZ0 (hw _ (List.mem_of_getElem? (i := 31) rfl))) (mvT hZ0 (hw _ (List.mem_of_getElem? (i := 3) rfl))) (mvT hZ0 (hw _ (List.mem_of_getElem? (i := 32) rfl))) (by decide) (backOf (W := 0) (ld4_0 l Z a0 hw [] zCS z0 z1 z2 z3 T39.heap n0 O39 S_CS hCS hcH hcW   hz3 hz2 hz1 hz0) hZ0 (hw _ (List.mem_of_getElem? (i := 32) rfl)) (hw _ (List.mem_of_getElem? (i := 3) rfl)) (by decide) (by decide)) (g := (mkF m 58 #[.val (.int le), .val (.int y0), .val (.int y1), .val (.int y2), .val (.int y3), .val (.int (4 : Int32)), .val (.int z0), .val (.int z1), .val (.int z2), .val (.int z3), .val (.ref b39), .unset, .unset, .unset] [(.int z3), (.int z2), (.int z1), (.int z0), (.int (4 : Int32))])) rfl (by rw [hml]; rfl) (argsL := [(.int (4 : Int32)), (.int z0), (.int z1), (.int z2), (.int z3)]) (rest := []) (lenOf pd_12 rfl) rfl (by show 2 * 0 + _ ≤ _; exact Nat.le_of_eq rfl) (hb hby at_58) (fun _ _ => ⟨rfl, rfl, (by decide : 3 + 0 ≤ _), (by decide : 12 + 0 ≤ _)⟩)
            dsimp only [Pt.U, Pt.locs, Pt.cells, Pt.slots] at X49 cl_49 cy_49 cz_49 st49 hQ49
            rw [cl_49, cy_49, cz_49] at X49
            obtain ⟨rfl, N49q, e49⟩ := hQ49
            have N49 := Fr.app N39 N49q
            have R50 : ∀ t, Steps p.tables e below (T49.setTop (mkF m 91 #[.val (.int le), .val (.int y0), .val (.int y1), .val (.int y2), .val (.int y3), .val (.int (4 : Int32)), .val (.int z0), .val (.int z1), .val (.int z2), .val (.int z3), .val (.ref b39), .val (.int (0 : Int32)), .val (.int (0 : Int32)), .unset] [(.int (1 : Int32))])) t → Steps p.tables e below (s₁.setTop (entryFrame m #[(.int le), (.int y0), (.int y1), (.int y2), (.int y3)] maxLocals)) t := by
              intro t k
              refine R40 t ?_
              show Steps p.tables e below (T39.setTop (mkF m 58 #[.val (.int le), .val (.int y0), .val (.int y1), .val (.int y2), .val (.int y3), .val (.int (4 : Int32)), .val (.int z0), .val (.int z1), .val (.int z2), .val (.int z3), .val (.ref b39), .unset, .unset, .unset] [(.int z3), (.int z2), (.int z1), (.int z0), (.int (4 : Int32))])) t
              refine st49 _ ?_
              show Steps p.tables e below (T49.setTop (mkF m 61 #[.val (.int le), .val (.int y0), .val (.int y1), .val (.int y2), .val (.int y3), .val (.int (4 : Int32)), .val (.int z0), .val (.int z1), .val (.int z2), .val (.int z3), .val (.ref b39), .unset, .unset, .unset] [(.int (0 : Int32))])) t
              refine XS.istore X49.here hx rfl (hb hby at_61) rfl (l' := #[.val (.int le), .val (.int y0), .val (.int y1), .val (.int y2), .val (.int y3), .val (.int (4 : Int32)), .val (.int z0), .val (.int z1), .val (.int z2), .val (.int z3), .val (.ref b39), .val (.int (0 : Int32)), .unset, .unset]) rfl ?_
              show Steps p.tables e below (T49.setTop (mkF m 63 #[.val (.int le), .val (.int y0), .val (.int y1), .val (.int y2), .val (.int y3), .val (.int (4 : Int32)), .val (.int z0), .val (.int z1), .val (.int z2), .val (.int z3), .val (.ref b39), .val (.int (0 : Int32)), .unset, .unset] [])) t
              refine XS.iload X49.here hx rfl (hb hby at_63) rfl ?_
              show Steps p.tables e below (T49.setTop (mkF m 65 #[.val (.int le), .val (.int y0), .val (.int y1), .val (.int y2), .val (.int y3), .val (.int (4 : Int32)), .val (.int z0), .val (.int z1), .val (.int z2), .val (.int z3), .val (.ref b39), .val (.int (0 : Int32)), .unset, .unset] [(.int (0 : Int32))])) t
              refine XS.iconst X49.here hx rfl (hb hby at_65) ?_
              show Steps p.tables e below (T49.setTop (mkF m 66 #[.val (.int le), .val (.int y0), .val (.int y1), .val (.int y2), .val (.int y3), .val (.int (4 : Int32)), .val (.int z0), .val (.int z1), .val (.int z2), .val (.int z3), .val (.ref b39), .val (.int (0 : Int32)), .unset, .unset] [(.int (1 : Int32)), (.int (0 : Int32))])) t
              refine XS.icmpYes X49.here hx rfl (pc0 := 66) (pc' := 82) rfl (hb hby at_66) rfl (tlt ((by decide) : (0 : Int32) < (1 : Int32))).1 (by decide) (by decide) ?_
              show Steps p.tables e below (T49.setTop (mkF m 82 #[.val (.int le), .val (.int y0), .val (.int y1), .val (.int y2), .val (.int y3), .val (.int (4 : Int32)), .val (.int z0), .val (.int z1), .val (.int z2), .val (.int z3), .val (.ref b39), .val (.int (0 : Int32)), .unset, .unset] [])) t
              refine XS.iconst X49.here hx rfl (hb hby at_82) ?_
              show Steps p.tables e below (T49.setTop (mkF m 83 #[.val (.int le), .val (.int y0), .val (.int y1), .val (.int y2), .val (.int y3), .val (.int (4 : Int32)), .val (.int z0), .val (.int z1), .val (.int z2), .val (.int z3), .val (.ref b39), .val (.int (0 : Int32)), .unset, .unset] [(.int (0 : Int32))])) t
              refine XS.istore X49.here hx rfl (hb hby at_83) rfl (l' := #[.val (.int le), .val (.int y0), .val (.int y1), .val (.int y2), .val (.int y3), .val (.int (4 : Int32)), .val (.int z0), .val (.int z1), .val (.int z2), .val (.int z3), .val (.ref b39), .val (.int (0 : Int32)), .val (.int (0 : Int32)), .unset]) rfl ?_
              show Steps p.tables e below (T49.setTop (mkF m 85 #[.val (.int le), .val (.int y0), .val (.int y1), .val (.int y2), .val (.int y3), .val (.int (4 : Int32)), .val (.int z0), .val (.int z1), .val (.int z2), .val (.int z3), .val (.ref b39), .val (.int (0 : Int32)), .val (.int (0 : Int32)), .unset] [])) t
              refine XS.iload X49.here hx rfl (hb hby at_85) rfl ?_
              show Steps p.tables e below (T49.setTop (mkF m 87 #[.val (.int le), .val (.int y0), .val (.int y1), .val (.int y2), .val (.int y3), .val (.int (4 : Int32)), .val (.int z0), .val (.int z1), .val (.int z2), .val (.int z3), .val (.ref b39), .val (.int (0 : Int32)), .val (.int (0 : Int32)), .unset] [(.int (0 : Int32))])) t
              refine XS.ifNo X49.here hx rfl (hb hby at_87) rfl ((if0 _ _).trans (teq ((by decide) : (0 : Int32) = (0 : Int32))).2) ?_
              show Steps p.tables e below (T49.setTop (mkF m 90 #[.val (.int le), .val (.int y0), .val (.int y1), .val (.int y2), .val (.int y3), .val (.int (4 : Int32)), .val (.int z0), .val (.int z1), .val (.int z2), .val (.int z3), .val (.ref b39), .val (.int (0 : Int32)), .val (.int (0 : Int32)), .unset] [])) t
              refine XS.iconst X49.here hx rfl (hb hby at_90) ?_
              exact k
            obtain ⟨fs, hr, hrun, hended, hRW⟩ := X49.leaveW hS0 (by rw [e49]; exact hk39) (v := some (.int (1 : Int32))) (fun h => by rw [Bd.returns] at h; cases h)
            refine ⟨_, _, R50 _ ?_, hrun, hended, _, _, rfl, ?_, hRW.1, hRW.2.1, hRW.2.2.1, hRW.2.2.2.mono (by decide) (by decide)⟩
            · show Steps p.tables e below (T49.setTop (mkF m 91 #[.val (.int le), .val (.int y0), .val (.int y1), .val (.int y2), .val (.int y3), .val (.int (4 : Int32)), .val (.int z0), .val (.int z1), .val (.int z2), .val (.int z3), .val (.ref b39), .val (.int (0 : Int32)), .val (.int (0 : Int32)), .unset] [(.int (1 : Int32))])) _
              exact retN X49 hx (t := .boolean) Bd.returns (by simp) (hb hby at_91) hr
            · show Q_rm0 Z zCS le y0 y1 y2 y3 h0 n0 _ T49.heap _
              rw [e49]
              exact ⟨rfl, N49⟩
          · obtain ⟨_, _, ⟨T51, L51, k51, n51⟩, -, X51, ⟨Lc51, hQ51, cl_51, cy_51, cz_51⟩, st51⟩ := Jvm.LawKit.callS X39 hx (y := (⟨"com/example/wiring_from_blueprints/wiringfromblueprints/internal/StaticFieldCheckedPinLaw", "lastDot", "(ICCCC)I"⟩ : MethodName)) hown0 (mvT hZ0 (hw _ (List.mem_of_getElem? (i := 30) rfl))) (mvT hZ0 (hw _ (List.mem_of_getElem? (i := 31) rfl))) (mvT hZ0 (hw _ (List.mem_of_getElem? (i := 3) rfl))) (mvT hZ0 (hw _ (List.mem_of_getElem? (i := 32) rfl))) (by decide) (backOf (W := 0) (ld4_m l Z a0 hw [] zCS z0 z1 z2 z3 T39.heap n0 O39 S_CS hCS hcH hcW   hz3 hz2 hz1 hz0) hZ0 (hw _ (List.mem_of_getElem? (i := 32) rfl)) (hw _ (List.mem_of_getElem? (i := 3) rfl)) (by decide) (by decide)) (g := (mkF m 58 #[.val (.int le), .val (.int y0), .val (.int y1), .val (.int y2), .val (.int y3), .val (.int (4 : Int32)), .val (.int z0), .val (.int z1), .val (.int z2), .val (.int z3), .val (.ref b39), .unset, .unset, .unset] [(.int z3), (.int z2), (.int z1), (.int z0), (.int (4 : Int32))])) rfl (by rw [hml]; rfl) (argsL := [(.int (4 : Int32)), (.int z0), (.int z1), (.int z2), (.int z3)]) (rest := []) (lenOf pd_12 rfl) rfl (by show 2 * 0 + _ ≤ _; exact Nat.le_of_eq rfl) (hb hby at_58) (fun _ _ => ⟨rfl, rfl, (by decide : 3 + 0 ≤ _), (by decide : 12 + 0 ≤ _)⟩)
            dsimp only [Pt.U, Pt.locs, Pt.cells, Pt.slots] at X51 cl_51 cy_51 cz_51 st51 hQ51
            rw [cl_51, cy_51, cz_51] at X51
            obtain ⟨rfl, N51q, e51⟩ := hQ51
            have N51 := Fr.app N39 N51q
            have R52 : ∀ t, Steps p.tables e below (T51.setTop (mkF m 91 #[.val (.int le), .val (.int y0), .val (.int y1), .val (.int y2), .val (.int y3), .val (.int (4 : Int32)), .val (.int z0), .val (.int z1), .val (.int z2), .val (.int z3), .val (.ref b39), .val (.int (-1 : Int32)), .val (.int (0 : Int32)), .unset] [(.int (1 : Int32))])) t → Steps p.tables e below (s₁.setTop (entryFrame m #[(.int le), (.int y0), (.int y1), (.int y2), (.int y3)] maxLocals)) t := by
              intro t k
              refine R40 t ?_
              show Steps p.tables e below (T39.setTop (mkF m 58 #[.val (.int le), .val (.int y0), .val (.int y1), .val (.int y2), .val (.int y3), .val (.int (4 : Int32)), .val (.int z0), .val (.int z1), .val (.int z2), .val (.int z3), .val (.ref b39), .unset, .unset, .unset] [(.int z3), (.int z2), (.int z1), (.int z0), (.int (4 : Int32))])) t
              refine st51 _ ?_
              show Steps p.tables e below (T51.setTop (mkF m 61 #[.val (.int le), .val (.int y0), .val (.int y1), .val (.int y2), .val (.int y3), .val (.int (4 : Int32)), .val (.int z0), .val (.int z1), .val (.int z2), .val (.int z3), .val (.ref b39), .unset, .unset, .unset] [(.int (-1 : Int32))])) t
              refine XS.istore X51.here hx rfl (hb hby at_61) rfl (l' := #[.val (.int le), .val (.int y0), .val (.int y1), .val (.int y2), .val (.int y3), .val (.int (4 : Int32)), .val (.int z0), .val (.int z1), .val (.int z2), .val (.int z3), .val (.ref b39), .val (.int (-1 : Int32)), .unset, .unset]) rfl ?_
              show Steps p.tables e below (T51.setTop (mkF m 63 #[.val (.int le), .val (.int y0), .val (.int y1), .val (.int y2), .val (.int y3), .val (.int (4 : Int32)), .val (.int z0), .val (.int z1), .val (.int z2), .val (.int z3), .val (.ref b39), .val (.int (-1 : Int32)), .unset, .unset] [])) t
              refine XS.iload X51.here hx rfl (hb hby at_63) rfl ?_
              show Steps p.tables e below (T51.setTop (mkF m 65 #[.val (.int le), .val (.int y0), .val (.int y1), .val (.int y2), .val (.int y3), .val (.int (4 : Int32)), .val (.int z0), .val (.int z1), .val (.int z2), .val (.int z3), .val (.ref b39), .val (.int (-1 : Int32)), .unset, .unset] [(.int (-1 : Int32))])) t
              refine XS.iconst X51.here hx rfl (hb hby at_65) ?_
              show Steps p.tables e below (T51.setTop (mkF m 66 #[.val (.int le), .val (.int y0), .val (.int y1), .val (.int y2), .val (.int y3), .val (.int (4 : Int32)), .val (.int z0), .val (.int z1), .val (.int z2), .val (.int z3), .val (.ref b39), .val (.int (-1 : Int32)), .unset, .unset] [(.int (1 : Int32)), (.int (-1 : Int32))])) t
              refine XS.icmpYes X51.here hx rfl (pc0 := 66) (pc' := 82) rfl (hb hby at_66) rfl (tlt ((by decide) : (-1 : Int32) < (1 : Int32))).1 (by decide) (by decide) ?_
              show Steps p.tables e below (T51.setTop (mkF m 82 #[.val (.int le), .val (.int y0), .val (.int y1), .val (.int y2), .val (.int y3), .val (.int (4 : Int32)), .val (.int z0), .val (.int z1), .val (.int z2), .val (.int z3), .val (.ref b39), .val (.int (-1 : Int32)), .unset, .unset] [])) t
              refine XS.iconst X51.here hx rfl (hb hby at_82) ?_
              show Steps p.tables e below (T51.setTop (mkF m 83 #[.val (.int le), .val (.int y0), .val (.int y1), .val (.int y2), .val (.int y3), .val (.int (4 : Int32)), .val (.int z0), .val (.int z1), .val (.int z2), .val (.int z3), .val (.ref b39), .val (.int (-1 : Int32)), .unset, .unset] [(.int (0 : Int32))])) t
              refine XS.istore X51.here hx rfl (hb hby at_83) rfl (l' := #[.val (.int le), .val (.int y0), .val (.int y1), .val (.int y2), .val (.int y3), .val (.int (4 : Int32)), .val (.int z0), .val (.int z1), .val (.int z2), .val (.int z3), .val (.ref b39), .val (.int (-1 : Int32)), .val (.int (0 : Int32)), .unset]) rfl ?_
              show Steps p.tables e below (T51.setTop (mkF m 85 #[.val (.int le), .val (.int y0), .val (.int y1), .val (.int y2), .val (.int y3), .val (.int (4 : Int32)), .val (.int z0), .val (.int z1), .val (.int z2), .val (.int z3), .val (.ref b39), .val (.int (-1 : Int32)), .val (.int (0 : Int32)), .unset] [])) t
              refine XS.iload X51.here hx rfl (hb hby at_85) rfl ?_
              show Steps p.tables e below (T51.setTop (mkF m 87 #[.val (.int le), .val (.int y0), .val (.int y1), .val (.int y2), .val (.int y3), .val (.int (4 : Int32)), .val (.int z0), .val (.int z1), .val (.int z2), .val (.int z3), .val (.ref b39), .val (.int (-1 : Int32)), .val (.int (0 : Int32)), .unset] [(.int (0 : Int32))])) t
              refine XS.ifNo X51.here hx rfl (hb hby at_87) rfl ((if0 _ _).trans (teq ((by decide) : (0 : Int32) = (0 : Int32))).2) ?_
              show Steps p.tables e below (T51.setTop (mkF m 90 #[.val (.int le), .val (.int y0), .val (.int y1), .val (.int y2), .val (.int y3), .val (.int (4 : Int32)), .val (.int z0), .val (.int z1), .val (.int z2), .val (.int z3), .val (.ref b39), .val (.int (-1 : Int32)), .val (.int (0 : Int32)), .unset] [])) t
              refine XS.iconst X51.here hx rfl (hb hby at_90) ?_
              exact k
            obtain ⟨fs, hr, hrun, hended, hRW⟩ := X51.leaveW hS0 (by rw [e51]; exact hk39) (v := some (.int (1 : Int32))) (fun h => by rw [Bd.returns] at h; cases h)
            refine ⟨_, _, R52 _ ?_, hrun, hended, _, _, rfl, ?_, hRW.1, hRW.2.1, hRW.2.2.1, hRW.2.2.2.mono (by decide) (by decide)⟩
            · show Steps p.tables e below (T51.setTop (mkF m 91 #[.val (.int le), .val (.int y0), .val (.int y1), .val (.int y2), .val (.int y3), .val (.int (4 : Int32)), .val (.int z0), .val (.int z1), .val (.int z2), .val (.int z3), .val (.ref b39), .val (.int (-1 : Int32)), .val (.int (0 : Int32)), .unset] [(.int (1 : Int32))])) _
              exact retN X51 hx (t := .boolean) Bd.returns (by simp) (hb hby at_91) hr
            · show Q_rm0 Z zCS le y0 y1 y2 y3 h0 n0 _ T51.heap _
              rw [e51]
              exact ⟨rfl, N51⟩
set_option maxRecDepth 65536 in
set_option maxHeartbeats 40000000 in
theorem comes_1 {Post : Tables → Env → Array Value → State → Outcome → State → Prop} (hpost : ∀ tb e args s v u, (limb_1_1.after args s (.returned v) u = true ∧ limb_1_2.after args s (.returned v) u = true ∧ True) → ReturnedEndW s (.returned v) u (Jvm.fieldLocs frame_1_writes args s ++ Jvm.arrayLocs frame_1_arrays args s ++ Jvm.staticLocs frame_1_statics s) 24 2176 → Post tb e args s (.returned v) u) :
    ArmFor flags0 classFile x code maxLocals ret World_1 tables_1 room_1 Calls_1 rest_1 Pre_1 Post := by
  intro l hfl _ _ p e ha hc hk s m args below hf hA hF happ hP
  obtain ⟨hcalls, hrest, hpre⟩ := hP
  obtain ⟨-, -, -, hnamed, -, -, -, hat⟩ := (Spec.applies_iff hf).mp happ
  obtain ⟨hg, hn⟩ := and_e (Cond.before_iff.mp (show (Jvm.Cond.and given_1 narrow_1).before args s = true from hpre))
  obtain ⟨g1, g2⟩ := and_e hg
  obtain ⟨g3, g4⟩ := and_e g2
  obtain ⟨g5, g6⟩ := and_e g4
  obtain ⟨g7, g8⟩ := and_e g6
  obtain ⟨g9, g10⟩ := and_e g8
  obtain ⟨w0, w1, w2, w3, w4, rfl⟩ : ∃ w0 w1 w2 w3 w4 : Value, args = #[w0, w1, w2, w3, w4] := by
    have hs : args.size = 5 := by simpa [Cond.value, given_1] using g1
    obtain ⟨L⟩ := args
    match L, hs with
    | [w0, w1, w2, w3, w4], _ => exact ⟨w0, w1, w2, w3, w4, rfl⟩
  have hw := fun d (hd : d ∈ tables_1) => atoms_spec (ws := Jvm.Cond.code x code maxLocals ret :: tables_1) hat d (List.mem_cons_of_mem _ hd)
  have hfit : Fit s := fun {y c} hc i hi => by
    obtain ⟨ha, rfl⟩ := Array.getElem?_eq_some_iff.mp hc
    have q := List.all_eq_true.mp ((Array.all_eq_true_iff_forall_mem.mp hF) _ (Array.getElem_mem ha)) i (List.mem_range.mpr hi)
    simpa [Array.getElem?_eq_getElem hi] using q
  obtain ⟨hsets, hown0⟩ := atoms_of _ (rest_1_c_eq ▸ (show rest_1_c.before _ s = true from hrest))
  have hr0 := Cond.before_iff.mp hown0
  obtain ⟨i0, ei0⟩ := is_v g3
  obtain rfl : w0 = (.int i0) := Option.some.inj ei0
  obtain ⟨i1, ei1⟩ := is_v g5
  obtain rfl : w1 = (.int i1) := Option.some.inj ei1
  obtain ⟨i2, ei2⟩ := is_v g7
  obtain rfl : w2 = (.int i2) := Option.some.inj ei2
  obtain ⟨i3, ei3⟩ := is_v g9
  obtain rfl : w3 = (.int i3) := Option.some.inj ei3
  obtain ⟨i4, ei4⟩ := is_v g10
  obtain rfl : w4 = (.int i4) := Option.some.inj ei4
  obtain ⟨zCS, evCS⟩ := is_v (Cond.before_iff.mp (hsets _ (List.mem_of_getElem? (i := 1) rfl)))
  have S_CS := Sta.start evCS (Or.inl (hsets _ (List.mem_of_getElem? (i := 0) rfl)))
  have hCS : ¬ (zCS = (0 : Int32)) := gotF (Cond.eq_ints evCS (Term.int_eval 0)) (not_v (Cond.before_iff.mp (hsets _ (List.mem_of_getElem? (i := 2) rfl))))
  have hcH : Jvm.Lit.constHeld s "java/lang/String" 7 := hcalls.1 ("java/lang/String", 7) (by simp [consts_1])
  have hcW := (hsets _ (List.mem_of_getElem? (i := 2) rfl))
  obtain ⟨n, o, h1, h2, h3, _, L, rfl, ⟨rfl, N⟩, hq⟩ := rm0 l s _ hw tables_1 zCS i0 i1 i2 i3 i4 0 s.heap s.heap.size (Old.start s) S_CS hCS hcH hcW p e ha hc hk s m _ below hf ((Spec.applies_iff_loose hf).mp happ).1 ⟨rfl, ⟨State.Warmed39.refl s, LS.start IB.start⟩, rfl⟩ trivial
  refine ⟨n, _, h1, h2, h3, hpost _ _ _ _ _ _ ⟨Cond.after_iff.mpr rfl, Cond.after_iff.mpr (eq_i res_at (Term.int_eval (1)) rfl), trivial⟩ ⟨hq.1, hq.2.1, hq.2.2.1, (hq.2.2.2.sift fun y hy => Or.inr (N y hy)).mono (by decide) (by decide)⟩⟩
theorem main_1_1 : Claimed_1_1 := comes_1 fun _ _ _ _ _ _ h hF => ⟨h.1, hF⟩
theorem main_1_2 : Claimed_1_2 := comes_1 fun _ _ _ _ _ _ h hF => ⟨h.2.1, hF⟩
end Jvm.Pilot.@@N@@
namespace Jvm.Pilot.@@N@@
open Jvm Jvm.ClassFile Sem Op Lib Jvm.Free Jvm.Stand Jvm.Pilot.@@N@@.Jvm.D
/-! MADE BY PROGRAM (witnessworld.py) out of the Statement's table words and the real class files: 23 classes; the members and pool entries that the words name. The judged class is class 1, her method 4. -/
namespace start1
open Jvm.ClassFile
def u (s : String) : CpInfo := .utf8 (stringToUtf16 s)
/-- a pool by its gaps: so many unusable entries, then the entry; so many at the end -/
def gap : Nat → List CpInfo → List CpInfo
  | 0, r => r
  | n + 1, r => .unusable :: gap n r
def poolList (es : List (Nat × CpInfo)) (last : Nat) : List CpInfo := es.foldr (fun e r => gap e.1 (e.2 :: r)) (gap last [])
def pool (es : List (Nat × CpInfo)) (last : Nat) : Array CpInfo := ⟨poolList es last⟩
def fileOf (pool : Array CpInfo) (this : Nat) (attrs : Array Attribute := #[]) (ms : Array MethodInfo := #[]) (fl : Nat := 33) (sup : Nat := 0) (ifs : Array Nat := #[]) (fds : Array FieldInfo := #[]) : ClassFile where
  minorVersion := 0
  majorVersion := 65
  constantPool := pool
  accessFlags := fl
  thisClass := this
  superClass := sup
  interfaces := ifs
  fields := fds
  methods := ms
  attributes := attrs
def plain (name : String) (sup : Option ClassId) : Class where
  name := name
  kind := .ordinary
  loader := none
  accessFlags := 33
  super := sup
  interfaces := #[]
  cf := none
  fields := #[]
  methods := #[]
  instanceTypes := #[]
  staticTypes := #[]
  resolved := #[]
  callSites := []
  init := .initialized
  statics := none
  mirror := none

def pool0 : Array CpInfo := pool [(5, u "<init>"), (0, u "()V"), (1, .class_ 10), (1, u "java/lang/Object")] 113

def k0c0 : Code := { maxStack := 0, maxLocals := 1, code := object_method_1_code, exceptionTable := #[], attributes := #[] }
def k0m0 : Method := { name := "<init>", desc := "()V", sig := { parameters := [], returnType := none }, accessFlags := 1, code := some k0c0 }
/-- java/lang/Object -/
def k0 : Class := { plain "java/lang/Object" none with
  accessFlags := 33
  interfaces := #[]
  cf := some (fileOf pool0 8 #[] #[{ accessFlags := 1, nameIndex := 5, descriptorIndex := 6, attributes := #[] }] 33 0 #[] #[])
  fields := #[]
  methods := #[k0m0]
  instanceTypes := #[]
  staticTypes := #[]
  resolved := Array.replicate 124 none
  statics := none }

def pool1 : Array CpInfo := pool [(2, .class_ 4), (1, u "java/lang/Object"), (0, u "<init>"), (0, u "()V"), (0, .class_ 8), (0, u "java/lang/String"), (0, .methodref 7 10), (0, .nameAndType 5 11), (0, u "([C)V"), (0, .integer 2147483647), (0, .methodref 14 15), (0, .class_ 16), (0, .nameAndType 17 18), (0, u "com/example/wiring_from_blueprints/wiringfromblueprints/internal/StaticFieldCheckedPinLaw"), (0, u "ch"), (0, u "(I)C"), (0, .methodref 14 20), (0, .nameAndType 21 22), (0, u "build"), (0, u "(ICCCC)Ljava/lang/String;"), (0, .methodref 14 24), (0, .nameAndType 25 26), (0, u "lastDot"), (0, u "(ICCCC)I"), (0, .methodref 28 29), (0, .class_ 30), (0, .nameAndType 31 32), (0, u "com/example/wiring_from_blueprints/wiringfromblueprints/internal/StaticField"), (0, u "checked"), (0, u "(Ljava/lang/String;)Ljava/lang/String;"), (3, u "law"), (0, u "(IIIII)Z")] 2

def k1m0 : Method := { name := "<init>", desc := "()V", sig := { parameters := [], returnType := none }, accessFlags := 2, code := none }
def k1c1 : Code := { maxStack := 2, maxLocals := 1, code := method_2_code, exceptionTable := #[], attributes := #[] }
def k1m1 : Method := { name := "ch", desc := "(I)C", sig := { parameters := [.int], returnType := some .char }, accessFlags := 10, code := some k1c1 }
def k1c2 : Code := { maxStack := 2, maxLocals := 5, code := method_3_code, exceptionTable := #[], attributes := #[] }
def k1m2 : Method := { name := "lastDot", desc := "(ICCCC)I", sig := { parameters := [.int, .char, .char, .char, .char], returnType := some .int }, accessFlags := 10, code := some k1c2 }
def k1c3 : Code := { maxStack := 6, maxLocals := 5, code := method_4_code, exceptionTable := #[], attributes := #[] }
def k1m3 : Method := { name := "build", desc := "(ICCCC)Ljava/lang/String;", sig := { parameters := [.int, .char, .char, .char, .char], returnType := some (.object "java/lang/String") }, accessFlags := 10, code := some k1c3 }
def k1c4 : Code := { maxStack := 5, maxLocals := 14, code := code, exceptionTable := #[], attributes := #[] }
def k1m4 : Method := { name := "law", desc := "(IIIII)Z", sig := { parameters := [.int, .int, .int, .int, .int], returnType := some .boolean }, accessFlags := 9, code := some k1c4 }
/-- com/example/wiring_from_blueprints/wiringfromblueprints/internal/StaticFieldCheckedPinLaw -/
def k1 : Class := { plain "com/example/wiring_from_blueprints/wiringfromblueprints/internal/StaticFieldCheckedPinLaw" (some 0) with
  accessFlags := 49
  interfaces := #[]
  cf := some (fileOf pool1 14 #[] #[{ accessFlags := 2, nameIndex := 5, descriptorIndex := 6, attributes := #[] }, { accessFlags := 10, nameIndex := 17, descriptorIndex := 18, attributes := #[] }, { accessFlags := 10, nameIndex := 25, descriptorIndex := 26, attributes := #[] }, { accessFlags := 10, nameIndex := 21, descriptorIndex := 22, attributes := #[] }, { accessFlags := 9, nameIndex := 36, descriptorIndex := 37, attributes := #[] }] 49 2 #[] #[])
  fields := #[]
  methods := #[k1m0, k1m1, k1m2, k1m3, k1m4]
  instanceTypes := #[]
  staticTypes := #[]
  resolved := Array.replicate 40 none
  statics := none }

def pool2 : Array CpInfo := pool [(1, .class_ 2), (0, u "java/io/Serializable"), (0, .class_ 4), (0, u "java/lang/Object")] 2

/-- java/io/Serializable -/
def k2 : Class := { plain "java/io/Serializable" (some 0) with
  accessFlags := 1537
  interfaces := #[]
  cf := some (fileOf pool2 1 #[] #[] 1537 3 #[] #[])
  fields := #[]
  methods := #[]
  instanceTypes := #[]
  staticTypes := #[]
  resolved := Array.replicate 7 none
  statics := none }

def pool3 : Array CpInfo := pool [(1, .class_ 2), (0, u "java/lang/Comparable"), (0, .class_ 4), (0, u "java/lang/Object")] 7

/-- java/lang/Comparable -/
def k3 : Class := { plain "java/lang/Comparable" (some 0) with
  accessFlags := 1537
  interfaces := #[]
  cf := some (fileOf pool3 1 #[] #[] 1537 3 #[] #[])
  fields := #[]
  methods := #[]
  instanceTypes := #[]
  staticTypes := #[]
  resolved := Array.replicate 12 none
  statics := none }

def pool4 : Array CpInfo := pool [(2, .class_ 4), (1, u "java/lang/CharSequence"), (42, .class_ 48), (0, u "java/lang/CharSequence$1CodePointIterator"), (10, .class_ 60), (0, u "java/lang/CharSequence$1CharIterator"), (5, .class_ 67), (0, u "java/lang/Object")] 63

/-- java/lang/CharSequence -/
def k4 : Class := { plain "java/lang/CharSequence" (some 0) with
  accessFlags := 1537
  interfaces := #[]
  cf := some (fileOf pool4 2 #[.nestMembers #[47, 59]] #[] 1537 66 #[] #[])
  fields := #[]
  methods := #[]
  instanceTypes := #[]
  staticTypes := #[]
  resolved := Array.replicate 131 none
  statics := none }

def pool5 : Array CpInfo := pool [(1, .class_ 2), (0, u "java/lang/constant/Constable"), (0, .class_ 4), (0, u "java/lang/Object")] 6

/-- java/lang/constant/Constable -/
def k5 : Class := { plain "java/lang/constant/Constable" (some 0) with
  accessFlags := 1537
  interfaces := #[]
  cf := some (fileOf pool5 1 #[] #[] 1537 3 #[] #[])
  fields := #[]
  methods := #[]
  instanceTypes := #[]
  staticTypes := #[]
  resolved := Array.replicate 11 none
  statics := none }

def pool6 : Array CpInfo := pool [(1, .class_ 2), (0, u "java/lang/constant/ConstantDesc"), (0, .class_ 4), (0, u "java/lang/Object")] 32

/-- java/lang/constant/ConstantDesc -/
def k6 : Class := { plain "java/lang/constant/ConstantDesc" (some 0) with
  accessFlags := 1537
  interfaces := #[]
  cf := some (fileOf pool6 1 #[] #[] 1537 3 #[] #[])
  fields := #[]
  methods := #[]
  instanceTypes := #[]
  staticTypes := #[]
  resolved := Array.replicate 37 none
  statics := none }

def pool7 : Array CpInfo := pool [(1, .methodref 2 3), (0, .class_ 4), (0, .nameAndType 5 6), (0, u "java/lang/Object"), (0, u "<init>"), (0, u "()V"), (0, .string 8), (0, u ""), (0, .fieldref 10 11), (0, .class_ 12), (0, .nameAndType 13 14), (0, u "java/lang/String"), (0, u "value"), (0, u "[B"), (0, .fieldref 10 16), (0, .nameAndType 17 18), (0, u "coder"), (0, u "B"), (2, u "hash"), (0, u "I"), (2, u "hashIsZero"), (0, u "Z"), (0, .methodref 10 28), (0, .nameAndType 5 29), (0, u "([CIILjava/lang/Void;)V"), (8, .fieldref 10 39), (0, .nameAndType 40 26), (0, u "COMPACT_STRINGS"), (1, .class_ 44), (1, u "java/lang/StringUTF16"), (0, u "compress"), (1, .methodref 42 48), (0, .nameAndType 49 50), (0, u "coderFromArrayLen"), (0, u "([BI)B"), (46, u "([BII)I"), (9, .class_ 109), (1, u "java/lang/StringLatin1"), (32, u "()Z"), (34, .methodref 42 178), (0, .nameAndType 45 179), (0, u "([CII)[B"), (154, u "()I"), (0, .methodref 10 336), (0, .nameAndType 17 337), (0, u "()B"), (154, .methodref 10 493), (0, .nameAndType 494 142), (0, u "isLatin1"), (10, .methodref 10 506), (0, .nameAndType 507 334), (0, u "length"), (67, .class_ 576), (0, u "java/lang/CharSequence"), (22, u "CASE_INSENSITIVE_ORDER"), (0, u "Ljava/util/Comparator;"), (35, u "(II)I"), (4, .methodref 10 642), (0, .nameAndType 643 636), (0, u "lastIndexOf"), (0, .methodref 107 645), (0, .nameAndType 643 97), (119, u "(I)I"), (244, u "([C)V"), (90, u "serialPersistentFields"), (0, u "[Ljava/io/ObjectStreamField;"), (0, .class_ 1104), (0, u "java/lang/String$CaseInsensitiveComparator"), (1, .class_ 1107), (0, u "java/io/Serializable"), (0, .class_ 1109), (0, u "java/lang/Comparable"), (0, .class_ 1111), (0, u "java/lang/constant/Constable"), (0, .class_ 1113), (0, u "java/lang/constant/ConstantDesc"), (2, u "serialVersionUID"), (0, u "J"), (3, u "REPL"), (0, u "C"), (2, u "LATIN1"), (1, u "UTF16")] 323

def k7m0 : Method := { name := "<init>", desc := "()V", sig := { parameters := [], returnType := none }, accessFlags := 1, code := none }
def k7c1 : Code := { maxStack := 5, maxLocals := 2, code := jdk_42_method_3_code, exceptionTable := #[], attributes := #[] }
def k7m1 : Method := { name := "<init>", desc := "([C)V", sig := { parameters := [(.array .char)], returnType := none }, accessFlags := 1, code := some k7c1 }
def k7c2 : Code := { maxStack := 2, maxLocals := 1, code := jdk_42_method_54_code, exceptionTable := #[], attributes := #[] }
def k7m2 : Method := { name := "length", desc := "()I", sig := { parameters := [], returnType := some .int }, accessFlags := 1, code := some k7c2 }
def k7c3 : Code := { maxStack := 4, maxLocals := 2, code := jdk_42_method_82_code, exceptionTable := #[], attributes := #[] }
def k7m3 : Method := { name := "lastIndexOf", desc := "(I)I", sig := { parameters := [.int], returnType := some .int }, accessFlags := 1, code := some k7c3 }
def k7c4 : Code := { maxStack := 3, maxLocals := 3, code := jdk_42_method_83_code, exceptionTable := #[], attributes := #[] }
def k7m4 : Method := { name := "lastIndexOf", desc := "(II)I", sig := { parameters := [.int, .int], returnType := some .int }, accessFlags := 1, code := some k7c4 }
def k7c5 : Code := { maxStack := 4, maxLocals := 6, code := jdk_42_method_149_code, exceptionTable := #[], attributes := #[] }
def k7m5 : Method := { name := "<init>", desc := "([CIILjava/lang/Void;)V", sig := { parameters := [(.array .char), .int, .int, (.object "java/lang/Void")], returnType := none }, accessFlags := 2, code := some k7c5 }
def k7c6 : Code := { maxStack := 1, maxLocals := 1, code := jdk_42_method_152_code, exceptionTable := #[], attributes := #[] }
def k7m6 : Method := { name := "coder", desc := "()B", sig := { parameters := [], returnType := some .byte }, accessFlags := 0, code := some k7c6 }
def k7c7 : Code := { maxStack := 1, maxLocals := 1, code := jdk_42_method_154_code, exceptionTable := #[], attributes := #[] }
def k7m7 : Method := { name := "isLatin1", desc := "()Z", sig := { parameters := [], returnType := some .boolean }, accessFlags := 0, code := some k7c7 }
/-- java/lang/String -/
def k7 : Class := { plain "java/lang/String" (some 0) with
  accessFlags := 49
  interfaces := #[2, 3, 4, 5, 6]
  cf := some (fileOf pool7 10 #[.nestMembers #[1103]] #[{ accessFlags := 1, nameIndex := 5, descriptorIndex := 6, attributes := #[] }, { accessFlags := 1, nameIndex := 5, descriptorIndex := 1010, attributes := #[] }, { accessFlags := 1, nameIndex := 507, descriptorIndex := 334, attributes := #[] }, { accessFlags := 1, nameIndex := 643, descriptorIndex := 765, attributes := #[] }, { accessFlags := 1, nameIndex := 643, descriptorIndex := 636, attributes := #[] }, { accessFlags := 2, nameIndex := 5, descriptorIndex := 29, attributes := #[] }, { accessFlags := 0, nameIndex := 17, descriptorIndex := 337, attributes := #[] }, { accessFlags := 0, nameIndex := 494, descriptorIndex := 142, attributes := #[] }] 49 2 #[1106, 1108, 575, 1110, 1112] #[{ accessFlags := 18, nameIndex := 13, descriptorIndex := 14, attributes := #[] }, { accessFlags := 18, nameIndex := 17, descriptorIndex := 18, attributes := #[] }, { accessFlags := 2, nameIndex := 21, descriptorIndex := 22, attributes := #[] }, { accessFlags := 2, nameIndex := 25, descriptorIndex := 26, attributes := #[] }, { accessFlags := 26, nameIndex := 1116, descriptorIndex := 1117, attributes := #[] }, { accessFlags := 24, nameIndex := 40, descriptorIndex := 26, attributes := #[] }, { accessFlags := 26, nameIndex := 1101, descriptorIndex := 1102, attributes := #[] }, { accessFlags := 26, nameIndex := 1121, descriptorIndex := 1122, attributes := #[] }, { accessFlags := 25, nameIndex := 599, descriptorIndex := 600, attributes := #[] }, { accessFlags := 24, nameIndex := 1125, descriptorIndex := 18, attributes := #[] }, { accessFlags := 24, nameIndex := 1127, descriptorIndex := 18, attributes := #[] }])
  fields := #[{ name := "value", type := (.array .byte), accessFlags := 18, slot := 0, constantValue := 0 }, { name := "coder", type := .byte, accessFlags := 18, slot := 1, constantValue := 0 }, { name := "hash", type := .int, accessFlags := 2, slot := 2, constantValue := 0 }, { name := "hashIsZero", type := .boolean, accessFlags := 2, slot := 3, constantValue := 0 }, { name := "serialVersionUID", type := .long, accessFlags := 26, slot := 0, constantValue := 0 }, { name := "COMPACT_STRINGS", type := .boolean, accessFlags := 24, slot := 1, constantValue := 0 }, { name := "serialPersistentFields", type := (.array (.object "java/io/ObjectStreamField")), accessFlags := 26, slot := 2, constantValue := 0 }, { name := "REPL", type := .char, accessFlags := 26, slot := 3, constantValue := 0 }, { name := "CASE_INSENSITIVE_ORDER", type := (.object "java/util/Comparator"), accessFlags := 25, slot := 4, constantValue := 0 }, { name := "LATIN1", type := .byte, accessFlags := 24, slot := 5, constantValue := 0 }, { name := "UTF16", type := .byte, accessFlags := 24, slot := 6, constantValue := 0 }]
  methods := #[k7m0, k7m1, k7m2, k7m3, k7m4, k7m5, k7m6, k7m7]
  instanceTypes := #[(.array .byte), .byte, .int, .boolean]
  staticTypes := #[.long, .boolean, (.array (.object "java/io/ObjectStreamField")), .char, (.object "java/util/Comparator"), .byte, .byte]
  resolved := Array.replicate 1451 none
  statics := some 0 }

def pool8 : Array CpInfo := pool [(6, .class_ 8), (1, u "java/lang/Object"), (0, u "<init>"), (0, u "()V"), (1, .class_ 14), (1, u "java/lang/StringUTF16"), (31, u "$assertionsDisabled"), (0, u "Z"), (13, u "HI_BYTE_SHIFT"), (0, u "I"), (2, u "LO_BYTE_SHIFT"), (49, .methodref 12 116), (0, .nameAndType 117 118), (0, u "compress"), (0, u "([CI[BII)I"), (3, u "([CII)[B"), (138, u "coderFromArrayLen"), (0, u "([BI)B"), (106, .class_ 371), (1, u "java/lang/StringUTF16$LinesSpliterator"), (58, u "MAX_LENGTH"), (196, .class_ 628), (0, u "java/lang/StringUTF16$CodePointsSpliterator"), (0, .class_ 630), (0, u "java/lang/StringUTF16$CharsSpliterator")] 4

def k8m0 : Method := { name := "<init>", desc := "()V", sig := { parameters := [], returnType := none }, accessFlags := 0, code := none }
def k8c1 : Code := { maxStack := 2, maxLocals := 2, code := jdk_52_method_15_code, exceptionTable := #[], attributes := #[] }
def k8m1 : Method := { name := "coderFromArrayLen", desc := "([BI)B", sig := { parameters := [(.array .byte), .int], returnType := some .byte }, accessFlags := 8, code := some k8c1 }
def k8c2 : Code := { maxStack := 5, maxLocals := 6, code := jdk_52_method_16_code, exceptionTable := #[], attributes := #[] }
def k8m2 : Method := { name := "compress", desc := "([CII)[B", sig := { parameters := [(.array .char), .int, .int], returnType := some (.array .byte) }, accessFlags := 9, code := some k8c2 }
def k8c3 : Code := { maxStack := 3, maxLocals := 7, code := jdk_52_method_21_code, exceptionTable := #[], attributes := #[] }
def k8m3 : Method := { name := "compress", desc := "([CI[BII)I", sig := { parameters := [(.array .char), .int, (.array .byte), .int, .int], returnType := some .int }, accessFlags := 9, code := some k8c3 }
/-- java/lang/StringUTF16 -/
def k8 : Class := { plain "java/lang/StringUTF16" (some 0) with
  accessFlags := 48
  interfaces := #[]
  cf := some (fileOf pool8 12 #[.nestMembers #[627, 629, 369]] #[{ accessFlags := 0, nameIndex := 9, descriptorIndex := 10, attributes := #[] }, { accessFlags := 8, nameIndex := 261, descriptorIndex := 262, attributes := #[] }, { accessFlags := 9, nameIndex := 117, descriptorIndex := 122, attributes := #[] }, { accessFlags := 9, nameIndex := 117, descriptorIndex := 118, attributes := #[] }] 48 6 #[] #[{ accessFlags := 26, nameIndex := 61, descriptorIndex := 62, attributes := #[] }, { accessFlags := 26, nameIndex := 65, descriptorIndex := 62, attributes := #[] }, { accessFlags := 24, nameIndex := 430, descriptorIndex := 62, attributes := #[] }, { accessFlags := 4120, nameIndex := 46, descriptorIndex := 47, attributes := #[] }])
  fields := #[{ name := "HI_BYTE_SHIFT", type := .int, accessFlags := 26, slot := 0, constantValue := 0 }, { name := "LO_BYTE_SHIFT", type := .int, accessFlags := 26, slot := 1, constantValue := 0 }, { name := "MAX_LENGTH", type := .int, accessFlags := 24, slot := 2, constantValue := 0 }, { name := "$assertionsDisabled", type := .boolean, accessFlags := 4120, slot := 3, constantValue := 0 }]
  methods := #[k8m0, k8m1, k8m2, k8m3]
  instanceTypes := #[]
  staticTypes := #[.int, .int, .int, .boolean]
  resolved := Array.replicate 635 none
  statics := none }

def pool9 : Array CpInfo := pool [(1, .class_ 2), (0, u "com/example/wiring_from_blueprints/wiringfromblueprints/FactoryObject"), (0, .class_ 4), (0, u "java/lang/Object")] 17

/-- com/example/wiring_from_blueprints/wiringfromblueprints/FactoryObject -/
def k9 : Class := { plain "com/example/wiring_from_blueprints/wiringfromblueprints/FactoryObject" (some 0) with
  accessFlags := 1537
  interfaces := #[]
  cf := some (fileOf pool9 1 #[] #[] 1537 3 #[] #[])
  fields := #[]
  methods := #[]
  instanceTypes := #[]
  staticTypes := #[]
  resolved := Array.replicate 22 none
  statics := none }

def pool10 : Array CpInfo := pool [(2, .class_ 4), (1, u "java/lang/Object"), (3, .class_ 10), (1, u "com/example/wiring_from_blueprints/wiringfromblueprints/internal/StaticField"), (0, u "checked"), (0, u "(Ljava/lang/String;)Ljava/lang/String;"), (0, .methodref 14 15), (0, .class_ 16), (0, .nameAndType 17 18), (0, u "java/lang/String"), (0, u "lastIndexOf"), (0, u "(I)I"), (6, u "className"), (0, u "Ljava/lang/String;"), (5, u "fieldName"), (0, .string 34), (0, u "staticField"), (0, .methodref 36 37), (0, .class_ 38), (0, .nameAndType 39 40), (0, u "java/util/Objects"), (0, u "requireNonNull"), (0, u "(Ljava/lang/Object;Ljava/lang/String;)Ljava/lang/Object;"), (0, .methodref 14 42), (0, .nameAndType 43 44), (0, u "length"), (0, u "()I"), (104, .class_ 150), (0, u "com/example/wiring_from_blueprints/wiringfromblueprints/FactoryObject")] 40

def k10c0 : Code := { maxStack := 3, maxLocals := 2, code := prog_22_method_2_code, exceptionTable := #[], attributes := #[] }
def k10m0 : Method := { name := "checked", desc := "(Ljava/lang/String;)Ljava/lang/String;", sig := { parameters := [(.object "java/lang/String")], returnType := some (.object "java/lang/String") }, accessFlags := 9, code := some k10c0 }
/-- com/example/wiring_from_blueprints/wiringfromblueprints/internal/StaticField -/
def k10 : Class := { plain "com/example/wiring_from_blueprints/wiringfromblueprints/internal/StaticField" (some 0) with
  accessFlags := 49
  interfaces := #[9]
  cf := some (fileOf pool10 8 #[] #[{ accessFlags := 9, nameIndex := 11, descriptorIndex := 12, attributes := #[] }] 49 2 #[149] #[{ accessFlags := 18, nameIndex := 25, descriptorIndex := 26, attributes := #[] }, { accessFlags := 18, nameIndex := 32, descriptorIndex := 26, attributes := #[] }])
  fields := #[{ name := "className", type := (.object "java/lang/String"), accessFlags := 18, slot := 0, constantValue := 0 }, { name := "fieldName", type := (.object "java/lang/String"), accessFlags := 18, slot := 1, constantValue := 0 }]
  methods := #[k10m0]
  instanceTypes := #[(.object "java/lang/String"), (.object "java/lang/String")]
  staticTypes := #[]
  resolved := Array.replicate 191 none
  statics := none }

def pool11 : Array CpInfo := pool [(2, .class_ 4), (1, u "java/lang/Object"), (0, u "<init>"), (0, u "()V"), (35, .class_ 44), (1, u "java/util/Objects"), (0, u "requireNonNull"), (48, u "(Ljava/lang/Object;Ljava/lang/String;)Ljava/lang/Object;")] 89

def k11m0 : Method := { name := "<init>", desc := "()V", sig := { parameters := [], returnType := none }, accessFlags := 2, code := none }
def k11c1 : Code := { maxStack := 3, maxLocals := 2, code := jdk_31_method_11_code, exceptionTable := #[], attributes := #[] }
def k11m1 : Method := { name := "requireNonNull", desc := "(Ljava/lang/Object;Ljava/lang/String;)Ljava/lang/Object;", sig := { parameters := [(.object "java/lang/Object"), (.object "java/lang/String")], returnType := some (.object "java/lang/Object") }, accessFlags := 9, code := some k11c1 }
/-- java/util/Objects -/
def k11 : Class := { plain "java/util/Objects" (some 0) with
  accessFlags := 49
  interfaces := #[]
  cf := some (fileOf pool11 42 #[] #[{ accessFlags := 2, nameIndex := 5, descriptorIndex := 6, attributes := #[] }, { accessFlags := 9, nameIndex := 45, descriptorIndex := 94, attributes := #[] }] 49 2 #[] #[])
  fields := #[]
  methods := #[k11m0, k11m1]
  instanceTypes := #[]
  staticTypes := #[]
  resolved := Array.replicate 184 none
  statics := none }

def pool12 : Array CpInfo := pool [(4, .class_ 6), (1, u "java/lang/Object"), (0, u "<init>"), (0, u "()V"), (5, .class_ 16), (1, u "java/lang/StringLatin1"), (21, .methodref 39 40), (0, .class_ 41), (0, .nameAndType 42 43), (0, u "java/lang/Math"), (0, u "min"), (0, u "(II)I"), (44, .methodref 14 89), (0, .nameAndType 90 91), (0, u "canEncode"), (0, u "(I)Z"), (29, u "$assertionsDisabled"), (0, u "Z"), (98, .class_ 223), (1, u "java/lang/StringLatin1$LinesSpliterator"), (37, u "([BII)I"), (47, u "lastIndexOf"), (80, .class_ 391), (0, u "java/lang/StringLatin1$CharsSpliterator")] 3

def k12m0 : Method := { name := "<init>", desc := "()V", sig := { parameters := [], returnType := none }, accessFlags := 0, code := none }
def k12c1 : Code := { maxStack := 2, maxLocals := 1, code := jdk_43_method_4_code, exceptionTable := #[], attributes := #[] }
def k12m1 : Method := { name := "canEncode", desc := "(I)Z", sig := { parameters := [.int], returnType := some .boolean }, accessFlags := 9, code := some k12c1 }
def k12c2 : Code := { maxStack := 3, maxLocals := 4, code := jdk_43_method_27_code, exceptionTable := #[], attributes := #[] }
def k12m2 : Method := { name := "lastIndexOf", desc := "([BII)I", sig := { parameters := [(.array .byte), .int, .int], returnType := some .int }, accessFlags := 9, code := some k12c2 }
/-- java/lang/StringLatin1 -/
def k12 : Class := { plain "java/lang/StringLatin1" (some 0) with
  accessFlags := 48
  interfaces := #[]
  cf := some (fileOf pool12 14 #[.nestMembers #[390, 221]] #[{ accessFlags := 0, nameIndex := 7, descriptorIndex := 8, attributes := #[] }, { accessFlags := 9, nameIndex := 90, descriptorIndex := 91, attributes := #[] }, { accessFlags := 9, nameIndex := 309, descriptorIndex := 261, attributes := #[] }] 48 4 #[] #[{ accessFlags := 4120, nameIndex := 121, descriptorIndex := 122, attributes := #[] }])
  fields := #[{ name := "$assertionsDisabled", type := .boolean, accessFlags := 4120, slot := 0, constantValue := 0 }]
  methods := #[k12m0, k12m1, k12m2]
  instanceTypes := #[]
  staticTypes := #[.boolean]
  resolved := Array.replicate 395 none
  statics := none }

def pool13 : Array CpInfo := pool [(1, .class_ 2), (0, u "java/lang/Math"), (1, .class_ 6), (1, u "java/lang/Object"), (0, u "<init>"), (0, u "()V"), (89, .class_ 100), (1, u "java/lang/Math$RandomNumberGeneratorHolder"), (71, u "negativeZeroFloatBits"), (0, u "J"), (2, u "negativeZeroDoubleBits"), (24, u "min"), (43, u "$assertionsDisabled"), (0, u "Z"), (88, u "(II)I"), (2, u "twoToTheDoubleScaleDown"), (0, u "D"), (4, u "twoToTheDoubleScaleUp"), (9, u "E"), (3, u "PI"), (2, u "TAU"), (2, u "DEGREES_TO_RADIANS"), (0, u "RADIANS_TO_DEGREES")] 94

def k13m0 : Method := { name := "<init>", desc := "()V", sig := { parameters := [], returnType := none }, accessFlags := 2, code := none }
def k13c1 : Code := { maxStack := 2, maxLocals := 2, code := jdk_29_method_69_code, exceptionTable := #[], attributes := #[] }
def k13m1 : Method := { name := "min", desc := "(II)I", sig := { parameters := [.int, .int], returnType := some .int }, accessFlags := 9, code := some k13c1 }
/-- java/lang/Math -/
def k13 : Class := { plain "java/lang/Math" (some 0) with
  accessFlags := 49
  interfaces := #[]
  cf := some (fileOf pool13 1 #[.nestMembers #[98]] #[{ accessFlags := 2, nameIndex := 7, descriptorIndex := 8, attributes := #[] }, { accessFlags := 9, nameIndex := 201, descriptorIndex := 335, attributes := #[] }] 49 4 #[] #[{ accessFlags := 25, nameIndex := 354, descriptorIndex := 339, attributes := #[] }, { accessFlags := 25, nameIndex := 358, descriptorIndex := 339, attributes := #[] }, { accessFlags := 25, nameIndex := 361, descriptorIndex := 339, attributes := #[] }, { accessFlags := 26, nameIndex := 364, descriptorIndex := 339, attributes := #[] }, { accessFlags := 26, nameIndex := 365, descriptorIndex := 339, attributes := #[] }, { accessFlags := 26, nameIndex := 172, descriptorIndex := 173, attributes := #[] }, { accessFlags := 26, nameIndex := 176, descriptorIndex := 173, attributes := #[] }, { accessFlags := 8, nameIndex := 344, descriptorIndex := 339, attributes := #[] }, { accessFlags := 8, nameIndex := 338, descriptorIndex := 339, attributes := #[] }, { accessFlags := 4120, nameIndex := 245, descriptorIndex := 246, attributes := #[] }])
  fields := #[{ name := "E", type := .double, accessFlags := 25, slot := 0, constantValue := 0 }, { name := "PI", type := .double, accessFlags := 25, slot := 1, constantValue := 0 }, { name := "TAU", type := .double, accessFlags := 25, slot := 2, constantValue := 0 }, { name := "DEGREES_TO_RADIANS", type := .double, accessFlags := 26, slot := 3, constantValue := 0 }, { name := "RADIANS_TO_DEGREES", type := .double, accessFlags := 26, slot := 4, constantValue := 0 }, { name := "negativeZeroFloatBits", type := .long, accessFlags := 26, slot := 5, constantValue := 0 }, { name := "negativeZeroDoubleBits", type := .long, accessFlags := 26, slot := 6, constantValue := 0 }, { name := "twoToTheDoubleScaleUp", type := .double, accessFlags := 8, slot := 7, constantValue := 0 }, { name := "twoToTheDoubleScaleDown", type := .double, accessFlags := 8, slot := 8, constantValue := 0 }, { name := "$assertionsDisabled", type := .boolean, accessFlags := 4120, slot := 9, constantValue := 0 }]
  methods := #[k13m0, k13m1]
  instanceTypes := #[]
  staticTypes := #[.double, .double, .double, .double, .double, .long, .long, .double, .double, .boolean]
  resolved := Array.replicate 460 none
  statics := none }

def pool14 : Array CpInfo := pool [(2, .class_ 4), (1, u "java/lang/Object"), (0, u "<init>"), (0, u "()V"), (17, .class_ 26), (1, u "jdk/internal/util/Preconditions"), (28, .class_ 56), (0, u "jdk/internal/util/Preconditions$4"), (57, .class_ 115), (0, u "jdk/internal/util/Preconditions$1"), (7, u "SIOOBE_FORMATTER"), (0, u "Ljava/util/function/BiFunction;"), (0, .class_ 126), (0, u "jdk/internal/util/Preconditions$2"), (3, u "AIOOBE_FORMATTER"), (0, .class_ 132), (0, u "jdk/internal/util/Preconditions$3"), (3, u "IOOBE_FORMATTER")] 57

def k14m0 : Method := { name := "<init>", desc := "()V", sig := { parameters := [], returnType := none }, accessFlags := 1, code := none }
/-- jdk/internal/util/Preconditions -/
def k14 : Class := { plain "jdk/internal/util/Preconditions" (some 0) with
  accessFlags := 33
  interfaces := #[]
  cf := some (fileOf pool14 24 #[.nestMembers #[55, 131, 125, 114]] #[{ accessFlags := 1, nameIndex := 5, descriptorIndex := 6, attributes := #[] }] 33 2 #[] #[{ accessFlags := 25, nameIndex := 123, descriptorIndex := 124, attributes := #[] }, { accessFlags := 25, nameIndex := 130, descriptorIndex := 124, attributes := #[] }, { accessFlags := 25, nameIndex := 136, descriptorIndex := 124, attributes := #[] }])
  fields := #[{ name := "SIOOBE_FORMATTER", type := (.object "java/util/function/BiFunction"), accessFlags := 25, slot := 0, constantValue := 0 }, { name := "AIOOBE_FORMATTER", type := (.object "java/util/function/BiFunction"), accessFlags := 25, slot := 1, constantValue := 0 }, { name := "IOOBE_FORMATTER", type := (.object "java/util/function/BiFunction"), accessFlags := 25, slot := 2, constantValue := 0 }]
  methods := #[k14m0]
  instanceTypes := #[]
  staticTypes := #[(.object "java/util/function/BiFunction"), (.object "java/util/function/BiFunction"), (.object "java/util/function/BiFunction")]
  resolved := Array.replicate 194 none
  statics := some 1 }

def pool15 : Array CpInfo := pool [(9, u "<init>"), (6, .class_ 18), (1, u "java/lang/Object"), (0, u "()V"), (1, .class_ 23), (1, u "jdk/internal/util/ArraysSupport"), (0, u "LOG2_ARRAY_LONG_INDEX_SCALE"), (0, u "I"), (2, u "U"), (0, u "Ljdk/internal/misc/Unsafe;"), (8, u "BIG_ENDIAN"), (0, u "Z"), (8, u "LOG2_BYTE_BIT_SIZE"), (4, u "LOG2_ARRAY_INT_INDEX_SCALE"), (54, u "JLA"), (0, u "Ljdk/internal/access/JavaLangAccess;"), (11, u "LOG2_ARRAY_BOOLEAN_INDEX_SCALE"), (9, u "LOG2_ARRAY_BYTE_INDEX_SCALE"), (5, u "LOG2_ARRAY_CHAR_INDEX_SCALE"), (5, u "LOG2_ARRAY_SHORT_INDEX_SCALE"), (18, u "LOG2_ARRAY_FLOAT_INDEX_SCALE"), (24, u "LOG2_ARRAY_DOUBLE_INDEX_SCALE"), (89, u "T_BOOLEAN"), (2, u "T_CHAR"), (1, u "T_FLOAT"), (1, u "T_DOUBLE"), (1, u "T_BYTE"), (1, u "T_SHORT"), (1, u "T_INT"), (1, u "T_LONG"), (1, u "SOFT_MAX_ARRAY_LENGTH")] 83

def k15m0 : Method := { name := "<init>", desc := "()V", sig := { parameters := [], returnType := none }, accessFlags := 2, code := none }
/-- jdk/internal/util/ArraysSupport -/
def k15 : Class := { plain "jdk/internal/util/ArraysSupport" (some 0) with
  accessFlags := 33
  interfaces := #[]
  cf := some (fileOf pool15 21 #[] #[{ accessFlags := 2, nameIndex := 9, descriptorIndex := 19, attributes := #[] }] 33 16 #[] #[{ accessFlags := 24, nameIndex := 28, descriptorIndex := 29, attributes := #[] }, { accessFlags := 26, nameIndex := 38, descriptorIndex := 39, attributes := #[] }, { accessFlags := 25, nameIndex := 121, descriptorIndex := 25, attributes := #[] }, { accessFlags := 25, nameIndex := 131, descriptorIndex := 25, attributes := #[] }, { accessFlags := 25, nameIndex := 137, descriptorIndex := 25, attributes := #[] }, { accessFlags := 25, nameIndex := 143, descriptorIndex := 25, attributes := #[] }, { accessFlags := 25, nameIndex := 53, descriptorIndex := 25, attributes := #[] }, { accessFlags := 25, nameIndex := 24, descriptorIndex := 25, attributes := #[] }, { accessFlags := 25, nameIndex := 162, descriptorIndex := 25, attributes := #[] }, { accessFlags := 25, nameIndex := 187, descriptorIndex := 25, attributes := #[] }, { accessFlags := 26, nameIndex := 48, descriptorIndex := 25, attributes := #[] }, { accessFlags := 25, nameIndex := 277, descriptorIndex := 25, attributes := #[] }, { accessFlags := 25, nameIndex := 280, descriptorIndex := 25, attributes := #[] }, { accessFlags := 25, nameIndex := 282, descriptorIndex := 25, attributes := #[] }, { accessFlags := 25, nameIndex := 284, descriptorIndex := 25, attributes := #[] }, { accessFlags := 25, nameIndex := 286, descriptorIndex := 25, attributes := #[] }, { accessFlags := 25, nameIndex := 288, descriptorIndex := 25, attributes := #[] }, { accessFlags := 25, nameIndex := 290, descriptorIndex := 25, attributes := #[] }, { accessFlags := 25, nameIndex := 292, descriptorIndex := 25, attributes := #[] }, { accessFlags := 26, nameIndex := 108, descriptorIndex := 109, attributes := #[] }, { accessFlags := 25, nameIndex := 294, descriptorIndex := 25, attributes := #[] }])
  fields := #[{ name := "U", type := (.object "jdk/internal/misc/Unsafe"), accessFlags := 24, slot := 0, constantValue := 0 }, { name := "BIG_ENDIAN", type := .boolean, accessFlags := 26, slot := 1, constantValue := 0 }, { name := "LOG2_ARRAY_BOOLEAN_INDEX_SCALE", type := .int, accessFlags := 25, slot := 2, constantValue := 0 }, { name := "LOG2_ARRAY_BYTE_INDEX_SCALE", type := .int, accessFlags := 25, slot := 3, constantValue := 0 }, { name := "LOG2_ARRAY_CHAR_INDEX_SCALE", type := .int, accessFlags := 25, slot := 4, constantValue := 0 }, { name := "LOG2_ARRAY_SHORT_INDEX_SCALE", type := .int, accessFlags := 25, slot := 5, constantValue := 0 }, { name := "LOG2_ARRAY_INT_INDEX_SCALE", type := .int, accessFlags := 25, slot := 6, constantValue := 0 }, { name := "LOG2_ARRAY_LONG_INDEX_SCALE", type := .int, accessFlags := 25, slot := 7, constantValue := 0 }, { name := "LOG2_ARRAY_FLOAT_INDEX_SCALE", type := .int, accessFlags := 25, slot := 8, constantValue := 0 }, { name := "LOG2_ARRAY_DOUBLE_INDEX_SCALE", type := .int, accessFlags := 25, slot := 9, constantValue := 0 }, { name := "LOG2_BYTE_BIT_SIZE", type := .int, accessFlags := 26, slot := 10, constantValue := 0 }, { name := "T_BOOLEAN", type := .int, accessFlags := 25, slot := 11, constantValue := 0 }, { name := "T_CHAR", type := .int, accessFlags := 25, slot := 12, constantValue := 0 }, { name := "T_FLOAT", type := .int, accessFlags := 25, slot := 13, constantValue := 0 }, { name := "T_DOUBLE", type := .int, accessFlags := 25, slot := 14, constantValue := 0 }, { name := "T_BYTE", type := .int, accessFlags := 25, slot := 15, constantValue := 0 }, { name := "T_SHORT", type := .int, accessFlags := 25, slot := 16, constantValue := 0 }, { name := "T_INT", type := .int, accessFlags := 25, slot := 17, constantValue := 0 }, { name := "T_LONG", type := .int, accessFlags := 25, slot := 18, constantValue := 0 }, { name := "JLA", type := (.object "jdk/internal/access/JavaLangAccess"), accessFlags := 26, slot := 19, constantValue := 0 }, { name := "SOFT_MAX_ARRAY_LENGTH", type := .int, accessFlags := 25, slot := 20, constantValue := 0 }]
  methods := #[k15m0]
  instanceTypes := #[]
  staticTypes := #[(.object "jdk/internal/misc/Unsafe"), .boolean, .int, .int, .int, .int, .int, .int, .int, .int, .int, .int, .int, .int, .int, .int, .int, .int, .int, (.object "jdk/internal/access/JavaLangAccess"), .int]
  resolved := Array.replicate 378 none
  statics := none }

def pool16 : Array CpInfo := pool [(1, u "java/lang/Cloneable"), (0, .class_ 1), (0, u "java/lang/Object"), (0, .class_ 3)] 3

/-- java/lang/Cloneable -/
def k16 : Class := { plain "java/lang/Cloneable" (some 0) with
  accessFlags := 1537
  interfaces := #[]
  cf := some (fileOf pool16 2 #[] #[] 1537 4 #[] #[])
  fields := #[]
  methods := #[]
  instanceTypes := #[]
  staticTypes := #[]
  resolved := Array.replicate 8 none
  statics := none }

/-- the primitive byte -/
def k17 : Class := { plain "byte" none with kind := .primitive 'B', accessFlags := 0x411 }
/-- [B -/
def k18 : Class := { plain "[B" (some 0) with kind := .array 17 .byte, interfaces := #[16, 2], accessFlags := 1041 }

/-- the primitive char -/
def k19 : Class := { plain "char" none with kind := .primitive 'C', accessFlags := 0x411 }
/-- [C -/
def k20 : Class := { plain "[C" (some 0) with kind := .array 19 .char, interfaces := #[16, 2], accessFlags := 1041 }

/-- the primitive int -/
def k21 : Class := { plain "int" none with kind := .primitive 'I', accessFlags := 0x411 }
/-- [I -/
def k22 : Class := { plain "[I" (some 0) with kind := .array 21 .int, interfaces := #[16, 2], accessFlags := 1041 }

def heap : Heap := #[{ cls := 7, slots := #[.long 0, .int 1, .null, .int 0, .null, .int 0, .int 0], vm := .statics 7 },
  { cls := 14, slots := #[.null, .null, .null], vm := .statics 14 }]
def classes : Array Class := #[k0, k1, k2, k3, k4, k5, k6, k7, k8, k9, k10, k11, k12, k13, k14, k15, k16, k17, k18, k19, k20, k21, k22]
def interned : List (Array UInt16 × Addr) := []
def slotsUsed : Nat := 10
def theMethod : MethodId := ⟨1, 4⟩
def args0 : Array Value := #[.int 5, .int 7, .int 300, .int 3, .int 8]
def aboutOver (below : List Frame) : State where
  vm := { classes := classes, interned := interned.toArray }
  heap := heap
  slotsUsed := slotsUsed
  threads := #[{ frames := .invoking theMethod args0 :: below }]
def below0 : List Frame := [.native { method := ⟨0, 0⟩, args := #[] }]
def about1 : State := aboutOver below0
def p0 : Program := .bare "" "" ""
def e0 : Env := launch0.env 0 0 0
theorem w_frames : about1.frames = Frame.invoking theMethod args0 :: below0 := rfl
set_option maxRecDepth 65536 in
theorem w_args : argsFit about1.vm theMethod args0 = true := by decide +kernel
set_option maxRecDepth 65536 in
theorem w_heap : heapFits about1 = true := by decide +kernel
set_option maxRecDepth 65536 in
theorem w_runnable : about1.curStatus? = some .runnable := by decide +kernel
set_option maxRecDepth 65536 in
theorem w_alone : about1.alone = true := by decide +kernel
set_option maxRecDepth 65536 in
theorem w_named : about1.methodNamed? x = some theMethod := by decide +kernel
set_option maxRecDepth 65536 in
theorem w_hears : about1.hears theMethod below0 = true := by decide +kernel
set_option maxRecDepth 65536 in
theorem w_ripe : about1.ripe theMethod args0 below0 = true := by decide +kernel
theorem w_running : about1.status = .running := rfl
set_option maxRecDepth 65536 in
theorem w_room : about1.hasRoom e0.platform room_1 = true :=
  launch0.hasRoom_least _ room_1 (by decide +kernel) (by decide +kernel) (by decide +kernel) (by decide +kernel) (by decide +kernel) (by decide +kernel)
theorem allAtoms_all (ts : List Jvm.Cond) (a : Array Jvm.Value) (st : Jvm.State) : (allAtoms ts).before a st = ts.all (fun c => c.before a st) := by
  induction ts with
  | nil => rfl
  | cons c t ih =>
    show (Jvm.Cond.and c (allAtoms t)).before a st = _
    rw [Jvm.Cond.before_and, ih, List.all_cons]
def words1 : List Jvm.Cond := Jvm.Cond.code x code maxLocals ret :: tables_1
/-- a 'code' word, met by the world's own term for the bytes: nothing is compared byte by byte -/
theorem code_word {y : MethodName} {bytes : ByteArray} {mx : Nat} {rt : Option FieldType} {a : Array Value} {s : State} {m : MethodId} {meth : Method} {c : Code} (h1 : s.methodNamed? y = some m) (h2 : s.vm.method? m = some meth) (h3 : meth.code = some c) (h4 : c.code = bytes)
    (h5 : (c.maxLocals == mx && c.exceptionTable.isEmpty && decide (c.maxStack ≤ mostOperands) && decide (meth.sig.returnType = rt) && !meth.locks && decide (parseMethodDescriptor y.desc = some meth.sig)) = true) : (Jvm.Cond.code y bytes mx rt).before a s = true := by
  simp only [Bool.and_eq_true, beq_iff_eq, Bool.not_eq_true', decide_eq_true_eq] at h5
  obtain ⟨⟨⟨⟨⟨g1, g2⟩, g3⟩, g4⟩, g5⟩, g6⟩ := h5
  simp [Cond.before, Cond.holds, Cond.value, h1, h2, h3, h4, g1, g2, g3, g4, g5, g6]
def isCode : Jvm.Cond → Bool
  | .code _ _ _ _ => true
  | _ => false
theorem all_split {L : List Jvm.Cond} {P : Jvm.Cond → Bool} (h1 : L.all (fun c => isCode c || P c) = true) (h2 : ∀ c ∈ L.filter isCode, P c = true) : L.all P = true := by
  refine List.all_eq_true.mpr fun c hc => ?_
  have h := List.all_eq_true.mp h1 c hc
  rcases Bool.eq_false_or_eq_true (isCode c) with hi | hi
  · exact h2 c (List.mem_filter.mpr ⟨hc, hi⟩)
  · simpa [hi] using h
set_option maxRecDepth 65536 in
theorem w_c0 : (Jvm.Cond.code x code maxLocals ret).before args0 about1 = true := code_word (m := ⟨1, 4⟩) (meth := k1m4) (c := k1c4) (by decide +kernel) rfl rfl rfl (by decide +kernel)
set_option maxRecDepth 65536 in
theorem w_c1 : (Jvm.Cond.code ({ cls := "com/example/wiring_from_blueprints/wiringfromblueprints/internal/StaticFieldCheckedPinLaw", name := "ch", desc := "(I)C" } : Jvm.MethodName) method_2_code (1 : Nat) (Option.some Jvm.ClassFile.FieldType.char)).before args0 about1 = true := code_word (m := ⟨1, 1⟩) (meth := k1m1) (c := k1c1) (by decide +kernel) rfl rfl rfl (by decide +kernel)
set_option maxRecDepth 65536 in
theorem w_c2 : (Jvm.Cond.code ({ cls := "com/example/wiring_from_blueprints/wiringfromblueprints/internal/StaticFieldCheckedPinLaw", name := "build", desc := "(ICCCC)Ljava/lang/String;" } : Jvm.MethodName) method_4_code (5 : Nat) (Option.some (Jvm.ClassFile.FieldType.object "java/lang/String"))).before args0 about1 = true := code_word (m := ⟨1, 3⟩) (meth := k1m3) (c := k1c3) (by decide +kernel) rfl rfl rfl (by decide +kernel)
set_option maxRecDepth 65536 in
theorem w_c3 : (Jvm.Cond.code ({ cls := "java/lang/String", name := "<init>", desc := "([C)V" } : Jvm.MethodName) jdk_42_method_3_code (2 : Nat) (Option.none : Option Jvm.ClassFile.FieldType)).before args0 about1 = true := code_word (m := ⟨7, 1⟩) (meth := k7m1) (c := k7c1) (by decide +kernel) rfl rfl rfl (by decide +kernel)
set_option maxRecDepth 65536 in
theorem w_c4 : (Jvm.Cond.code ({ cls := "java/lang/String", name := "<init>", desc := "([CIILjava/lang/Void;)V" } : Jvm.MethodName) jdk_42_method_149_code (6 : Nat) (Option.none : Option Jvm.ClassFile.FieldType)).before args0 about1 = true := code_word (m := ⟨7, 5⟩) (meth := k7m5) (c := k7c5) (by decide +kernel) rfl rfl rfl (by decide +kernel)
set_option maxRecDepth 65536 in
theorem w_c5 : (Jvm.Cond.code ({ cls := "java/lang/Object", name := "<init>", desc := "()V" } : Jvm.MethodName) object_method_1_code (1 : Nat) (Option.none : Option Jvm.ClassFile.FieldType)).before args0 about1 = true := code_word (m := ⟨0, 0⟩) (meth := k0m0) (c := k0c0) (by decide +kernel) rfl rfl rfl (by decide +kernel)
set_option maxRecDepth 65536 in
theorem w_c6 : (Jvm.Cond.code ({ cls := "com/example/wiring_from_blueprints/wiringfromblueprints/internal/StaticFieldCheckedPinLaw", name := "lastDot", desc := "(ICCCC)I" } : Jvm.MethodName) method_3_code (5 : Nat) (Option.some Jvm.ClassFile.FieldType.int)).before args0 about1 = true := code_word (m := ⟨1, 2⟩) (meth := k1m2) (c := k1c2) (by decide +kernel) rfl rfl rfl (by decide +kernel)
set_option maxRecDepth 65536 in
theorem w_c7 : (Jvm.Cond.code ({ cls := "java/lang/StringUTF16", name := "compress", desc := "([CII)[B" } : Jvm.MethodName) jdk_52_method_16_code (6 : Nat) (Option.some (Jvm.ClassFile.FieldType.array Jvm.ClassFile.FieldType.byte))).before args0 about1 = true := code_word (m := ⟨8, 2⟩) (meth := k8m2) (c := k8c2) (by decide +kernel) rfl rfl rfl (by decide +kernel)
set_option maxRecDepth 65536 in
theorem w_c8 : (Jvm.Cond.code ({ cls := "java/lang/StringUTF16", name := "compress", desc := "([CI[BII)I" } : Jvm.MethodName) jdk_52_method_21_code (7 : Nat) (Option.some Jvm.ClassFile.FieldType.int)).before args0 about1 = true := code_word (m := ⟨8, 3⟩) (meth := k8m3) (c := k8c3) (by decide +kernel) rfl rfl rfl (by decide +kernel)
set_option maxRecDepth 65536 in
theorem w_c9 : (Jvm.Cond.code ({ cls := "java/lang/StringUTF16", name := "coderFromArrayLen", desc := "([BI)B" } : Jvm.MethodName) jdk_52_method_15_code (2 : Nat) (Option.some Jvm.ClassFile.FieldType.byte)).before args0 about1 = true := code_word (m := ⟨8, 1⟩) (meth := k8m1) (c := k8c1) (by decide +kernel) rfl rfl rfl (by decide +kernel)
set_option maxRecDepth 65536 in
theorem w_c10 : (Jvm.Cond.code ({ cls := "com/example/wiring_from_blueprints/wiringfromblueprints/internal/StaticField", name := "checked", desc := "(Ljava/lang/String;)Ljava/lang/String;" } : Jvm.MethodName) prog_22_method_2_code (2 : Nat) (Option.some (Jvm.ClassFile.FieldType.object "java/lang/String"))).before args0 about1 = true := code_word (m := ⟨10, 0⟩) (meth := k10m0) (c := k10c0) (by decide +kernel) rfl rfl rfl (by decide +kernel)
set_option maxRecDepth 65536 in
theorem w_c11 : (Jvm.Cond.code ({ cls := "java/util/Objects", name := "requireNonNull", desc := "(Ljava/lang/Object;Ljava/lang/String;)Ljava/lang/Object;" } : Jvm.MethodName) jdk_31_method_11_code (2 : Nat) (Option.some (Jvm.ClassFile.FieldType.object "java/lang/Object"))).before args0 about1 = true := code_word (m := ⟨11, 1⟩) (meth := k11m1) (c := k11c1) (by decide +kernel) rfl rfl rfl (by decide +kernel)
set_option maxRecDepth 65536 in
theorem w_c12 : (Jvm.Cond.code ({ cls := "java/lang/String", name := "lastIndexOf", desc := "(I)I" } : Jvm.MethodName) jdk_42_method_82_code (2 : Nat) (Option.some Jvm.ClassFile.FieldType.int)).before args0 about1 = true := code_word (m := ⟨7, 3⟩) (meth := k7m3) (c := k7c3) (by decide +kernel) rfl rfl rfl (by decide +kernel)
set_option maxRecDepth 65536 in
theorem w_c13 : (Jvm.Cond.code ({ cls := "java/lang/String", name := "length", desc := "()I" } : Jvm.MethodName) jdk_42_method_54_code (1 : Nat) (Option.some Jvm.ClassFile.FieldType.int)).before args0 about1 = true := code_word (m := ⟨7, 2⟩) (meth := k7m2) (c := k7c2) (by decide +kernel) rfl rfl rfl (by decide +kernel)
set_option maxRecDepth 65536 in
theorem w_c14 : (Jvm.Cond.code ({ cls := "java/lang/String", name := "coder", desc := "()B" } : Jvm.MethodName) jdk_42_method_152_code (1 : Nat) (Option.some Jvm.ClassFile.FieldType.byte)).before args0 about1 = true := code_word (m := ⟨7, 6⟩) (meth := k7m6) (c := k7c6) (by decide +kernel) rfl rfl rfl (by decide +kernel)
set_option maxRecDepth 65536 in
theorem w_c15 : (Jvm.Cond.code ({ cls := "java/lang/String", name := "lastIndexOf", desc := "(II)I" } : Jvm.MethodName) jdk_42_method_83_code (3 : Nat) (Option.some Jvm.ClassFile.FieldType.int)).before args0 about1 = true := code_word (m := ⟨7, 4⟩) (meth := k7m4) (c := k7c4) (by decide +kernel) rfl rfl rfl (by decide +kernel)
set_option maxRecDepth 65536 in
theorem w_c16 : (Jvm.Cond.code ({ cls := "java/lang/String", name := "isLatin1", desc := "()Z" } : Jvm.MethodName) jdk_42_method_154_code (1 : Nat) (Option.some Jvm.ClassFile.FieldType.boolean)).before args0 about1 = true := code_word (m := ⟨7, 7⟩) (meth := k7m7) (c := k7c7) (by decide +kernel) rfl rfl rfl (by decide +kernel)
set_option maxRecDepth 65536 in
theorem w_c17 : (Jvm.Cond.code ({ cls := "java/lang/StringLatin1", name := "lastIndexOf", desc := "([BII)I" } : Jvm.MethodName) jdk_43_method_27_code (4 : Nat) (Option.some Jvm.ClassFile.FieldType.int)).before args0 about1 = true := code_word (m := ⟨12, 2⟩) (meth := k12m2) (c := k12c2) (by decide +kernel) rfl rfl rfl (by decide +kernel)
set_option maxRecDepth 65536 in
theorem w_c18 : (Jvm.Cond.code ({ cls := "java/lang/StringLatin1", name := "canEncode", desc := "(I)Z" } : Jvm.MethodName) jdk_43_method_4_code (1 : Nat) (Option.some Jvm.ClassFile.FieldType.boolean)).before args0 about1 = true := code_word (m := ⟨12, 1⟩) (meth := k12m1) (c := k12c1) (by decide +kernel) rfl rfl rfl (by decide +kernel)
set_option maxRecDepth 65536 in
theorem w_c19 : (Jvm.Cond.code ({ cls := "java/lang/Math", name := "min", desc := "(II)I" } : Jvm.MethodName) jdk_29_method_69_code (2 : Nat) (Option.some Jvm.ClassFile.FieldType.int)).before args0 about1 = true := code_word (m := ⟨13, 1⟩) (meth := k13m1) (c := k13c1) (by decide +kernel) rfl rfl rfl (by decide +kernel)
def codes1 : List Jvm.Cond := [Jvm.Cond.code x code maxLocals ret, Jvm.Cond.code ({ cls := "com/example/wiring_from_blueprints/wiringfromblueprints/internal/StaticFieldCheckedPinLaw", name := "ch", desc := "(I)C" } : Jvm.MethodName) method_2_code (1 : Nat) (Option.some Jvm.ClassFile.FieldType.char), Jvm.Cond.code ({ cls := "com/example/wiring_from_blueprints/wiringfromblueprints/internal/StaticFieldCheckedPinLaw", name := "build", desc := "(ICCCC)Ljava/lang/String;" } : Jvm.MethodName) method_4_code (5 : Nat) (Option.some (Jvm.ClassFile.FieldType.object "java/lang/String")), Jvm.Cond.code ({ cls := "java/lang/String", name := "<init>", desc := "([C)V" } : Jvm.MethodName) jdk_42_method_3_code (2 : Nat) (Option.none : Option Jvm.ClassFile.FieldType), Jvm.Cond.code ({ cls := "java/lang/String", name := "<init>", desc := "([CIILjava/lang/Void;)V" } : Jvm.MethodName) jdk_42_method_149_code (6 : Nat) (Option.none : Option Jvm.ClassFile.FieldType), Jvm.Cond.code ({ cls := "java/lang/Object", name := "<init>", desc := "()V" } : Jvm.MethodName) object_method_1_code (1 : Nat) (Option.none : Option Jvm.ClassFile.FieldType), Jvm.Cond.code ({ cls := "com/example/wiring_from_blueprints/wiringfromblueprints/internal/StaticFieldCheckedPinLaw", name := "lastDot", desc := "(ICCCC)I" } : Jvm.MethodName) method_3_code (5 : Nat) (Option.some Jvm.ClassFile.FieldType.int), Jvm.Cond.code ({ cls := "java/lang/StringUTF16", name := "compress", desc := "([CII)[B" } : Jvm.MethodName) jdk_52_method_16_code (6 : Nat) (Option.some (Jvm.ClassFile.FieldType.array Jvm.ClassFile.FieldType.byte)), Jvm.Cond.code ({ cls := "java/lang/StringUTF16", name := "compress", desc := "([CI[BII)I" } : Jvm.MethodName) jdk_52_method_21_code (7 : Nat) (Option.some Jvm.ClassFile.FieldType.int), Jvm.Cond.code ({ cls := "java/lang/StringUTF16", name := "coderFromArrayLen", desc := "([BI)B" } : Jvm.MethodName) jdk_52_method_15_code (2 : Nat) (Option.some Jvm.ClassFile.FieldType.byte), Jvm.Cond.code ({ cls := "com/example/wiring_from_blueprints/wiringfromblueprints/internal/StaticField", name := "checked", desc := "(Ljava/lang/String;)Ljava/lang/String;" } : Jvm.MethodName) prog_22_method_2_code (2 : Nat) (Option.some (Jvm.ClassFile.FieldType.object "java/lang/String")), Jvm.Cond.code ({ cls := "java/util/Objects", name := "requireNonNull", desc := "(Ljava/lang/Object;Ljava/lang/String;)Ljava/lang/Object;" } : Jvm.MethodName) jdk_31_method_11_code (2 : Nat) (Option.some (Jvm.ClassFile.FieldType.object "java/lang/Object")), Jvm.Cond.code ({ cls := "java/lang/String", name := "lastIndexOf", desc := "(I)I" } : Jvm.MethodName) jdk_42_method_82_code (2 : Nat) (Option.some Jvm.ClassFile.FieldType.int), Jvm.Cond.code ({ cls := "java/lang/String", name := "length", desc := "()I" } : Jvm.MethodName) jdk_42_method_54_code (1 : Nat) (Option.some Jvm.ClassFile.FieldType.int), Jvm.Cond.code ({ cls := "java/lang/String", name := "coder", desc := "()B" } : Jvm.MethodName) jdk_42_method_152_code (1 : Nat) (Option.some Jvm.ClassFile.FieldType.byte), Jvm.Cond.code ({ cls := "java/lang/String", name := "lastIndexOf", desc := "(II)I" } : Jvm.MethodName) jdk_42_method_83_code (3 : Nat) (Option.some Jvm.ClassFile.FieldType.int), Jvm.Cond.code ({ cls := "java/lang/String", name := "isLatin1", desc := "()Z" } : Jvm.MethodName) jdk_42_method_154_code (1 : Nat) (Option.some Jvm.ClassFile.FieldType.boolean), Jvm.Cond.code ({ cls := "java/lang/StringLatin1", name := "lastIndexOf", desc := "([BII)I" } : Jvm.MethodName) jdk_43_method_27_code (4 : Nat) (Option.some Jvm.ClassFile.FieldType.int), Jvm.Cond.code ({ cls := "java/lang/StringLatin1", name := "canEncode", desc := "(I)Z" } : Jvm.MethodName) jdk_43_method_4_code (1 : Nat) (Option.some Jvm.ClassFile.FieldType.boolean), Jvm.Cond.code ({ cls := "java/lang/Math", name := "min", desc := "(II)I" } : Jvm.MethodName) jdk_29_method_69_code (2 : Nat) (Option.some Jvm.ClassFile.FieldType.int)]
set_option maxRecDepth 65536 in
theorem codes_eq : words1.filter isCode = codes1 := rfl
theorem w_codes : ∀ c ∈ words1.filter isCode, c.before args0 about1 = true := by
  rw [codes_eq]
  intro c hc
  simp only [codes1, List.mem_cons, List.not_mem_nil, or_false] at hc
  rcases hc with rfl | rfl | rfl | rfl | rfl | rfl | rfl | rfl | rfl | rfl | rfl | rfl | rfl | rfl | rfl | rfl | rfl | rfl | rfl | rfl
  · exact w_c0
  · exact w_c1
  · exact w_c2
  · exact w_c3
  · exact w_c4
  · exact w_c5
  · exact w_c6
  · exact w_c7
  · exact w_c8
  · exact w_c9
  · exact w_c10
  · exact w_c11
  · exact w_c12
  · exact w_c13
  · exact w_c14
  · exact w_c15
  · exact w_c16
  · exact w_c17
  · exact w_c18
  · exact w_c19
set_option maxRecDepth 65536 in
theorem w_t1 : (words1.take 24).all (fun c => isCode c || c.before args0 about1) = true := by decide +kernel
set_option maxRecDepth 65536 in
theorem w_t2 : ((words1.drop 24).take 24).all (fun c => isCode c || c.before args0 about1) = true := by decide +kernel
set_option maxRecDepth 65536 in
theorem w_t3 : (((words1.drop 24).drop 24).take 24).all (fun c => isCode c || c.before args0 about1) = true := by decide +kernel
set_option maxRecDepth 65536 in
theorem w_t4 : (((words1.drop 24).drop 24).drop 24).all (fun c => isCode c || c.before args0 about1) = true := by decide +kernel
theorem w_tables : (allAtoms (Jvm.Cond.code x code maxLocals ret :: tables_1)).before args0 about1 = true := by
  rw [allAtoms_all]
  show words1.all (fun c => c.before args0 about1) = true
  refine all_split ?_ w_codes
  rw [← List.take_append_drop 24 words1, List.all_append, w_t1, ← List.take_append_drop 24 (words1.drop 24), List.all_append, w_t2, ← List.take_append_drop 24 ((words1.drop 24).drop 24), List.all_append, w_t3, w_t4]
  rfl
set_option maxRecDepth 65536 in
theorem w_rest : rest_1_c.before args0 about1 = true := by decide +kernel
set_option maxRecDepth 65536 in
theorem w_case : (Jvm.Cond.and given_1 narrow_1).before args0 about1 = true := by decide +kernel
set_option maxRecDepth 65536 in
theorem w_consts : constsHeld consts_1 about1 := Jvm.Lit.constsHeldB_iff.mp (by decide +kernel)
theorem w_applies : (headSpec (Jvm.Cond.code x code maxLocals ret :: tables_1) room_1).applies x e0.platform about1 = true :=
  (Spec.applies_iff w_frames).mpr ⟨w_running, w_runnable, w_alone, w_named, w_hears, w_ripe, w_room, w_tables⟩
theorem atStart : AtStart classFile x code maxLocals ret World_1 tables_1 room_1 Calls_1 rest_1 Pre_1 launch0 p0 e0 about1 theMethod args0 below0 :=
  ⟨lists_1, trivial, launch0.admits_env _ _ _, launch0.least_env, fairChoices_fair.cas, fairChoices_fair.clock, w_frames, w_args, w_heap, w_applies, ⟨w_consts, trivial⟩, w_rest, w_case⟩
end start1
theorem witness_1 : WitnessClaimed_1 := ⟨start1.p0, start1.e0, start1.about1, start1.theMethod, start1.args0, start1.below0, start1.atStart⟩
end Jvm.Pilot.@@N@@
