import JvmDerived
import JvmDerived.Pilot.@@N@@Statement
import JvmDerived.Pilot.@@N@@Code
set_option linter.unusedVariables false
set_option linter.unusedSimpArgs false
/- laws to paste: Road.backV (cut by pick.py; bodies as the Statement names them) -/
namespace Jvm.Pilot.@@N@@
namespace StrChars
open Jvm Sem ClassFile Op Lib Jvm.Stand Jvm.Free.XT Jvm.Free.ALB Jvm.Free.JM Jvm.Free
open Jvm.Lib.Cold (StaticIs)
/-- a char array whose places are chars -/
def Ch (a : Addr) (A : Cell) (U : State) : Prop := Arr .char a A U ∧ Typed .char A
theorem Ch.mv {a : Addr} {A : Cell} {U U' : State} (h : Ch a A U) (hal : U.vm.Alike U'.vm) (hh : U'.heap = U.heap) : Ch a A U' := ⟨h.1.mv hal hh, h.2⟩
theorem Ch.keep {a : Addr} {A : Cell} {U U' : State} (h : Ch a A U) (hal : U.vm.Alike U'.vm) (hk : U'.heap[a]? = some A) : Ch a A U' := ⟨h.1.keep hal hk, h.2⟩
/-- what place i of a char[]'s cell holds -/
def cv (A : Cell) (i : Nat) : Int32 := match A.slots[i]? with | some (.int x) => x | _ => 0
theorem Ch.get {a : Addr} {A : Cell} {U : State} (h : Ch a A U) {i : Nat} (hi : i < A.slots.size) : A.slots[i]? = some (.int (cv A i)) := by
  have e := Array.getElem?_eq_getElem hi
  have f := h.2 i _ e
  unfold cv; rw [e]
  generalize A.slots[i] = v at f
  cases v <;> simp [fits] at f ⊢
/-- the byte that i2b leaves of a char -/
def lo8 (x : Int32) : Int32 := x.toInt8.toInt32
theorem fits_lo8 (y : Int32) : fits .byte (.int (lo8 y)) = true := by
  have h1 := y.toInt8.le_toInt
  have h2 := y.toInt8.toInt_lt
  simp only [lo8, fits, Bool.and_eq_true, decide_eq_true_eq, Int32.le_iff_toInt_le, Int8.toInt_toInt32, show (-128 : Int32).toInt = -128 from by decide, show (127 : Int32).toInt = 127 from by decide]
  omega
/-- A' is A but that each place j of lo .. hi - 1 holds f j -/
def Laid (A A' : Cell) (lo hi : Nat) (f : Nat → Value) : Prop := A'.cls = A.cls ∧ A'.vm = A.vm ∧ A'.slots.size = A.slots.size ∧ ∀ i, A'.slots[i]? = if lo ≤ i ∧ i < hi then some (f i) else A.slots[i]?
theorem Laid.zero (A : Cell) (lo : Nat) (f : Nat → Value) : Laid A A lo (lo + 0) f := ⟨rfl, rfl, rfl, fun i => by rw [if_neg (by omega)]⟩
theorem Laid.step {A Ak : Cell} {lo k : Nat} {f : Nat → Value} {v : Value} (h : Laid A Ak lo k f) (hlo : lo ≤ k) (hk : k < Ak.slots.size) (hv : v = f k) : Laid A (Ak.setSlot k v) lo (k + 1) f := by
  refine ⟨h.1, h.2.1, by simpa [Cell.setSlot] using h.2.2.1, fun i => ?_⟩
  by_cases e : k = i
  · subst e; rw [Cell.slots_setSlot_self v hk, if_pos (by omega), hv]
  · rw [Cell.slots_setSlot_ne v e, h.2.2.2 i]
    by_cases q : lo ≤ i ∧ i < k
    · rw [if_pos q, if_pos (by omega)]
    · rw [if_neg q, if_neg (by omega)]
def U16 : String := "java/lang/StringUTF16"
namespace Cmp5
def yN : MethodName := ⟨"java/lang/StringUTF16", "compress", "([CI[BII)I"⟩
abbrev yB : ByteArray := jdk_52_method_21_code
theorem d0 : decode yB 0 = .ok (.iconst 0, 1) := by decide +kernel
theorem d1 : decode yB 1 = .ok (.istore 5, 2) := by decide +kernel
theorem d3 : decode yB 3 = .ok (.iload 5, 2) := by decide +kernel
theorem d5 : decode yB 5 = .ok (.iload 4, 2) := by decide +kernel
theorem d7 : decode yB 7 = .ok (.if_icmp (.ge) 37, 3) := by decide +kernel
theorem d10 : decode yB 10 = .ok (.aload_n 0, 1) := by decide +kernel
theorem d11 : decode yB 11 = .ok (.iload_n 1, 1) := by decide +kernel
theorem d12 : decode yB 12 = .ok (.caload, 1) := by decide +kernel
theorem d13 : decode yB 13 = .ok (.istore 6, 2) := by decide +kernel
theorem d15 : decode yB 15 = .ok (.iload 6, 2) := by decide +kernel
theorem d17 : decode yB 17 = .ok (.sipush 255, 3) := by decide +kernel
theorem d20 : decode yB 20 = .ok (.if_icmp (.le) 6, 3) := by decide +kernel
theorem d26 : decode yB 26 = .ok (.aload_n 2, 1) := by decide +kernel
theorem d27 : decode yB 27 = .ok (.iload_n 3, 1) := by decide +kernel
theorem d28 : decode yB 28 = .ok (.iload 6, 2) := by decide +kernel
theorem d30 : decode yB 30 = .ok (.i2b, 1) := by decide +kernel
theorem d31 : decode yB 31 = .ok (.bastore, 1) := by decide +kernel
theorem d32 : decode yB 32 = .ok (.iinc 1 1, 3) := by decide +kernel
theorem d35 : decode yB 35 = .ok (.iinc 3 1, 3) := by decide +kernel
theorem d38 : decode yB 38 = .ok (.iinc 5 1, 3) := by decide +kernel
theorem d41 : decode yB 41 = .ok (.goto (-38), 3) := by decide +kernel
theorem d44 : decode yB 44 = .ok (.iload 4, 2) := by decide +kernel
theorem d46 : decode yB 46 = .ok (.ireturn, 1) := by decide +kernel
def site : List Cond := []
def tab : Cond := tabOf yN yB 7 (some .int) site
def P (b : Addr) (A : Cell) (d : Addr) (B : Cell) (o q len : Nat) (args : Array Value) (s : State) : Prop := args = #[.ref b, .int (Int32.ofNat o), .ref d, .int (Int32.ofNat q), .int (Int32.ofNat len)] ∧ Ch b A s ∧ Arr .byte d B s ∧ b ≠ d ∧ o + len ≤ A.slots.size ∧ q + len ≤ B.slots.size ∧ ∀ i, i < len → ¬ 255 < cv A (o + i)
def E (b : Addr) (A : Cell) (d : Addr) (B : Cell) (o q len : Nat) (r : Option Value) (s u : State) : Prop := r = some (.int (Int32.ofNat len)) ∧ ∃ B', Put d B' s u ∧ Laid B B' q (q + len) (fun j => Value.int (lo8 (cv A (o + (j - q)))))
/-- no char of the range above 255: len; the places written hold each char's low byte -/
theorem law (l : Launch) (b : Addr) (A : Cell) (d : Addr) (B : Cell) (o q len : Nat) : Law l yN 5 5 0 0 yB 7 (some .int) site (P b A d B o q len) (E b A d B o q len) (copyLocs d q len) 0 0 := by
  refine Law.of_walk (plainFor_of_name (by decide +kernel)) (by decide +kernel) (by decide +kernel) (by decide) (fun _ _ h => by rw [h.1]; rfl) (fun _ U U' hal hh h => ⟨h.1, h.2.1.mv hal hh, h.2.2.1.mv hal hh, h.2.2.2⟩) (fun r U U' V V' h1 hal h2 h => ⟨h.1, h.2.elim fun B' q => ⟨B', q.1.mv h1 h2, q.2⟩⟩) ?_
  intro p e s m args below meth c s₁ X0 hexec hbytes hml hret hlk hnm hown hh0 W hP
  obtain ⟨rfl, hA, hB, hne, l1, l2, hp⟩ := hP
  have c1 : Steps p.tables e below (s₁.setTop (entryFrame m #[.ref b, .int (Int32.ofNat o), .ref d, .int (Int32.ofNat q), .int (Int32.ofNat len)] 7)) (s₁.setTop (mkF m 0 #[.val (.ref b), .val (.int (Int32.ofNat o)), .val (.ref d), .val (.int (Int32.ofNat q)), .val (.int (Int32.ofNat len)), .unset, .unset] [])) := entry rfl
  have hA0 := hA.1.mv X0.warmed.alike hh0
  have hB0 := hB.mv X0.warmed.alike hh0
  have a31 := hA.1.2.2.2
  have c2 : Steps p.tables e below (s₁.setTop (entryFrame m #[.ref b, .int (Int32.ofNat o), .ref d, .int (Int32.ofNat q), .int (Int32.ofNat len)] 7)) (s₁.setTop (mkF m 3 #[.val (.ref b), .val (.int (Int32.ofNat o)), .val (.ref d), .val (.int (Int32.ofNat q)), .val (.int (Int32.ofNat len)), .val (.int 0), .unset] [])) := c1.trans (by
    refine iconstV X0.here hexec rfl 0 (hb hbytes d0) (by decide) ?_
    refine XS.istore X0.here hexec rfl (hb hbytes d1) rfl rfl ?_
    exact Steps.refl _)
  have loop : ∀ (r i : Nat), i + r = len → ∀ (z : Slot), (z = .unset ∨ ∃ w, z = .val w ∧ w.category = 1) → ∀ (Tl : State) (Bk : Cell), Stand p l e { frames := 0, locals := 0, cells := 0, slots := 0 } s m #[.ref b, .int (Int32.ofNat o), .ref d, .int (Int32.ofNat q), .int (Int32.ofNat len)] below meth c Tl ([] ++ copyLocs d q i) 0 0 → Put d Bk s₁ Tl → Laid B Bk q (q + i) (fun j => Value.int (lo8 (cv A (o + (j - q))))) →
      Steps p.tables e below (s₁.setTop (entryFrame m #[.ref b, .int (Int32.ofNat o), .ref d, .int (Int32.ofNat q), .int (Int32.ofNat len)] 7)) (Tl.setTop (mkF m 3 #[.val (.ref b), .val (.int (Int32.ofNat (o + i))), .val (.ref d), .val (.int (Int32.ofNat (q + i))), .val (.int (Int32.ofNat len)), .val (.int (Int32.ofNat i)), z] [])) → ∃ (T' : State) (B' : Cell) (z' : Slot), Stand p l e { frames := 0, locals := 0, cells := 0, slots := 0 } s m #[.ref b, .int (Int32.ofNat o), .ref d, .int (Int32.ofNat q), .int (Int32.ofNat len)] below meth c T' ([] ++ copyLocs d q len) 0 0 ∧ Put d B' s₁ T' ∧ Laid B B' q (q + len) (fun j => Value.int (lo8 (cv A (o + (j - q))))) ∧
      Steps p.tables e below (s₁.setTop (entryFrame m #[.ref b, .int (Int32.ofNat o), .ref d, .int (Int32.ofNat q), .int (Int32.ofNat len)] 7)) (T'.setTop (mkF m 3 #[.val (.ref b), .val (.int (Int32.ofNat (o + len))), .val (.ref d), .val (.int (Int32.ofNat (q + len))), .val (.int (Int32.ofNat len)), .val (.int (Int32.ofNat len)), z'] [])) := by
    intro r
    induction r with
    | zero =>
      intro i hi z hz Tl Bk Xl pl fl cl
      have hil : i = len := by omega
      rw [hil] at Xl fl cl
      exact ⟨Tl, Bk, z, Xl, pl, fl, cl⟩
    | succ r ih =>
      intro i hi z hz Tl Bk Xl pl fl cl
      have all := X0.warmed.alike.symm.trans Xl.warmed.alike
      have hAl := hA0.keep all (pl.other hne hA0.1)
      have hBk := hB0.like all pl.1 fl.1 fl.2.1 fl.2.2.1
      have hlt : q + i < Bk.slots.size := by rw [fl.2.2.1]; omega
      have c3 : Steps p.tables e below (s₁.setTop (entryFrame m #[.ref b, .int (Int32.ofNat o), .ref d, .int (Int32.ofNat q), .int (Int32.ofNat len)] 7)) (Tl.setTop (mkF m 12 #[.val (.ref b), .val (.int (Int32.ofNat (o + i))), .val (.ref d), .val (.int (Int32.ofNat (q + i))), .val (.int (Int32.ofNat len)), .val (.int (Int32.ofNat i)), z] [.int (Int32.ofNat (o + i)), .ref b])) := cl.trans (by
        refine XS.iload Xl.here hexec rfl (hb hbytes d3) rfl ?_
        refine XS.iload Xl.here hexec rfl (hb hbytes d5) rfl ?_
        refine XS.icmpNo Xl.here hexec rfl (hb hbytes d7) rfl (ii_ge_f (lt32 (by omega) (by omega))) ?_
        refine XS.aloadN Xl.here hexec rfl (hb hbytes d10) rfl rfl ?_
        refine XS.iloadN Xl.here hexec rfl (hb hbytes d11) rfl ?_
        exact Steps.refl _)
      have c4 : Steps p.tables e below (s₁.setTop (entryFrame m #[.ref b, .int (Int32.ofNat o), .ref d, .int (Int32.ofNat q), .int (Int32.ofNat len)] 7)) (Tl.setTop (mkF m 13 #[.val (.ref b), .val (.int (Int32.ofNat (o + i))), .val (.ref d), .val (.int (Int32.ofNat (q + i))), .val (.int (Int32.ofNat len)), .val (.int (Int32.ofNat i)), z] [.int (cv A (o + i))])) := c3.trans (by
        refine Xl.aget hexec hAl rfl (hA.get (i := o + i) (by omega)) rfl rfl (hb hbytes d12) ?_
        exact Steps.refl _)
      have c5 : Steps p.tables e below (s₁.setTop (entryFrame m #[.ref b, .int (Int32.ofNat o), .ref d, .int (Int32.ofNat q), .int (Int32.ofNat len)] 7)) (Tl.setTop (mkF m 15 #[.val (.ref b), .val (.int (Int32.ofNat (o + i))), .val (.ref d), .val (.int (Int32.ofNat (q + i))), .val (.int (Int32.ofNat len)), .val (.int (Int32.ofNat i)), .val (.int (cv A (o + i)))] [])) := c4.trans (by
        refine XS.istoreS Xl.here hexec rfl (hb hbytes d13) rfl rfl hz ?_
        exact Steps.refl _)
      have c6 : Steps p.tables e below (s₁.setTop (entryFrame m #[.ref b, .int (Int32.ofNat o), .ref d, .int (Int32.ofNat q), .int (Int32.ofNat len)] 7)) (Tl.setTop (mkF m 31 #[.val (.ref b), .val (.int (Int32.ofNat (o + i))), .val (.ref d), .val (.int (Int32.ofNat (q + i))), .val (.int (Int32.ofNat len)), .val (.int (Int32.ofNat i)), .val (.int (cv A (o + i)))] [.int (lo8 (cv A (o + i))), .int (Int32.ofNat (q + i)), .ref d])) := c5.trans (by
        refine XS.iload Xl.here hexec rfl (hb hbytes d15) rfl ?_
        refine sipushV Xl.here hexec rfl 255 (hb hbytes d17) (by decide) ?_
        refine XS.icmpYes Xl.here hexec rfl (pc0 := 20) rfl (hb hbytes d20) rfl (ii_le_t (hp i (by omega))) (by decide) rfl ?_
        refine XS.aloadN Xl.here hexec rfl (hb hbytes d26) rfl rfl ?_
        refine XS.iloadN Xl.here hexec rfl (hb hbytes d27) rfl ?_
        refine XS.iload Xl.here hexec rfl (hb hbytes d28) rfl ?_
        refine i2b Xl.here hexec rfl (hb hbytes d30) rfl ?_
        exact Steps.refl _)
      obtain ⟨T7, X7, p7, st7⟩ := Xl.aput hexec hBk rfl hlt rfl (fits_lo8 (cv A (o + i))) (g := (mkF m 31 #[.val (.ref b), .val (.int (Int32.ofNat (o + i))), .val (.ref d), .val (.int (Int32.ofNat (q + i))), .val (.int (Int32.ofNat len)), .val (.int (Int32.ofNat i)), .val (.int (cv A (o + i)))] [.int (lo8 (cv A (o + i))), .int (Int32.ofNat (q + i)), .ref d])) rfl (rest := []) rfl (hb hbytes d31)
      have c8 : Steps p.tables e below (s₁.setTop (entryFrame m #[.ref b, .int (Int32.ofNat o), .ref d, .int (Int32.ofNat q), .int (Int32.ofNat len)] 7)) (T7.setTop (mkF m 32 #[.val (.ref b), .val (.int (Int32.ofNat (o + i))), .val (.ref d), .val (.int (Int32.ofNat (q + i))), .val (.int (Int32.ofNat len)), .val (.int (Int32.ofNat i)), .val (.int (cv A (o + i)))] [])) := c6.trans (st7 _ (Steps.refl _))
      have c9 : Steps p.tables e below (s₁.setTop (entryFrame m #[.ref b, .int (Int32.ofNat o), .ref d, .int (Int32.ofNat q), .int (Int32.ofNat len)] 7)) (T7.setTop (mkF m 3 #[.val (.ref b), .val (.int (Int32.ofNat (o + i) + 1)), .val (.ref d), .val (.int (Int32.ofNat (q + i) + 1)), .val (.int (Int32.ofNat len)), .val (.int (Int32.ofNat i + 1)), .val (.int (cv A (o + i)))] [])) := c8.trans (by
        refine iincV X7.here hexec rfl 1 (hb hbytes d32) (by decide) rfl rfl ?_
        refine iincV X7.here hexec rfl 1 (hb hbytes d35) (by decide) rfl rfl ?_
        refine iincV X7.here hexec rfl 1 (hb hbytes d38) (by decide) rfl rfl ?_
        refine XS.goto X7.here hexec rfl (pc0 := 41) rfl (hb hbytes d41) (by decide) rfl ?_
        exact Steps.refl _)
      have c10 : Steps p.tables e below (s₁.setTop (entryFrame m #[.ref b, .int (Int32.ofNat o), .ref d, .int (Int32.ofNat q), .int (Int32.ofNat len)] 7)) (T7.setTop (mkF m 3 #[.val (.ref b), .val (.int (Int32.ofNat (o + (i + 1)))), .val (.ref d), .val (.int (Int32.ofNat (q + (i + 1)))), .val (.int (Int32.ofNat len)), .val (.int (Int32.ofNat (i + 1))), .val (.int (cv A (o + i)))] [])) := by
        have := c9
        rw [succ32, succ32, succ32] at this
        exact this
      exact ih (i + 1) (by omega) _ (Or.inr ⟨_, rfl, rfl⟩) T7 _ (by rw [copyLocs_step, ← List.append_assoc]; exact X7) (pl.trans p7) (fl.step (by omega) hlt (by simp)) c10
  obtain ⟨T9, B9, z9, X9, p9, f9, g9⟩ := loop len 0 (by omega) .unset (Or.inl rfl) s₁ B (by simpa [copyLocs] using X0) ⟨hB0.1, fun _ _ => rfl, rfl⟩ (Laid.zero _ _ _) c2
  have c11 : Steps p.tables e below (s₁.setTop (entryFrame m #[.ref b, .int (Int32.ofNat o), .ref d, .int (Int32.ofNat q), .int (Int32.ofNat len)] 7)) (T9.setTop (mkF m 46 #[.val (.ref b), .val (.int (Int32.ofNat (o + len))), .val (.ref d), .val (.int (Int32.ofNat (q + len))), .val (.int (Int32.ofNat len)), .val (.int (Int32.ofNat len)), z9] [.int (Int32.ofNat len)])) := g9.trans (by
    refine XS.iload X9.here hexec rfl (hb hbytes d3) rfl ?_
    refine XS.iload X9.here hexec rfl (hb hbytes d5) rfl ?_
    refine XS.icmpYes X9.here hexec rfl (pc0 := 7) rfl (hb hbytes d7) rfl (ii_ge_t (nlt32 (by omega) (Nat.le_refl _))) (by decide) rfl ?_
    refine XS.iload X9.here hexec rfl (hb hbytes d44) rfl ?_
    exact Steps.refl _)
  exact ⟨T9, some (.int (Int32.ofNat len)), _, _, _, X9, by simp, rfl, rfl, (fun h => by cases h), ⟨rfl, B9, p9.from hh0, f9⟩, fun fs hl => c11.trans (X9.ireturnOut hexec hret rfl (Or.inl rfl) (hb hbytes d46) hl)⟩
end Cmp5
namespace Cmp3
def yN : MethodName := ⟨"java/lang/StringUTF16", "compress", "([CII)[B"⟩
abbrev yB : ByteArray := jdk_52_method_16_code
theorem d0 : decode yB 0 = .ok (.iload_n 2, 1) := by decide +kernel
theorem d1 : decode yB 1 = .ok (.newarray .byte, 2) := by decide +kernel
theorem d3 : decode yB 3 = .ok (.astore_n 3, 1) := by decide +kernel
theorem d4 : decode yB 4 = .ok (.aload_n 0, 1) := by decide +kernel
theorem d5 : decode yB 5 = .ok (.iload_n 1, 1) := by decide +kernel
theorem d6 : decode yB 6 = .ok (.aload_n 3, 1) := by decide +kernel
theorem d7 : decode yB 7 = .ok (.iconst 0, 1) := by decide +kernel
theorem d8 : decode yB 8 = .ok (.iload_n 2, 1) := by decide +kernel
theorem d9 : decode yB 9 = .ok (.invokestatic 115, 3) := by decide +kernel
theorem d12 : decode yB 12 = .ok (.istore 4, 2) := by decide +kernel
theorem d14 : decode yB 14 = .ok (.iload 4, 2) := by decide +kernel
theorem d16 : decode yB 16 = .ok (.iload_n 2, 1) := by decide +kernel
theorem d17 : decode yB 17 = .ok (.if_icmp (.eq) 40, 3) := by decide +kernel
theorem d57 : decode yB 57 = .ok (.aload_n 3, 1) := by decide +kernel
theorem d58 : decode yB 58 = .ok (.areturn, 1) := by decide +kernel
def site : List Cond := [.arrayClass .byte, Cmp5.tab] ++ staticW U16 115 Cmp5.yN
def tab : Cond := tabOf yN yB 6 (some (.array .byte)) site
def P (b : Addr) (A : Cell) (o len : Nat) (args : Array Value) (s : State) : Prop := args = #[.ref b, .int (Int32.ofNat o), .int (Int32.ofNat len)] ∧ Ch b A s ∧ o + len ≤ A.slots.size ∧ len ≤ 536870912 ∧ ∀ i, i < len → ¬ 255 < cv A (o + i)
def E (b : Addr) (A : Cell) (o len : Nat) (r : Option Value) (s u : State) : Prop := NewArr .byte "[B" len (fun j => .int (lo8 (cv A (o + j)))) r s u ∧ u.heap.size = s.heap.size + 1
/-- no char of the range above 255: a new byte[] of their low bytes -/
theorem law (l : Launch) (b : Addr) (A : Cell) (o len : Nat) : Law l yN 3 3 1 18 yB 6 (some (.array .byte)) site (P b A o len) (E b A o len) [] 1 len := by
  refine Law.of_walk (plainFor_of_name (by decide +kernel)) (by decide +kernel) (by decide +kernel) (by decide) (fun _ _ h => by rw [h.1]; rfl) (fun _ U U' hal hh h => ⟨h.1, h.2.1.mv hal hh, h.2.2⟩) (fun r U U' V V' h1 hal h2 h => ⟨NewArr.mv r U U' V V' h1 hal h2 h.1, by rw [h1, h2]; exact h.2⟩) ?_
  intro p e s m args below meth c s₁ X0 hexec hbytes hml hret hlk hnm hown hh0 W hP
  obtain ⟨rfl, hA, l1, l2, hp⟩ := hP
  have a31 := hA.1.2.2.2
  have c1 : Steps p.tables e below (s₁.setTop (entryFrame m #[.ref b, .int (Int32.ofNat o), .int (Int32.ofNat len)] 6)) (s₁.setTop (mkF m 0 #[.val (.ref b), .val (.int (Int32.ofNat o)), .val (.int (Int32.ofNat len)), .unset, .unset, .unset] [])) := entry rfl
  have c2 : Steps p.tables e below (s₁.setTop (entryFrame m #[.ref b, .int (Int32.ofNat o), .int (Int32.ofNat len)] 6)) (s₁.setTop (mkF m 1 #[.val (.ref b), .val (.int (Int32.ofNat o)), .val (.int (Int32.ofNat len)), .unset, .unset, .unset] [.int (Int32.ofNat len)])) := c1.trans (by
    refine XS.iloadN X0.here hexec rfl (hb hbytes d0) rfl ?_
    exact Steps.refl _)
  obtain ⟨T3, B3, X3, ba3, bs3, bv3, bh3, bf3, st3⟩ := X0.anew hexec (atype := .byte) (wk W (.arrayClass .byte)) rfl (by show len * 1 ≤ _; omega) (by omega) (g := (mkF m 1 #[.val (.ref b), .val (.int (Int32.ofNat o)), .val (.int (Int32.ofNat len)), .unset, .unset, .unset] [.int (Int32.ofNat len)])) rfl (hb hbytes d1) (rest := []) rfl (Nat.le_refl _) (by show 0 + len ≤ len; omega)
  rw [hh0] at ba3 st3
  have kp3 : XT.Kept s T3 := (XT.Kept.of_eq hh0).push bh3
  have hA3 := hA.keep X3.warmed.alike (kp3 _ _ hA.1.1)
  have hne : b ≠ s.heap.size := hA.1.ne
  have c4 : Steps p.tables e below (s₁.setTop (entryFrame m #[.ref b, .int (Int32.ofNat o), .int (Int32.ofNat len)] 6)) (T3.setTop (mkF m 3 #[.val (.ref b), .val (.int (Int32.ofNat o)), .val (.int (Int32.ofNat len)), .unset, .unset, .unset] [.ref s.heap.size])) := c2.trans (st3 _ (Steps.refl _))
  have c5 : Steps p.tables e below (s₁.setTop (entryFrame m #[.ref b, .int (Int32.ofNat o), .int (Int32.ofNat len)] 6)) (T3.setTop (mkF m 9 #[.val (.ref b), .val (.int (Int32.ofNat o)), .val (.int (Int32.ofNat len)), .val (.ref s.heap.size), .unset, .unset] [.int (Int32.ofNat len), .int 0, .ref s.heap.size, .int (Int32.ofNat o), .ref b])) := c4.trans (by
    refine XS.astoreN X3.here hexec rfl (hb hbytes d3) rfl rfl rfl ?_
    refine XS.aloadN X3.here hexec rfl (hb hbytes d4) rfl rfl ?_
    refine XS.iloadN X3.here hexec rfl (hb hbytes d5) rfl ?_
    refine XS.aloadN X3.here hexec rfl (hb hbytes d6) rfl rfl ?_
    refine iconstV X3.here hexec rfl 0 (hb hbytes d7) (by decide) ?_
    refine XS.iloadN X3.here hexec rfl (hb hbytes d8) rfl ?_
    exact Steps.refl _)
  obtain ⟨v6, T6, X6, E6, g6⟩ := X3.callS hexec (Cmp5.law l b A s.heap.size B3 o 0 len) hown (wks W (staticW U16 115 Cmp5.yN)) (wk W Cmp5.tab) (W := 0) (Nat.le_of_ble_eq_true rfl) (Nat.le_of_ble_eq_true rfl) (Nat.le_refl _) (by show 0 + len + 0 ≤ len; omega) (g := (mkF m 9 #[.val (.ref b), .val (.int (Int32.ofNat o)), .val (.int (Int32.ofNat len)), .val (.ref s.heap.size), .unset, .unset] [.int (Int32.ofNat len), .int (Int32.ofNat 0), .ref s.heap.size, .int (Int32.ofNat o), .ref b])) rfl (by rw [hml]; rfl) c5 (argsL := [.ref b, .int (Int32.ofNat o), .ref s.heap.size, .int (Int32.ofNat 0), .int (Int32.ofNat len)]) (rest := []) rfl rfl (by show 2 * 0 + 0 ≤ _; decide) (hb hbytes d9) (⟨rfl, hA3, ba3, hne, l1, by rw [bs3]; simp, hp⟩)
  obtain ⟨rfl, B6, p6, f6⟩ := E6
  have c7 : Steps p.tables e below (s₁.setTop (entryFrame m #[.ref b, .int (Int32.ofNat o), .int (Int32.ofNat len)] 6)) (T6.setTop (mkF m 12 #[.val (.ref b), .val (.int (Int32.ofNat o)), .val (.int (Int32.ofNat len)), .val (.ref s.heap.size), .unset, .unset] [.int (Int32.ofNat len)])) := g6
  have c8 : Steps p.tables e below (s₁.setTop (entryFrame m #[.ref b, .int (Int32.ofNat o), .int (Int32.ofNat len)] 6)) (T6.setTop (mkF m 58 #[.val (.ref b), .val (.int (Int32.ofNat o)), .val (.int (Int32.ofNat len)), .val (.ref s.heap.size), .val (.int (Int32.ofNat len)), .unset] [.ref s.heap.size])) := c7.trans (by
    refine XS.istore X6.here hexec rfl (hb hbytes d12) rfl rfl ?_
    refine XS.iload X6.here hexec rfl (hb hbytes d14) rfl ?_
    refine XS.iloadN X6.here hexec rfl (hb hbytes d16) rfl ?_
    refine XS.icmpYes X6.here hexec rfl (pc0 := 17) rfl (hb hbytes d17) rfl (ii_eq_t rfl) (by decide) rfl ?_
    refine XS.aloadN X6.here hexec rfl (hb hbytes d57) rfl rfl ?_
    exact Steps.refl _)
  have X8 := X6.wide (L' := []) (cells' := 1) (slots' := len) (fun x hx hlt => by
    simp only [List.nil_append, copyLocs, List.mem_map, List.mem_range] at hx
    obtain ⟨i, -, rfl⟩ := hx
    exact absurd hlt (Nat.lt_irrefl _)) (Nat.le_refl _) (by omega)
  exact ⟨T6, some (.ref s.heap.size), _, _, _, X8, rfl, rfl, rfl, (fun h => by cases h), ⟨⟨rfl, B6, ba3.like (X3.warmed.alike.symm.trans X6.warmed.alike) p6.1 f6.1 f6.2.1 f6.2.2.1, f6.2.1.trans bv3, by rw [X6.warmed.alike.findClass, f6.1]; exact bf3, by rw [f6.2.2.1, bs3]; simp, fun j hj => by rw [f6.2.2.2 j, if_pos (by omega)]; rfl, kp3.put p6 (Nat.le_refl _)⟩, by rw [p6.2.2, bh3, hh0]; simp⟩, fun fs hl => c8.trans (X8.areturnOut hexec rfl hret rfl (hb hbytes d58) hl)⟩
end Cmp3
namespace CodL
def yN : MethodName := ⟨"java/lang/StringUTF16", "coderFromArrayLen", "([BI)B"⟩
abbrev yB : ByteArray := jdk_52_method_15_code
theorem d0 : decode yB 0 = .ok (.iload_n 1, 1) := by decide +kernel
theorem d1 : decode yB 1 = .ok (.aload_n 0, 1) := by decide +kernel
theorem d2 : decode yB 2 = .ok (.arraylength, 1) := by decide +kernel
theorem d3 : decode yB 3 = .ok (.isub, 1) := by decide +kernel
theorem d4 : decode yB 4 = .ok (.bipush 31, 2) := by decide +kernel
theorem d6 : decode yB 6 = .ok (.iushr, 1) := by decide +kernel
theorem d7 : decode yB 7 = .ok (.i2b, 1) := by decide +kernel
theorem d8 : decode yB 8 = .ok (.ireturn, 1) := by decide +kernel
def site : List Cond := []
def tab : Cond := tabOf yN yB 2 (some .byte) site
def P (d : Addr) (B : Cell) (args : Array Value) (s : State) : Prop := args = #[.ref d, .int (Int32.ofNat B.slots.size)] ∧ Arr .byte d B s
def E (r : Option Value) (s u : State) : Prop := XT.PureE (some (.int 0)) r s u
/-- an array as long as the number of chars: LATIN1 -/
theorem law (l : Launch) (d : Addr) (B : Cell) : Law l yN 2 2 0 0 yB 2 (some .byte) site (P d B) E [] 0 0 := by
  refine Law.of_walk (plainFor_of_name (by decide +kernel)) (by decide +kernel) (by decide +kernel) (by decide) (fun _ _ h => by rw [h.1]; rfl) (fun _ U U' hal hh h => ⟨h.1, h.2.mv hal hh⟩) (fun r U U' V V' h1 hal h2 h => XT.PureE.mv r U U' V V' h1 hal h2 h) ?_
  intro p e s m args below meth c s₁ X0 hexec hbytes hml hret hlk hnm hown hh0 W hP
  obtain ⟨rfl, hB⟩ := hP
  have hB0 := hB.mv X0.warmed.alike hh0
  have c1 : Steps p.tables e below (s₁.setTop (entryFrame m #[.ref d, .int (Int32.ofNat B.slots.size)] 2)) (s₁.setTop (mkF m 0 #[.val (.ref d), .val (.int (Int32.ofNat B.slots.size))] [])) := entry rfl
  have c2 : Steps p.tables e below (s₁.setTop (entryFrame m #[.ref d, .int (Int32.ofNat B.slots.size)] 2)) (s₁.setTop (mkF m 2 #[.val (.ref d), .val (.int (Int32.ofNat B.slots.size))] [.ref d, .int (Int32.ofNat B.slots.size)])) := c1.trans (by
    refine XS.iloadN X0.here hexec rfl (hb hbytes d0) rfl ?_
    refine XS.aloadN X0.here hexec rfl (hb hbytes d1) rfl rfl ?_
    exact Steps.refl _)
  have c3 : Steps p.tables e below (s₁.setTop (entryFrame m #[.ref d, .int (Int32.ofNat B.slots.size)] 2)) (s₁.setTop (mkF m 8 #[.val (.ref d), .val (.int (Int32.ofNat B.slots.size))] [.int (lo8 (ushr (Int32.ofNat B.slots.size - Int32.ofNat B.slots.size) 31))])) := c2.trans (by
    refine X0.alen hexec hB0 rfl rfl (hb hbytes d2) ?_
    refine XS.isub X0.here hexec rfl (hb hbytes d3) rfl ?_
    refine bipushV X0.here hexec rfl 31 (hb hbytes d4) (by decide) ?_
    refine iushr X0.here hexec rfl (hb hbytes d6) rfl ?_
    refine i2b X0.here hexec rfl (hb hbytes d7) rfl ?_
    exact Steps.refl _)
  have e0 : lo8 (ushr (Int32.ofNat B.slots.size - Int32.ofNat B.slots.size) 31) = 0 := by rw [Int32.sub_self]; decide
  rw [e0] at c3
  exact ⟨s₁, some (.int 0), _, _, _, X0, rfl, rfl, rfl, (fun h => by cases h), ⟨rfl, hh0⟩, fun fs hl => c3.trans (X0.ireturnOut hexec hret rfl (Or.inr (Or.inr (Or.inl rfl))) (hb hbytes d8) hl)⟩
end CodL
/-- the String at a is Latin-1 over a new byte[] (the heap's one new cell): the low bytes of the len chars of A from o on; every cell but a is kept -/
def Got (a : Addr) (D : Cell) (fV fC : Field) (A : Cell) (o len : Nat) (r : Option Value) (s u : State) : Prop := r = none ∧ ∃ D' V : Cell, Blank "java/lang/String" a D' u ∧ Same D D' [fV.slot, fC.slot] ∧ D'.slots[fV.slot]? = some (.ref s.heap.size) ∧ D'.slots[fC.slot]? = some (.int 0) ∧ Arr .byte s.heap.size V u ∧ V.vm = .none ∧ u.vm.findClass "[B" = some V.cls ∧ V.slots.size = len ∧ (∀ j, j < len → V.slots[j]? = some (.int (lo8 (cv A (o + j))))) ∧ (∀ (y : Addr) (c : Cell), y ≠ a → s.heap[y]? = some c → u.heap[y]? = some c) ∧ u.heap.size = s.heap.size + 1
theorem Got.mv {a : Addr} {D A : Cell} {fV fC : Field} {o len : Nat} : ∀ r (U U' V V' : State), U'.heap = U.heap → V.vm.Alike V'.vm → V'.heap = V.heap → Got a D fV fC A o len r U V → Got a D fV fC A o len r U' V' :=
  fun r U U' V V' h1 hal h2 ⟨e0, D', X, a1, a2, a3, a4, a5, a6, a7, a8, a9, a10, a11⟩ => ⟨e0, D', X, a1.mv hal h2, a2, by rw [h1]; exact a3, a4, by rw [h1]; exact a5.mv hal h2, a6, by rw [hal.findClass]; exact a7, a8, a9, by rw [h1, h2]; exact a10, by rw [h1, h2]; exact a11⟩
namespace New4
def yN : MethodName := ⟨"java/lang/String", "<init>", "([CIILjava/lang/Void;)V"⟩
abbrev yB : ByteArray := jdk_42_method_149_code
theorem d0 : decode yB 0 = .ok (.aload_n 0, 1) := by decide +kernel
theorem d1 : decode yB 1 = .ok (.invokespecial 1, 3) := by decide +kernel
theorem d4 : decode yB 4 = .ok (.iload_n 3, 1) := by decide +kernel
theorem d5 : decode yB 5 = .ok (.ifCond (.ne) 22, 3) := by decide +kernel
theorem d27 : decode yB 27 = .ok (.getstatic 38, 3) := by decide +kernel
theorem d30 : decode yB 30 = .ok (.ifCond (.eq) 28, 3) := by decide +kernel
theorem d33 : decode yB 33 = .ok (.aload_n 1, 1) := by decide +kernel
theorem d34 : decode yB 34 = .ok (.iload_n 2, 1) := by decide +kernel
theorem d35 : decode yB 35 = .ok (.iload_n 3, 1) := by decide +kernel
theorem d36 : decode yB 36 = .ok (.invokestatic 177, 3) := by decide +kernel
theorem d39 : decode yB 39 = .ok (.astore 5, 2) := by decide +kernel
theorem d41 : decode yB 41 = .ok (.aload_n 0, 1) := by decide +kernel
theorem d42 : decode yB 42 = .ok (.aload 5, 2) := by decide +kernel
theorem d44 : decode yB 44 = .ok (.iload_n 3, 1) := by decide +kernel
theorem d45 : decode yB 45 = .ok (.invokestatic 47, 3) := by decide +kernel
theorem d48 : decode yB 48 = .ok (.putfield 15, 3) := by decide +kernel
theorem d51 : decode yB 51 = .ok (.aload_n 0, 1) := by decide +kernel
theorem d52 : decode yB 52 = .ok (.aload 5, 2) := by decide +kernel
theorem d54 : decode yB 54 = .ok (.putfield 9, 3) := by decide +kernel
theorem d57 : decode yB 57 = .ok (.return_, 1) := by decide +kernel
def site : List Cond := [.fieldLink "java/lang/String" 38 "java/lang/String" "COMPACT_STRINGS" "Z", Cmp3.tab, CodL.tab, .laysFinal "java/lang/String" "java/lang/String" "value" "[B", .fieldLink "java/lang/String" 9 "java/lang/String" "value" "[B", .laysFinal "java/lang/String" "java/lang/String" "coder" "B", .fieldLink "java/lang/String" 15 "java/lang/String" "coder" "B"] ++ objW "java/lang/String" 1 ++ staticW "java/lang/String" 177 Cmp3.yN ++ staticW "java/lang/String" 47 CodL.yN
def tab : Cond := tabOf yN yB 6 none site
def P (a : Addr) (D : Cell) (fV fC : Field) (b : Addr) (A : Cell) (z : Int32) (o len : Nat) (args : Array Value) (s : State) : Prop := args = #[.ref a, .ref b, .int (Int32.ofNat o), .int (Int32.ofNat len), .null] ∧ Blank "java/lang/String" a D s ∧ Found "java/lang/String" "value" "[B" fV s ∧ Found "java/lang/String" "coder" "B" fC s ∧ Ch b A s ∧ StaticIs s "java/lang/String" "COMPACT_STRINGS" "Z" (.int z) ∧ ¬ z = 0 ∧ 0 < len ∧ o + len ≤ A.slots.size ∧ len ≤ 536870912 ∧ ∀ i, i < len → ¬ 255 < cv A (o + i)
def E (a : Addr) (D : Cell) (fV fC : Field) (A : Cell) (o len : Nat) (r : Option Value) (s u : State) : Prop := Got a D fV fC A o len r s u
/-- len > 0, no char of the range above 255: a Latin-1 String of their low bytes -/
theorem law (l : Launch) (a : Addr) (D : Cell) (fV fC : Field) (b : Addr) (A : Cell) (z : Int32) (o len : Nat) : Law l yN 5 4 2 35 yB 6 none site (P a D fV fC b A z o len) (E a D fV fC A o len) [⟨a, fC.slot⟩, ⟨a, fV.slot⟩] 1 len := by
  refine Law.of_walk (plainFor_of_name (by decide +kernel)) (by decide +kernel) (by decide +kernel) (by decide) (fun _ _ h => by rw [h.1]; rfl) (fun _ U U' hal hh h => ⟨h.1, h.2.1.mv hal hh, h.2.2.1.al hal, h.2.2.2.1.al hal, h.2.2.2.2.1.mv hal hh, h.2.2.2.2.2.1.there hal hh, h.2.2.2.2.2.2⟩) (fun r U U' V V' h1 hal h2 h => Got.mv r U U' V V' h1 hal h2 h) ?_
  intro p e s m args below meth c s₁ X0 hexec hbytes hml hret hlk hnm hown hh0 W hP
  obtain ⟨rfl, hB, f1, f2, hA, s1, hz, l0, l1, l2, hp⟩ := hP
  have a31 := hA.1.2.2.2
  have c1 : Steps p.tables e below (s₁.setTop (entryFrame m #[.ref a, .ref b, .int (Int32.ofNat o), .int (Int32.ofNat len), .null] 6)) (s₁.setTop (mkF m 0 #[.val (.ref a), .val (.ref b), .val (.int (Int32.ofNat o)), .val (.int (Int32.ofNat len)), .val .null, .unset] [])) := entry rfl
  have c2 : Steps p.tables e below (s₁.setTop (entryFrame m #[.ref a, .ref b, .int (Int32.ofNat o), .int (Int32.ofNat len), .null] 6)) (s₁.setTop (mkF m 1 #[.val (.ref a), .val (.ref b), .val (.int (Int32.ofNat o)), .val (.int (Int32.ofNat len)), .val .null, .unset] [.ref a])) := c1.trans (by
    refine XS.aloadN X0.here hexec rfl (hb hbytes d0) rfl rfl ?_
    exact Steps.refl _)
  obtain ⟨T3, X3, q3, st3⟩ := X0.oinit hexec hown (wks W (objW "java/lang/String" 1)) (g := (mkF m 1 #[.val (.ref a), .val (.ref b), .val (.int (Int32.ofNat o)), .val (.int (Int32.ofNat len)), .val .null, .unset] [.ref a])) rfl (by rw [hml]; rfl) (rest := []) rfl (hb hbytes d1) (W := 0) (by show 2 * 0 + 0 ≤ _; decide) (Nat.le_of_ble_eq_true rfl) (Nat.le_of_ble_eq_true rfl)
  have hh3 := q3.trans hh0
  have c4 : Steps p.tables e below (s₁.setTop (entryFrame m #[.ref a, .ref b, .int (Int32.ofNat o), .int (Int32.ofNat len), .null] 6)) (T3.setTop (mkF m 27 #[.val (.ref a), .val (.ref b), .val (.int (Int32.ofNat o)), .val (.int (Int32.ofNat len)), .val .null, .unset] [])) := (c2.trans (st3 _ (Steps.refl _))).trans (by
    refine XS.iloadN X3.here hexec rfl (hb hbytes d4) rfl ?_
    refine XS.ifYes X3.here hexec rfl (pc0 := 5) rfl (hb hbytes d5) rfl (i0_ne_t (nz32 (by omega) l0)) (by decide) rfl ?_
    exact Steps.refl _)
  obtain ⟨T5, X5, q5, st5⟩ := X3.sget hexec hown (wk W (.fieldLink "java/lang/String" 38 "java/lang/String" "COMPACT_STRINGS" "Z")) s1 (fun _ _ h => by rw [hh3]; exact h) (g := (mkF m 27 #[.val (.ref a), .val (.ref b), .val (.int (Int32.ofNat o)), .val (.int (Int32.ofNat len)), .val .null, .unset] [])) rfl (hb hbytes d27)
  have hh5 := q5.trans hh3
  have c6 : Steps p.tables e below (s₁.setTop (entryFrame m #[.ref a, .ref b, .int (Int32.ofNat o), .int (Int32.ofNat len), .null] 6)) (T5.setTop (mkF m 30 #[.val (.ref a), .val (.ref b), .val (.int (Int32.ofNat o)), .val (.int (Int32.ofNat len)), .val .null, .unset] [.int z])) := c4.trans (st5 _ (Steps.refl _))
  have c7 : Steps p.tables e below (s₁.setTop (entryFrame m #[.ref a, .ref b, .int (Int32.ofNat o), .int (Int32.ofNat len), .null] 6)) (T5.setTop (mkF m 36 #[.val (.ref a), .val (.ref b), .val (.int (Int32.ofNat o)), .val (.int (Int32.ofNat len)), .val .null, .unset] [.int (Int32.ofNat len), .int (Int32.ofNat o), .ref b])) := c6.trans (by
    refine XS.ifNo X5.here hexec rfl (hb hbytes d30) rfl (i0_eq_f hz) ?_
    refine XS.aloadN X5.here hexec rfl (hb hbytes d33) rfl rfl ?_
    refine XS.iloadN X5.here hexec rfl (hb hbytes d34) rfl ?_
    refine XS.iloadN X5.here hexec rfl (hb hbytes d35) rfl ?_
    exact Steps.refl _)
  obtain ⟨v8, T8, X8, E8, g8⟩ := X5.callS hexec (Cmp3.law l b A o len) hown (wks W (staticW "java/lang/String" 177 Cmp3.yN)) (wk W Cmp3.tab) (W := 0) (Nat.le_of_ble_eq_true rfl) (Nat.le_of_ble_eq_true rfl) (Nat.le_refl _) (by show 0 + len ≤ len; omega) (g := (mkF m 36 #[.val (.ref a), .val (.ref b), .val (.int (Int32.ofNat o)), .val (.int (Int32.ofNat len)), .val .null, .unset] [.int (Int32.ofNat len), .int (Int32.ofNat o), .ref b])) rfl (by rw [hml]; rfl) c7 (argsL := [.ref b, .int (Int32.ofNat o), .int (Int32.ofNat len)]) (rest := []) rfl rfl (by show 2 * 0 + 0 ≤ _; decide) (hb hbytes d36) (⟨rfl, hA.mv X5.warmed.alike hh5, l1, l2, hp⟩)
  obtain ⟨e8, z8⟩ := E8
  obtain ⟨rfl, N, n1, n2, n3, n4, n5, n6⟩ := NewArr.mv _ T5 s _ _ hh5.symm (Vm.Alike.refl _) rfl e8
  rw [hh5] at z8
  have hB1 := hB.keep X8.warmed.alike (n6 _ _ hB.1)
  have hne : s.heap.size ≠ a := (Nat.ne_of_lt (Array.getElem?_eq_some_iff.mp hB.1).1).symm
  have c9 : Steps p.tables e below (s₁.setTop (entryFrame m #[.ref a, .ref b, .int (Int32.ofNat o), .int (Int32.ofNat len), .null] 6)) (T8.setTop (mkF m 39 #[.val (.ref a), .val (.ref b), .val (.int (Int32.ofNat o)), .val (.int (Int32.ofNat len)), .val .null, .unset] [.ref s.heap.size])) := g8
  have c10 : Steps p.tables e below (s₁.setTop (entryFrame m #[.ref a, .ref b, .int (Int32.ofNat o), .int (Int32.ofNat len), .null] 6)) (T8.setTop (mkF m 45 #[.val (.ref a), .val (.ref b), .val (.int (Int32.ofNat o)), .val (.int (Int32.ofNat len)), .val .null, .val (.ref s.heap.size)] [.int (Int32.ofNat N.slots.size), .ref s.heap.size, .ref a])) := by
    have hc : Steps p.tables e below (s₁.setTop (entryFrame m #[.ref a, .ref b, .int (Int32.ofNat o), .int (Int32.ofNat len), .null] 6)) (T8.setTop (mkF m 45 #[.val (.ref a), .val (.ref b), .val (.int (Int32.ofNat o)), .val (.int (Int32.ofNat len)), .val .null, .val (.ref s.heap.size)] [.int (Int32.ofNat len), .ref s.heap.size, .ref a])) := c9.trans (by
      refine XS.astore X8.here hexec rfl (hb hbytes d39) rfl rfl rfl ?_
      refine XS.aloadN X8.here hexec rfl (hb hbytes d41) rfl rfl ?_
      refine XS.aload X8.here hexec rfl (hb hbytes d42) rfl rfl ?_
      refine XS.iloadN X8.here hexec rfl (hb hbytes d44) rfl ?_
      exact Steps.refl _)
    rw [n4]; exact hc
  obtain ⟨v11, T11, X11, E11, g11⟩ := X8.callS hexec (CodL.law l s.heap.size N) hown (wks W (staticW "java/lang/String" 47 CodL.yN)) (wk W CodL.tab) (W := 1) (Nat.le_of_ble_eq_true rfl) (Nat.le_of_ble_eq_true rfl) (Nat.le_refl _) (by show 0 + len + 0 ≤ len; omega) (g := (mkF m 45 #[.val (.ref a), .val (.ref b), .val (.int (Int32.ofNat o)), .val (.int (Int32.ofNat len)), .val .null, .val (.ref s.heap.size)] [.int (Int32.ofNat N.slots.size), .ref s.heap.size, .ref a])) rfl (by rw [hml]; rfl) c10 (argsL := [.ref s.heap.size, .int (Int32.ofNat N.slots.size)]) (rest := [.ref a]) rfl rfl (by show 2 * 0 + (1 + 0) ≤ _; decide) (hb hbytes d45) (⟨rfl, n1⟩)
  obtain ⟨rfl, q11⟩ := E11
  have hB11 := hB1.mv (X8.warmed.alike.symm.trans X11.warmed.alike) q11
  have c12 : Steps p.tables e below (s₁.setTop (entryFrame m #[.ref a, .ref b, .int (Int32.ofNat o), .int (Int32.ofNat len), .null] 6)) (T11.setTop (mkF m 48 #[.val (.ref a), .val (.ref b), .val (.int (Int32.ofNat o)), .val (.int (Int32.ofNat len)), .val .null, .val (.ref s.heap.size)] [.int 0, .ref a])) := g11
  obtain ⟨T13, X13, p13, bl13, sl13, st13⟩ := X11.finit hexec hown (wk W (.fieldLink "java/lang/String" 15 "java/lang/String" "coder" "B")) (Or.inr ⟨_, (wk W (.laysFinal "java/lang/String" "java/lang/String" "coder" "B"))⟩) (Or.inl ⟨rfl, hnm⟩) f2 (Or.inl rfl) hB11 (t := .byte) (by decide +kernel) rfl (g := (mkF m 48 #[.val (.ref a), .val (.ref b), .val (.int (Int32.ofNat o)), .val (.int (Int32.ofNat len)), .val .null, .val (.ref s.heap.size)] [.int 0, .ref a])) rfl (rest := []) rfl (hb hbytes d48)
  have c14 : Steps p.tables e below (s₁.setTop (entryFrame m #[.ref a, .ref b, .int (Int32.ofNat o), .int (Int32.ofNat len), .null] 6)) (T13.setTop (mkF m 54 #[.val (.ref a), .val (.ref b), .val (.int (Int32.ofNat o)), .val (.int (Int32.ofNat len)), .val .null, .val (.ref s.heap.size)] [.ref s.heap.size, .ref a])) := (c12.trans (st13 _ (Steps.refl _))).trans (by
    refine XS.aloadN X13.here hexec rfl (hb hbytes d51) rfl rfl ?_
    refine XS.aload X13.here hexec rfl (hb hbytes d52) rfl rfl ?_
    exact Steps.refl _)
  obtain ⟨T15, X15, p15, bl15, sl15, st15⟩ := X13.finit hexec hown (wk W (.fieldLink "java/lang/String" 9 "java/lang/String" "value" "[B")) (Or.inr ⟨_, (wk W (.laysFinal "java/lang/String" "java/lang/String" "value" "[B"))⟩) (Or.inl ⟨rfl, hnm⟩) f1 (Or.inl rfl) bl13 (t := (.array .byte)) (by decide +kernel) rfl (g := (mkF m 54 #[.val (.ref a), .val (.ref b), .val (.int (Int32.ofNat o)), .val (.int (Int32.ofNat len)), .val .null, .val (.ref s.heap.size)] [.ref s.heap.size, .ref a])) rfl (rest := []) rfl (hb hbytes d54)
  have c16 : Steps p.tables e below (s₁.setTop (entryFrame m #[.ref a, .ref b, .int (Int32.ofNat o), .int (Int32.ofNat len), .null] 6)) (T15.setTop (mkF m 57 #[.val (.ref a), .val (.ref b), .val (.int (Int32.ofNat o)), .val (.int (Int32.ofNat len)), .val .null, .val (.ref s.heap.size)] [])) := c14.trans (st15 _ (Steps.refl _))
  have ap := apart (Or.inr ⟨_, (wk W (.laysFinal "java/lang/String" "java/lang/String" "value" "[B"))⟩) (Or.inr ⟨_, (wk W (.laysFinal "java/lang/String" "java/lang/String" "coder" "B"))⟩) f1 f2 (t₁ := .array .byte) (t₂ := .byte) (by decide +kernel) (by decide +kernel) (by decide)
  have al := X8.warmed.alike.symm.trans X15.warmed.alike
  have n7 : T11.heap[s.heap.size]? = some N := by rw [q11]; exact n1.1
  exact ⟨T15, none, _, _, _, X15, by simp, rfl, by omega, (fun _ => rfl), ⟨rfl, _, N, bl15, ((Same.refl D _).set _ (by simp)).set _ (by simp), sl15, (Cell.slots_setSlot_ne _ ap).trans sl13, n1.keep al (p15.other hne (p13.other hne n7)), n2, by rw [al.findClass]; exact n3, n4, n5, fun y c h1 h2 => p15.other h1 (p13.other h1 (by rw [q11]; exact n6 y c h2)), by rw [p15.2.2, p13.2.2, q11]; exact z8⟩, fun fs hl => c16.trans (X15.returnOut hexec hret (hb hbytes d57) hl)⟩
end New4
namespace New1
def yN : MethodName := ⟨"java/lang/String", "<init>", "([C)V"⟩
abbrev yB : ByteArray := jdk_42_method_3_code
theorem d0 : decode yB 0 = .ok (.aload_n 0, 1) := by decide +kernel
theorem d1 : decode yB 1 = .ok (.aload_n 1, 1) := by decide +kernel
theorem d2 : decode yB 2 = .ok (.iconst 0, 1) := by decide +kernel
theorem d3 : decode yB 3 = .ok (.aload_n 1, 1) := by decide +kernel
theorem d4 : decode yB 4 = .ok (.arraylength, 1) := by decide +kernel
theorem d5 : decode yB 5 = .ok (.aconst_null, 1) := by decide +kernel
theorem d6 : decode yB 6 = .ok (.invokespecial 27, 3) := by decide +kernel
theorem d9 : decode yB 9 = .ok (.return_, 1) := by decide +kernel
def site : List Cond := [New4.tab] ++ initW "java/lang/String" 27 New4.yN
def tab : Cond := tabOf yN yB 2 none site
def P (a : Addr) (D : Cell) (fV fC : Field) (b : Addr) (A : Cell) (z : Int32) (args : Array Value) (s : State) : Prop := args = #[.ref a, .ref b] ∧ Blank "java/lang/String" a D s ∧ Found "java/lang/String" "value" "[B" fV s ∧ Found "java/lang/String" "coder" "B" fC s ∧ Ch b A s ∧ StaticIs s "java/lang/String" "COMPACT_STRINGS" "Z" (.int z) ∧ ¬ z = 0 ∧ 0 < A.slots.size ∧ A.slots.size ≤ 536870912 ∧ ∀ i, i < A.slots.size → ¬ 255 < cv A i
def E (a : Addr) (D : Cell) (fV fC : Field) (A : Cell) (r : Option Value) (s u : State) : Prop := Got a D fV fC A 0 A.slots.size r s u
/-- new String(chars), not empty, no char above 255: a Latin-1 String of their low bytes -/
theorem law (l : Launch) (a : Addr) (D : Cell) (fV fC : Field) (b : Addr) (A : Cell) (z : Int32) : Law l yN 2 1 3 52 yB 2 none site (P a D fV fC b A z) (E a D fV fC A) [⟨a, fC.slot⟩, ⟨a, fV.slot⟩] 1 A.slots.size := by
  refine Law.of_walk (plainFor_of_name (by decide +kernel)) (by decide +kernel) (by decide +kernel) (by decide) (fun _ _ h => by rw [h.1]; rfl) (fun _ U U' hal hh h => ⟨h.1, h.2.1.mv hal hh, h.2.2.1.al hal, h.2.2.2.1.al hal, h.2.2.2.2.1.mv hal hh, h.2.2.2.2.2.1.there hal hh, h.2.2.2.2.2.2⟩) (fun r U U' V V' h1 hal h2 h => Got.mv r U U' V V' h1 hal h2 h) ?_
  intro p e s m args below meth c s₁ X0 hexec hbytes hml hret hlk hnm hown hh0 W hP
  obtain ⟨rfl, hB, f1, f2, hA, s1, hz, l0, l2, hp⟩ := hP
  have c1 : Steps p.tables e below (s₁.setTop (entryFrame m #[.ref a, .ref b] 2)) (s₁.setTop (mkF m 0 #[.val (.ref a), .val (.ref b)] [])) := entry rfl
  have c2 : Steps p.tables e below (s₁.setTop (entryFrame m #[.ref a, .ref b] 2)) (s₁.setTop (mkF m 6 #[.val (.ref a), .val (.ref b)] [.null, .int (Int32.ofNat A.slots.size), .int 0, .ref b, .ref a])) := c1.trans (by
    refine XS.aloadN X0.here hexec rfl (hb hbytes d0) rfl rfl ?_
    refine XS.aloadN X0.here hexec rfl (hb hbytes d1) rfl rfl ?_
    refine iconstV X0.here hexec rfl 0 (hb hbytes d2) (by decide) ?_
    refine XS.aloadN X0.here hexec rfl (hb hbytes d3) rfl rfl ?_
    refine X0.alen hexec (hA.1.mv X0.warmed.alike hh0) rfl rfl (hb hbytes d4) ?_
    refine XS.aconstNull X0.here hexec rfl (hb hbytes d5) ?_
    exact Steps.refl _)
  obtain ⟨v3, T3, X3, E3, g3⟩ := X0.callN hexec (New4.law l a D fV fC b A z 0 A.slots.size) rfl hown (wks W (initW "java/lang/String" 27 New4.yN)) (W New4.tab (by simp only [site, List.mem_cons, List.mem_append, true_or, or_true])) (W := 0) (Nat.le_of_ble_eq_true rfl) (Nat.le_of_ble_eq_true rfl) (Nat.le_refl _) (by show 0 + A.slots.size ≤ A.slots.size; omega) (g := (mkF m 6 #[.val (.ref a), .val (.ref b)] [.null, .int (Int32.ofNat A.slots.size), .int (Int32.ofNat 0), .ref b, .ref a])) rfl (by rw [hml]; rfl) c2 (argsL := [.ref b, .int (Int32.ofNat 0), .int (Int32.ofNat A.slots.size), .null]) (rest := []) rfl rfl (by show 2 * 0 + 0 ≤ _; decide) (hb hbytes d6) (⟨rfl, hB.mv X0.warmed.alike hh0, f1.al X0.warmed.alike, f2.al X0.warmed.alike, hA.mv X0.warmed.alike hh0, s1.there X0.warmed.alike hh0, hz, l0, by omega, l2, fun i hi => by rw [Nat.zero_add]; exact hp i hi⟩)
  have e0 := Got.mv _ s₁ s _ _ hh0.symm (Vm.Alike.refl _) rfl E3
  obtain rfl := e0.1
  have c4 : Steps p.tables e below (s₁.setTop (entryFrame m #[.ref a, .ref b] 2)) (T3.setTop (mkF m 9 #[.val (.ref a), .val (.ref b)] [])) := g3
  exact ⟨T3, none, _, _, _, X3, by simp, rfl, by omega, (fun _ => rfl), e0, fun fs hl => c4.trans (X3.returnOut hexec hret (hb hbytes d9) hl)⟩
theorem pays {l : Launch} {R : Room} {p : Program} {e : Env} {below : List Frame} {s : State} {sargs : Array Value} {len W : Nat} (a : Addr) (D : Cell) (fV fC : Field) (b : Addr) (A : Cell) (z : Int32) (htab : tab.before sargs s = true) (hfr : 4 ≤ R.frames) (hlo : W + 65 ≤ R.locals) :
    Back l R p e below s sargs yN len W (fun A₁ a₁ => A₁.cells + 1 ≤ R.cells ∧ A₁.slots + A.slots.size ≤ R.slots ∧ P a D fV fC b A z a₁ A₁.U) (fun A₁ _ v₁ B₁ => E a D fV fC A v₁ A₁.U B₁.U ∧ B₁.locs = A₁.locs ++ [⟨a, fC.slot⟩, ⟨a, fV.slot⟩] ∧ B₁.cells = A₁.cells + 1 ∧ B₁.slots = A₁.slots + A.slots.size) :=
  (law l a D fV fC b A z).pays htab hfr (by omega)
end New1
end StrChars
namespace StrChars.Road
open Jvm Sem ClassFile Op Lib Jvm.Stand Jvm.Free Jvm.Free.XT
open Jvm.Lib.Cold (StaticIs)
abbrev ST : String := "java/lang/String"
/-- every table word that New1's law asks, flat -/
abbrev words : List Jvm.Cond := [.code New1.yN New1.yB 2 none, .initialized ST, .methodLink ST 27 New4.yN, .instanceMethod New4.yN,
  .code New4.yN New4.yB 6 none, .fieldLink ST 38 ST "COMPACT_STRINGS" "Z", .laysFinal ST ST "value" "[B", .fieldLink ST 9 ST "value" "[B", .laysFinal ST ST "coder" "B", .fieldLink ST 15 ST "coder" "B",
  .methodLink ST 1 Lib.objectInit, .instanceMethod Lib.objectInit, .code Lib.objectInit ⟨#[0xb1]⟩ 1 none, .methodLink ST 177 Cmp3.yN, .static Cmp3.yN, .methodLink ST 47 CodL.yN, .static CodL.yN,
  .code Cmp3.yN Cmp3.yB 6 (some (.array .byte)), .initialized U16, .arrayClass .byte, .methodLink U16 115 Cmp5.yN, .static Cmp5.yN, .code Cmp5.yN Cmp5.yB 7 (some .int), .code CodL.yN CodL.yB 2 (some .byte)]
theorem tab_of {a : Array Value} {s : State} (h : ∀ w ∈ words, w.before a s = true) : New1.tab.before a s = true := by
  have h5 : Cmp5.tab.before a s = true := unparts (wk h (.code Cmp5.yN Cmp5.yB 7 (some .int))) (wks h (.initialized Cmp5.yN.cls :: Cmp5.site))
  have hc : CodL.tab.before a s = true := unparts (wk h (.code CodL.yN CodL.yB 2 (some .byte))) (wks h (.initialized CodL.yN.cls :: CodL.site))
  have q5 : ∀ w ∈ Cmp5.tab :: words, w.before a s = true := fun w hw => (List.mem_cons.mp hw).elim (fun e => e ▸ h5) (h w)
  have h3 : Cmp3.tab.before a s = true := unparts (wk q5 (.code Cmp3.yN Cmp3.yB 6 (some (.array .byte)))) (wks q5 (.initialized Cmp3.yN.cls :: Cmp3.site))
  have q3 : ∀ w ∈ Cmp3.tab :: CodL.tab :: words, w.before a s = true := fun w hw => (List.mem_cons.mp hw).elim (fun e => e ▸ h3) fun hw => (List.mem_cons.mp hw).elim (fun e => e ▸ hc) (h w)
  have h4 : New4.tab.before a s = true := unparts (wk q3 (.code New4.yN New4.yB 6 none)) (wks q3 (.initialized New4.yN.cls :: New4.site))
  have q4 : ∀ w ∈ New4.tab :: words, w.before a s = true := fun w hw => (List.mem_cons.mp hw).elim (fun e => e ▸ h4) (h w)
  exact unparts (wk q4 (.code New1.yN New1.yB 2 none)) (wks q4 (.initialized New1.yN.cls :: New1.site))
/-- the words ride from the start Z to the walk's own state -/
theorem moved {Z s : State} {a0 args : Array Value} (hZ : Z.Warmed39 s.vm) (hw : ∀ d ∈ words, d.before a0 Z = true) : ∀ d ∈ words, d.before args s = true := fun d hd => by
  have q := hw d hd
  have t : ∀ d ∈ words, d = .arrayClass .byte ∨ (d.onTables && d.keepsFace) = true := by decide +kernel
  rcases t d hd with rfl | t
  · exact RoadKit.mvA hZ q
  · exact RoadKit.mv hZ q t
/-- WHAT COMES BACK, over the tables of the start Z: h the heap at the call, h' behind it -/
def Q (Z : State) (x : Addr) (A : Cell) (h : Heap) (v : Option Value) (h' : Heap) (L : List Loc) : Prop := v = none ∧ (∀ y ∈ L, y.base = x) ∧ RoadKit.Keep h h' [x] ∧ h'.size = h.size + 1 ∧ RoadKit.Exa Z h' x ST ∧ RoadKit.Fld Z h' x ST "value" "[B" (.ref h.size) ∧ RoadKit.Fld Z h' x ST "coder" "B" (.int 0) ∧
  (∃ V : Cell, RoadKit.Arr Z h' h.size V .byte ∧ V.vm = .none ∧ Z.vm.findClass "[B" = some V.cls ∧ V.slots.size = A.slots.size ∧ ∀ j, j < A.slots.size → V.slots[j]? = some (.int (lo8 (cv A j)))) ∧
  ∀ (O n d : String) (w : Value), RoadKit.Fld Z h x O n d w → RoadKit.slotOf Z O n d ≠ RoadKit.slotOf Z ST "value" "[B" → RoadKit.slotOf Z O n d ≠ RoadKit.slotOf Z ST "coder" "B" → RoadKit.Fld Z h' x O n d w
/-- **new String(chars) AT A CALL, IN THE ROAD'S FORM**: for specialBack behind newO: x the fresh String, b the char[] with the cell A -/
theorem back {p : Program} {l : Launch} {e : Env} {R : Room} {s : State} {args : Array Value} {below : List Frame} {len W : Nat} {Z : State} {a0 : Array Value} {h : Heap} (hZ : Z.Warmed39 s.vm) (hw : ∀ d ∈ words, d.before a0 Z = true) {kI : Nat} (wi : (Jvm.Cond.instantiable ST kI).before a0 Z = true)
    {x b : Addr} {A : Cell} {z : Int32} {v0 c0 : Value} (E : RoadKit.Exa Z h x ST) (V : RoadKit.Fld Z h x ST "value" "[B" v0) (C : RoadKit.Fld Z h x ST "coder" "B" c0) (K : RoadKit.Arr Z h b A .char) (hty : Typed .char A) (S : RoadKit.Sta Z h ST "COMPACT_STRINGS" "Z" (.int z)) (hz : ¬ z = 0)
    (l0 : 0 < A.slots.size) (l2 : A.slots.size ≤ 536870912) (hp : ∀ i, i < A.slots.size → ¬ 255 < cv A i) (hfr : 4 ≤ R.frames) (hlo : W + 65 ≤ R.locals) :
    Back l R p e below s args New1.yN len W (fun P a => a = #[.ref x, .ref b] ∧ P.U.heap = h ∧ P.cells + 1 ≤ R.cells ∧ P.slots + A.slots.size ≤ R.slots)
      (fun P _ v B => ∃ L, Q Z x A h v B.U.heap L ∧ B.locs = P.locs ++ L ∧ B.cells = P.cells + 1 ∧ B.slots = P.slots + A.slots.size) := by
  intro m meth c P g ig mk a X hg hsize hdg hW hn hp'
  obtain ⟨rfl, rfl, r1, r2⟩ := hp'
  have al : Z.vm.Alike P.U.vm := hZ.alike.trans X.warmed.alike
  obtain ⟨D, cfV, kV, iV, fV, hD, gV, stV, knV, obV, asV, slV⟩ := id V
  obtain ⟨D', cfC, kC, iC, fC, hD', gC, stC, -, -, asC, slC⟩ := id C
  cases hD.symm.trans hD'
  obtain ⟨D2, kD, e1, e2, e3, e4, e5⟩ := id E
  cases hD.symm.trans e1
  obtain ⟨c2, k2, i1, i2, i3, -⟩ := Cond.instantiable_spec wi
  cases e2.symm.trans i1
  cases e3.symm.trans i2
  obtain ⟨kU, u1, u2⟩ := al.2.2 _ _ e3
  have hB : Blank ST x D P.U := ⟨hD, ⟨knV, fun q hq => by rw [hq] at obV; cases obV⟩, by rw [al.findClass]; exact e2, kU, u1, by rw [u2]; exact i3, by rw [u2]; exact e5 i3⟩
  have F1 : Found ST "value" "[B" fV P.U := ⟨SBG.found_only al ⟨cfV, kV, iV, gV⟩, stV⟩
  have F2 : Found ST "coder" "B" fC P.U := ⟨SBG.found_only al ⟨cfC, kC, iC, gC⟩, stC⟩
  have hA : Ch b A P.U := ⟨⟨K.1, State.isArrayOf_alike al K.2.1, K.2.2, by omega⟩, hty⟩
  have hS : StaticIs P.U ST "COMPACT_STRINGS" "Z" (.int z) := by
    obtain ⟨cfS, iS, kS, fS, st, cS, t1, t2, t3, t4, t5, t6, t7⟩ := S
    exact StaticIs.there (s := { Z with heap := P.U.heap }) ⟨cfS, iS, kS, fS, st, cS, t1, t2, t3, t4, t5, (fun q => by rw [q] at t6; cases t6), t7⟩ al rfl
  obtain ⟨v, B, X', ⟨⟨hv, E', V', q1, q2, q3, q4, q5, q6, q7, q8, q9, q10, q11⟩, hl, hc, hs⟩, st⟩ := New1.pays x D fV fC b A z (tab_of (moved hZ hw)) hfr hlo m meth c P g ig mk _ X hg hsize hdg hW hn ⟨r1, r2, rfl, hB, F1, F2, hA, hS, hz, l0, l2, hp⟩
  have al' : Z.vm.Alike B.U.vm := hZ.alike.trans X'.warmed.alike
  have hsz : E'.slots.size = D.slots.size := by
    obtain ⟨-, -, -, kB, w1, w2, w3⟩ := q1
    obtain ⟨kB', y1, y2⟩ := al'.2.2 _ _ e3
    rw [q2.2.1] at w1
    cases w1.symm.trans y1
    rw [w3, e5 i3, y2]
  refine ⟨v, B, X', ⟨_, ⟨hv, ?_, ⟨by omega, fun y cy hy hn' => q10 y cy (by simpa using hn') hy, fun y cy hy => ?_⟩, q11, ⟨E', _, q1.1, by rw [q2.2.1]; exact e2, by rw [q2.2.1]; exact e3, by rw [q2.1]; exact obV, fun _ => by rw [hsz]; exact e5 i3⟩,
    ⟨E', cfV, kV, iV, fV, q1.1, gV, stV, by rw [q2.1]; exact knV, by rw [q2.1]; exact obV, by rw [q2.2.1]; exact asV, q3⟩, ⟨E', cfC, kC, iC, fC, q1.1, gC, stC, by rw [q2.1]; exact knV, by rw [q2.1]; exact obV, by rw [q2.2.1]; exact asC, q4⟩,
    ⟨V', ⟨q5.1, State.isArrayOf_alike al'.symm q5.2.1, q5.2.2.1⟩, q6, by rw [← al'.findClass]; exact q7, q8, fun j hj => by have := q9 j hj; rwa [Nat.zero_add] at this⟩, fun O n d w F n1 n2 => ?_⟩, hl, hc, hs⟩, st⟩
  · intro y hy
    simp only [List.mem_cons, List.not_mem_nil, or_false] at hy
    rcases hy with rfl | rfl <;> rfl
  · by_cases q : y = x
    · subst q
      cases hD.symm.trans hy
      exact ⟨E', q1.1, q2.2.1, q2.1, hsz⟩
    · exact ⟨cy, q10 y cy q hy, rfl, rfl, rfl⟩
  · obtain ⟨D3, cf, k, i, f, g1, g2, g3, g4, g5, g6, g7⟩ := F
    cases hD.symm.trans g1
    simp only [RoadKit.slotOf, g2, gV, gC, Option.map_some, Option.getD_some] at n1 n2
    exact ⟨E', cf, k, i, f, q1.1, g2, g3, by rw [q2.1]; exact g4, by rw [q2.1]; exact g5, by rw [q2.2.1]; exact g6, by rw [q2.2.2 f.slot (by simp [n1, n2])]; exact g7⟩
end StrChars.Road
namespace StrChars.Road
open Jvm Sem ClassFile Op Lib Jvm.Stand Jvm.Free Jvm.Free.XT
/-- WHAT COMES BACK, the byte[] as a list of values -/
def QA (Z : State) (x : Addr) (zn : Int32) (cs : List Int32) (h : Heap) (v : Option Value) (h' : Heap) (L : List Loc) : Prop := v = none ∧ (∀ y ∈ L, y.base = x) ∧ RoadKit.Keep h h' [x] ∧ h'.size = h.size + 1 ∧ RoadKit.Exa Z h' x ST ∧ RoadKit.Fld Z h' x ST "value" "[B" (.ref h.size) ∧ RoadKit.Fld Z h' x ST "coder" "B" (.int 0) ∧
  (∃ kb, Z.vm.findClass "[B" = some kb ∧ RoadKit.Arv Z h' h.size kb .byte zn (cs.map fun c => .int (lo8 c)) (.int 0)) ∧
  ∀ (O n d : String) (w : Value), RoadKit.Fld Z h x O n d w → RoadKit.slotOf Z O n d ≠ RoadKit.slotOf Z ST "value" "[B" → RoadKit.slotOf Z O n d ≠ RoadKit.slotOf Z ST "coder" "B" → RoadKit.Fld Z h' x O n d w
/-- **new String(chars) AT A CALL, THE ARRAYS AS LISTS**: the char[] at b holds cs, not empty, no char above 255 -/
theorem backArv {p : Program} {l : Launch} {e : Env} {R : Room} {s : State} {args : Array Value} {below : List Frame} {len W : Nat} {Z : State} {a0 : Array Value} {h : Heap} (hZ : Z.Warmed39 s.vm) (hw : ∀ d ∈ words, d.before a0 Z = true) {kI : Nat} (wi : (Jvm.Cond.instantiable ST kI).before a0 Z = true)
    {x b : Addr} {k : ClassId} {zn z : Int32} {cs : List Int32} {dv v0 c0 : Value} (E : RoadKit.Exa Z h x ST) (V : RoadKit.Fld Z h x ST "value" "[B" v0) (C : RoadKit.Fld Z h x ST "coder" "B" c0) (K : RoadKit.Arv Z h b k .char zn (cs.map Value.int) dv) (S : RoadKit.Sta Z h ST "COMPACT_STRINGS" "Z" (.int z)) (hz : ¬ z = 0)
    (hlen : zn.toNatClampNeg = cs.length) (h0 : 0 < cs.length) (hbig : cs.length ≤ 536870912) (hall : ∀ c ∈ cs, ¬ 255 < c) (hfr : 4 ≤ R.frames) (hlo : W + 65 ≤ R.locals) :
    Back l R p e below s args New1.yN len W (fun P a => a = #[.ref x, .ref b] ∧ P.U.heap = h ∧ P.cells + 1 ≤ R.cells ∧ P.slots + cs.length ≤ R.slots)
      (fun P _ v B => ∃ L, QA Z x zn cs h v B.U.heap L ∧ B.locs = P.locs ++ L ∧ B.cells = P.cells + 1 ∧ B.slots = P.slots + cs.length) := by
  obtain ⟨A, K1, K2, K3, K4, K5, K6⟩ := K
  have e : A.slots.size = cs.length := K3.trans hlen
  have hat : ∀ (i : Nat) (hi : i < cs.length), A.slots[i]? = some (.int cs[i]) := fun i hi => by rw [K5 i (by omega)]; simp [List.getD_eq_getElem?_getD, hi]
  have hcv : ∀ (i : Nat) (hi : i < cs.length), cv A i = cs[i] := fun i hi => by unfold cv; rw [hat i hi]
  have hty : Typed .char A := fun i v hv => by
    have hi : i < A.slots.size := (Array.getElem?_eq_some_iff.mp hv).1
    have q := K5 i hi
    rw [hv] at q
    rw [Option.some.inj q]
    exact K6 i hi
  refine Back.mono (back hZ hw wi E V C K1 hty S hz (by omega) (by omega) (fun i hi => by rw [hcv i (by omega)]; exact hall _ (List.getElem_mem _)) hfr hlo) (fun P a hp => ⟨hp.1, hp.2.1, hp.2.2.1, by rw [e]; exact hp.2.2.2⟩) (fun P a v B hp hq => ?_)
  obtain ⟨L, ⟨q1, q2, q3, q4, q5, q6, q7, ⟨V', v1, v2, v3, v4, v5⟩, q9⟩, hl, hc, hs⟩ := hq
  refine ⟨L, ⟨q1, q2, q3, q4, q5, q6, q7, ⟨V'.cls, v3, V', v1, rfl, by rw [v4, e, hlen], K4, fun i hi => ?_, fun i hi => ?_⟩, q9⟩, hl, hc, by rw [hs, e]⟩
  · have hi' : i < cs.length := by omega
    rw [v5 i (by omega), hcv i hi']; simp [List.getD_eq_getElem?_getD, hi']
  · have hi' : i < cs.length := by omega
    simp only [List.getD_eq_getElem?_getD, List.getElem?_map, List.getElem?_eq_getElem hi', Option.map_some, Option.getD_some]
    exact fits_lo8 _
end StrChars.Road
namespace StrChars.Road
open Jvm Sem ClassFile Op Lib Jvm.Stand Jvm.Free Jvm.Free.XT
/-- WHAT COMES BACK, in the writer's own shape -/
def QV (Z : State) (x : Addr) (N : Int32) (bs : List Int32) (h : Heap) (n0 : Nat) (v : Option Value) (h' : Heap) (L : List Loc) : Prop := v = none ∧ RoadKit.Fr n0 L ∧ RoadKit.Keep h h' [x] ∧ RoadKit.Exa Z h' x ST ∧ RoadKit.Fld Z h' x ST "coder" "B" (.int 0) ∧
  ∃ (t : Addr) (kb : ClassId), n0 ≤ t ∧ h.size ≤ t ∧ ¬ t = x ∧ RoadKit.Fld Z h' x ST "value" "[B" (.ref t) ∧ RoadKit.Arv Z h' t kb .byte N (bs.map Value.int) (.int 0)
/-- **new String(chars) AT A CALL, FOR THE WRITER**: a char[] of n known ints, each 0 to 255 -/
theorem backV {p : Program} {l : Launch} {e : Env} {R : Room} {s : State} {args : Array Value} {below : List Frame} {len W : Nat} {Z : State} {a0 : Array Value} {h : Heap} (hZ : Z.Warmed39 s.vm) (hw : ∀ d ∈ words, d.before a0 Z = true) {kI : Nat} (wi : (Jvm.Cond.instantiable ST kI).before a0 Z = true)
    {x b : Addr} {kC : ClassId} {cs bs : List Int32} {d v0 c0 : Value} {z N : Int32} {n n0 : Nat} (hx0 : n0 ≤ x) (hh0 : n0 ≤ h.size) (E : RoadKit.Exa Z h x ST) (V : RoadKit.Fld Z h x ST "value" "[B" v0) (C : RoadKit.Fld Z h x ST "coder" "B" c0) (K : RoadKit.Arv Z h b kC .char N (cs.map Value.int) d) (S : RoadKit.Sta Z h ST "COMPACT_STRINGS" "Z" (.int z)) (hz : ¬ z = 0)
    (hn : cs.length = n) (hN : N = Int32.ofNat n) (l0 : 0 < n) (l2 : n ≤ 4000) (hp : ∀ c ∈ cs, ¬ c < 0 ∧ ¬ (255 : Int32) < c) (hb : bs = cs.map (fun c => c.toInt8.toInt32)) (hfr : 4 ≤ R.frames) (hlo : W + 65 ≤ R.locals) :
    Back l R p e below s args (⟨"java/lang/String", "<init>", "([C)V"⟩ : MethodName) len W (fun P a => a = #[.ref x, .ref b] ∧ P.U.heap = h ∧ P.cells + 1 ≤ R.cells ∧ P.slots + n ≤ R.slots)
      (fun P _ v B => ∃ L, QV Z x N bs h n0 v B.U.heap L ∧ B.locs = P.locs ++ L ∧ B.cells = P.cells + 1 ∧ B.slots = P.slots + n) := by
  subst hn hN hb
  refine Back.mono (backArv hZ hw wi E V C K S hz (n32 (by omega)) l0 (by omega) (fun c hc => (hp c hc).2) hfr hlo) (fun P a hp => hp) (fun P a v B hp hq => ?_)
  obtain ⟨L, ⟨q1, q2, q3, q4, q5, q6, q7, ⟨kb, v1, v2⟩, q9⟩, hl, hc, hs⟩ := hq
  exact ⟨L, ⟨q1, fun y hy => by rw [q2 y hy]; exact hx0, q3, q5, q7, h.size, kb, hh0, Nat.le_refl _, Nat.ne_of_gt E.lt, q6, by rw [List.map_map]; exact v2⟩, hl, hc, hs⟩
end StrChars.Road
end Jvm.Pilot.@@N@@
namespace Jvm.Pilot.@@N@@
open Jvm Jvm.ClassFile Sem Op Lib Jvm.Free Jvm.Stand Jvm.LawKit Jvm.RoadKit Bundle Jvm.Pilot.@@N@@.Jvm.D
def own_Go (tb : Tables) (e : Env) (below : List Frame) (P : State → Prop) (A : State) : Prop := ∃ t, Steps tb e below A t ∧ P t
theorem own_go {tb : Tables} {e : Env} {below : List Frame} {P : State → Prop} {A B : State} (h : ∀ t, Steps tb e below B t → Steps tb e below A t) (g : own_Go tb e below P B) : own_Go tb e below P A := by
  obtain ⟨t, h1, h2⟩ := g
  exact ⟨t, h t h1, h2⟩
theorem own_fin {tb : Tables} {e : Env} {below : List Frame} {A : State} {Qq : Outcome → State → Prop} (g : own_Go tb e below (fun t => ∃ o, t.status = .running ∧ Ended t below o ∧ Qq o t) A) : ∃ t o, Steps tb e below A t ∧ t.status = .running ∧ Ended t below o ∧ Qq o t := by
  obtain ⟨t, h1, o, h2, h3, h4⟩ := g
  exact ⟨t, o, h1, h2, h3, h4⟩
theorem own_ret {tb : Tables} {e : Env} {below : List Frame} {P : State → Prop} {A t : State} (h : Steps tb e below A t) (q : P t) : own_Go tb e below P A := ⟨t, h, q⟩
def own_M (l : Launch) (y : MethodName) (bytes : ByteArray) (maxL : Nat) (ret : Option FieldType) (ws : List Jvm.Cond) (rm : Room) (Z : State) (as : Array Value) (h0 : Heap) (Q : Option Value → Heap → List Loc → Prop) : Prop := MetFree l y (head1 (Jvm.Cond.code y bytes maxL ret :: ws) rm) (fun aR UR => aR = as ∧ Z.Warmed39 UR.vm ∧ UR.heap = h0) (fun _ _ _ _ _ => True) (fun _ UR oR UR' => ∃ vR LR, oR = .returned vR ∧ Q vR UR'.heap LR ∧ FrameEnd UR oR UR' LR rm.cells rm.slots)
theorem own_body {l : Launch} {y : MethodName} {bytes : ByteArray} {maxL : Nat} {ret : Option FieldType} {ws : List Jvm.Cond} {rm : Room} {Z : State} {as : Array Value} {h0 : Heap} {Q : Option Value → Heap → List Loc → Prop} {own : String} {f : MethodId → JFrame} (ho : y.cls = own) (hx : plainFor y = true) (ef : ∀ m, entryFrame m as maxL = f m) (k : ∀ (p : Program) (e : Env) (s : State) (m : MethodId) (below : List Frame) (meth : Method) (c : Code) (s₁ : State), BodyLoose p l y (head1 (Jvm.Cond.code y bytes maxL ret :: ws) rm) bytes maxL ret e s m as below meth c s₁ → c.maxLocals = maxL → Z.Warmed39 s.vm → s.heap = h0 → p.tables.exec = Jvm.exec → c.code = bytes → s.vm.findClass own = some m.cls → Stand p l e rm s m as below meth c s₁ [] 0 0 → s₁.heap = h0 → own_Go p.tables e below (fun t => ∃ o, t.status = .running ∧ Ended t below o ∧ ∃ vR LR, o = .returned vR ∧ Q vR t.heap LR ∧ FrameEnd s o t LR rm.cells rm.slots) (s₁.setTop (f m))) : own_M l y bytes maxL ret ws rm Z as h0 Q := by
  subst ho
  refine MetFree.of_bodySF hx hisR ?_
  intro p e s m args below meth c s₁ Bd hml hP hK
  obtain ⟨rfl, hZ, hh⟩ := hP
  exact own_fin (own_go (fun tT kK => castTop (ef m) kK) (k p e s m below meth c s₁ Bd hml hZ hh Bd.exec Bd.bytes (findClass_of_methodNamed Bd.named) (Stand.of_body Bd) (by rw [← hh, Bd.state]; rfl)))
def own_MH (l : Launch) (y : MethodName) (bytes : ByteArray) (maxL : Nat) (ret : Option FieldType) (ws : List Jvm.Cond) (rm : Room) (Z : State) (as : Array Value) (h0 : Heap) (Q : Option Value → Heap → List Loc → Prop) (EL : List (String × Nat)) : Prop := MetFree l y (head1 (Jvm.Cond.code y bytes maxL ret :: ws) rm) (fun aR UR => aR = as ∧ Z.Warmed39 UR.vm ∧ UR.heap = h0 ∧ CHv Z EL UR.vm h0) (fun _ _ _ _ _ => True) (fun _ UR oR UR' => ∃ vR LR, oR = .returned vR ∧ Q vR UR'.heap LR ∧ CHr Z EL UR.vm UR.heap UR'.vm UR'.heap ∧ ReturnedEndW UR oR UR' LR rm.cells rm.slots)
theorem own_bodyH {l : Launch} {y : MethodName} {bytes : ByteArray} {maxL : Nat} {ret : Option FieldType} {ws : List Jvm.Cond} {rm : Room} {Z : State} {as : Array Value} {h0 : Heap} {Q : Option Value → Heap → List Loc → Prop} {EL : List (String × Nat)} {own : String} {f : MethodId → JFrame} (ho : y.cls = own) (hx : plainFor y = true) (ef : ∀ m, entryFrame m as maxL = f m) (k : ∀ (p : Program) (e : Env) (s : State) (m : MethodId) (below : List Frame) (meth : Method) (c : Code) (s₁ : State), BodyLoose p l y (head1 (Jvm.Cond.code y bytes maxL ret :: ws) rm) bytes maxL ret e s m as below meth c s₁ → c.maxLocals = maxL → Z.Warmed39 s.vm → s.heap = h0 → p.tables.exec = Jvm.exec → c.code = bytes → s.vm.findClass own = some m.cls → Stand p l e rm s m as below meth c s₁ [] 0 0 → s₁.heap = h0 → s.Since s.vm h0.size → CHv Z EL s.vm h0 → own_Go p.tables e below (fun t => ∃ o, t.status = .running ∧ Ended t below o ∧ ∃ vR LR, o = .returned vR ∧ Q vR t.heap LR ∧ CHr Z EL s.vm s.heap t.vm t.heap ∧ ReturnedEndW s o t LR rm.cells rm.slots) (s₁.setTop (f m))) : own_MH l y bytes maxL ret ws rm Z as h0 Q EL := by
  subst ho
  refine MetFree.of_bodySF hx hisR ?_
  intro p e s m args below meth c s₁ Bd hml hP hK
  obtain ⟨rfl, hZ, hh, CH0⟩ := hP
  exact own_fin (own_go (fun tT kK => castTop (ef m) kK) (k p e s m below meth c s₁ Bd hml hZ hh Bd.exec Bd.bytes (findClass_of_methodNamed Bd.named) (Stand.of_body Bd) (by rw [← hh, Bd.state]; rfl) ((State.WarmedH.refl s).since _) CH0))
theorem own_sh {tb : Tables} {e : Env} {below : List Frame} {P : State → Prop} {T : State} {m : MethodId} (pc : Nat) (Ls : Array Slot) (st : List Value) (g : own_Go tb e below P (T.setTop (mkF m pc Ls st))) : own_Go tb e below P (T.setTop (mkF m pc Ls st)) := g
theorem own_nn {a b : Nat} (h : ¬ a = b) : a ≠ b := h
theorem own_ll {a b : Nat} (h : a < b) : a < b := h
theorem own_w {Z : State} {a0 : Array Value} {tab : List Jvm.Cond} (hw : ∀ d ∈ tab, d.before a0 Z = true) (i : Nat) {d : Jvm.Cond} (h : tab[i]? = some d) : d.before a0 Z = true := hw d (List.mem_of_getElem? h)
theorem own_iloadN {tb : Tables} [Ours tb] {e : Env} {below : List Frame} {T : State} {m : MethodId} {c : Code} {P : State → Prop} {pc : Nat} {Ls : Array Slot} {st : List Value} {bc : ByteArray} (h : At T m c below) (hx : tb.exec = Jvm.exec) (hby : c.code = bc) {k : Fin 4} {v : Int32} (hd : decode bc pc = .ok (.iload_n k, 1)) (hl : Ls[k.val]? = some (.val (.int v))) (g : own_Go tb e below P (T.setTop (mkF m (pc + 1) Ls ((.int v) :: st)))) : own_Go tb e below P (T.setTop (mkF m pc Ls (st))) := own_go (fun t k => XS.iloadN h hx rfl (hb hby hd) hl k) g
theorem own_iload {tb : Tables} [Ours tb] {e : Env} {below : List Frame} {T : State} {m : MethodId} {c : Code} {P : State → Prop} {pc : Nat} {Ls : Array Slot} {st : List Value} {bc : ByteArray} (h : At T m c below) (hx : tb.exec = Jvm.exec) (hby : c.code = bc) {k : Nat} {v : Int32} (hd : decode bc pc = .ok (.iload k, 2)) (hl : Ls[k]? = some (.val (.int v))) (g : own_Go tb e below P (T.setTop (mkF m (pc + 2) Ls ((.int v) :: st)))) : own_Go tb e below P (T.setTop (mkF m pc Ls (st))) := own_go (fun t k => XS.iload h hx rfl (hb hby hd) hl k) g
theorem own_aloadN {tb : Tables} [Ours tb] {e : Env} {below : List Frame} {T : State} {m : MethodId} {c : Code} {P : State → Prop} {pc : Nat} {Ls : Array Slot} {st : List Value} {bc : ByteArray} (h : At T m c below) (hx : tb.exec = Jvm.exec) (hby : c.code = bc) {k : Fin 4} {v : Value} (hd : decode bc pc = .ok (.aload_n k, 1)) (hl : Ls[k.val]? = some (.val v)) (hv : v.isRef = true) (g : own_Go tb e below P (T.setTop (mkF m (pc + 1) Ls (v :: st)))) : own_Go tb e below P (T.setTop (mkF m pc Ls (st))) := own_go (fun t k => XS.aloadN h hx rfl (hb hby hd) hl hv k) g
theorem own_aload {tb : Tables} [Ours tb] {e : Env} {below : List Frame} {T : State} {m : MethodId} {c : Code} {P : State → Prop} {pc : Nat} {Ls : Array Slot} {st : List Value} {bc : ByteArray} (h : At T m c below) (hx : tb.exec = Jvm.exec) (hby : c.code = bc) {k : Nat} {v : Value} (hd : decode bc pc = .ok (.aload k, 2)) (hl : Ls[k]? = some (.val v)) (hv : v.isRef = true) (g : own_Go tb e below P (T.setTop (mkF m (pc + 2) Ls (v :: st)))) : own_Go tb e below P (T.setTop (mkF m pc Ls (st))) := own_go (fun t k => XS.aload h hx rfl (hb hby hd) hl hv k) g
theorem own_istoreN {tb : Tables} [Ours tb] {e : Env} {below : List Frame} {T : State} {m : MethodId} {c : Code} {P : State → Prop} {pc : Nat} {Ls : Array Slot} {st : List Value} {bc : ByteArray} (h : At T m c below) (hx : tb.exec = Jvm.exec) (hby : c.code = bc) {k : Fin 4} {x : Int32} {l' : Array Slot} (hd : decode bc pc = .ok (.istore_n k, 1)) (hl : storeLocals Ls k.val (.int x) = some l') (g : own_Go tb e below P (T.setTop (mkF m (pc + 1) l' (st)))) : own_Go tb e below P (T.setTop (mkF m pc Ls ((.int x) :: st))) := own_go (fun t k => XS.istoreN h hx rfl (hb hby hd) rfl hl k) g
theorem own_istore {tb : Tables} [Ours tb] {e : Env} {below : List Frame} {T : State} {m : MethodId} {c : Code} {P : State → Prop} {pc : Nat} {Ls : Array Slot} {st : List Value} {bc : ByteArray} (h : At T m c below) (hx : tb.exec = Jvm.exec) (hby : c.code = bc) {k : Nat} {x : Int32} {l' : Array Slot} (hd : decode bc pc = .ok (.istore k, 2)) (hl : storeLocals Ls k (.int x) = some l') (g : own_Go tb e below P (T.setTop (mkF m (pc + 2) l' (st)))) : own_Go tb e below P (T.setTop (mkF m pc Ls ((.int x) :: st))) := own_go (fun t k => XS.istore h hx rfl (hb hby hd) rfl hl k) g
theorem own_astoreN {tb : Tables} [Ours tb] {e : Env} {below : List Frame} {T : State} {m : MethodId} {c : Code} {P : State → Prop} {pc : Nat} {Ls : Array Slot} {st : List Value} {bc : ByteArray} (h : At T m c below) (hx : tb.exec = Jvm.exec) (hby : c.code = bc) {k : Fin 4} {x : Value} {l' : Array Slot} (hd : decode bc pc = .ok (.astore_n k, 1)) (hv : x.isRef = true) (hl : storeLocals Ls k.val x = some l') (g : own_Go tb e below P (T.setTop (mkF m (pc + 1) l' (st)))) : own_Go tb e below P (T.setTop (mkF m pc Ls (x :: st))) := own_go (fun t k => XS.astoreN h hx rfl (hb hby hd) rfl hv hl k) g
theorem own_astore {tb : Tables} [Ours tb] {e : Env} {below : List Frame} {T : State} {m : MethodId} {c : Code} {P : State → Prop} {pc : Nat} {Ls : Array Slot} {st : List Value} {bc : ByteArray} (h : At T m c below) (hx : tb.exec = Jvm.exec) (hby : c.code = bc) {k : Nat} {x : Value} {l' : Array Slot} (hd : decode bc pc = .ok (.astore k, 2)) (hv : x.isRef = true) (hl : storeLocals Ls k x = some l') (g : own_Go tb e below P (T.setTop (mkF m (pc + 2) l' (st)))) : own_Go tb e below P (T.setTop (mkF m pc Ls (x :: st))) := own_go (fun t k => XS.astore h hx rfl (hb hby hd) rfl hv hl k) g
theorem own_iconst {tb : Tables} [Ours tb] {e : Env} {below : List Frame} {T : State} {m : MethodId} {c : Code} {P : State → Prop} {pc : Nat} {Ls : Array Slot} {st : List Value} {bc : ByteArray} (h : At T m c below) (hx : tb.exec = Jvm.exec) (hby : c.code = bc) {i : Int} {v : Int32} (hd : decode bc pc = .ok (.iconst i, 1)) (hv : Int32.ofInt i = v) (g : own_Go tb e below P (T.setTop (mkF m (pc + 1) Ls ((.int v) :: st)))) : own_Go tb e below P (T.setTop (mkF m pc Ls st)) := by
  subst hv
  exact own_go (fun t k => XS.iconst h hx rfl (hb hby hd) k) g
theorem own_bipush {tb : Tables} [Ours tb] {e : Env} {below : List Frame} {T : State} {m : MethodId} {c : Code} {P : State → Prop} {pc : Nat} {Ls : Array Slot} {st : List Value} {bc : ByteArray} (h : At T m c below) (hx : tb.exec = Jvm.exec) (hby : c.code = bc) {i : Int} {v : Int32} (hd : decode bc pc = .ok (.bipush i, 2)) (hv : (Int8.ofInt i).toInt32 = v) (g : own_Go tb e below P (T.setTop (mkF m (pc + 2) Ls ((.int v) :: st)))) : own_Go tb e below P (T.setTop (mkF m pc Ls st)) := by
  subst hv
  exact own_go (fun t k => XS.bipush h hx rfl (hb hby hd) k) g
theorem own_sipush {tb : Tables} [Ours tb] {e : Env} {below : List Frame} {T : State} {m : MethodId} {c : Code} {P : State → Prop} {pc : Nat} {Ls : Array Slot} {st : List Value} {bc : ByteArray} (h : At T m c below) (hx : tb.exec = Jvm.exec) (hby : c.code = bc) {i : Int} {v : Int32} (hd : decode bc pc = .ok (.sipush i, 3)) (hv : (Int16.ofInt i).toInt32 = v) (g : own_Go tb e below P (T.setTop (mkF m (pc + 3) Ls ((.int v) :: st)))) : own_Go tb e below P (T.setTop (mkF m pc Ls st)) := by
  subst hv
  exact own_go (fun t k => XS.sipush h hx rfl (hb hby hd) k) g
theorem own_aconstNull {tb : Tables} [Ours tb] {e : Env} {below : List Frame} {T : State} {m : MethodId} {c : Code} {P : State → Prop} {pc : Nat} {Ls : Array Slot} {st : List Value} {bc : ByteArray} (h : At T m c below) (hx : tb.exec = Jvm.exec) (hby : c.code = bc)  (hd : decode bc pc = .ok (.aconst_null, 1)) (g : own_Go tb e below P (T.setTop (mkF m (pc + 1) Ls (.null :: st)))) : own_Go tb e below P (T.setTop (mkF m pc Ls (st))) := own_go (fun t k => XS.aconstNull h hx rfl (hb hby hd)  k) g
theorem own_iadd {tb : Tables} [Ours tb] {e : Env} {below : List Frame} {T : State} {m : MethodId} {c : Code} {P : State → Prop} {pc : Nat} {Ls : Array Slot} {st : List Value} {bc : ByteArray} (h : At T m c below) (hx : tb.exec = Jvm.exec) (hby : c.code = bc) {x y v : Int32} (hd : decode bc pc = .ok (.iadd, 1)) (hv : (x + y) = v) (g : own_Go tb e below P (T.setTop (mkF m (pc + 1) Ls ((.int v) :: st)))) : own_Go tb e below P (T.setTop (mkF m pc Ls ((.int y) :: (.int x) :: st))) := by
  subst hv
  exact own_go (fun t k => XS.iadd h hx rfl (hb hby hd) rfl k) g
theorem own_iand {tb : Tables} [Ours tb] {e : Env} {below : List Frame} {T : State} {m : MethodId} {c : Code} {P : State → Prop} {pc : Nat} {Ls : Array Slot} {st : List Value} {bc : ByteArray} (h : At T m c below) (hx : tb.exec = Jvm.exec) (hby : c.code = bc) {x y v : Int32} (hd : decode bc pc = .ok (.iand, 1)) (hv : (x &&& y) = v) (g : own_Go tb e below P (T.setTop (mkF m (pc + 1) Ls ((.int v) :: st)))) : own_Go tb e below P (T.setTop (mkF m pc Ls ((.int y) :: (.int x) :: st))) := by
  subst hv
  exact own_go (fun t k => XS.iand h hx rfl (hb hby hd) rfl k) g
theorem own_ior {tb : Tables} [Ours tb] {e : Env} {below : List Frame} {T : State} {m : MethodId} {c : Code} {P : State → Prop} {pc : Nat} {Ls : Array Slot} {st : List Value} {bc : ByteArray} (h : At T m c below) (hx : tb.exec = Jvm.exec) (hby : c.code = bc) {x y v : Int32} (hd : decode bc pc = .ok (.ior, 1)) (hv : (x ||| y) = v) (g : own_Go tb e below P (T.setTop (mkF m (pc + 1) Ls ((.int v) :: st)))) : own_Go tb e below P (T.setTop (mkF m pc Ls ((.int y) :: (.int x) :: st))) := by
  subst hv
  exact own_go (fun t k => XS.ior h hx rfl (hb hby hd) rfl k) g
theorem own_ishr {tb : Tables} [Ours tb] {e : Env} {below : List Frame} {T : State} {m : MethodId} {c : Code} {P : State → Prop} {pc : Nat} {Ls : Array Slot} {st : List Value} {bc : ByteArray} (h : At T m c below) (hx : tb.exec = Jvm.exec) (hby : c.code = bc) {x y v : Int32} (hd : decode bc pc = .ok (.ishr, 1)) (hv : (x >>> (y &&& 31)) = v) (g : own_Go tb e below P (T.setTop (mkF m (pc + 1) Ls ((.int v) :: st)))) : own_Go tb e below P (T.setTop (mkF m pc Ls ((.int y) :: (.int x) :: st))) := by
  subst hv
  exact own_go (fun t k => XS.ishr h hx rfl (hb hby hd) rfl k) g
theorem own_i2b {tb : Tables} [Ours tb] {e : Env} {below : List Frame} {T : State} {m : MethodId} {c : Code} {P : State → Prop} {pc : Nat} {Ls : Array Slot} {st : List Value} {bc : ByteArray} (h : At T m c below) (hx : tb.exec = Jvm.exec) (hby : c.code = bc) {x : Int32} {v : Int32} (hd : decode bc pc = .ok (.i2b, 1)) (hv : (x.toInt8.toInt32) = v) (g : own_Go tb e below P (T.setTop (mkF m (pc + 1) Ls ((.int v) :: st)))) : own_Go tb e below P (T.setTop (mkF m pc Ls ((.int x) :: st))) := by
  subst hv
  exact own_go (fun t k => XS.i2b h hx rfl (hb hby hd) rfl k) g
theorem own_i2c {tb : Tables} [Ours tb] {e : Env} {below : List Frame} {T : State} {m : MethodId} {c : Code} {P : State → Prop} {pc : Nat} {Ls : Array Slot} {st : List Value} {bc : ByteArray} (h : At T m c below) (hx : tb.exec = Jvm.exec) (hby : c.code = bc) {x : Int32} {v : Int32} (hd : decode bc pc = .ok (.i2c, 1)) (hv : (x.toUInt32.toUInt16.toUInt32.toInt32) = v) (g : own_Go tb e below P (T.setTop (mkF m (pc + 1) Ls ((.int v) :: st)))) : own_Go tb e below P (T.setTop (mkF m pc Ls ((.int x) :: st))) := by
  subst hv
  exact own_go (fun t k => XS.i2c h hx rfl (hb hby hd) rfl k) g
theorem own_irem {tb : Tables} [Ours tb] {e : Env} {below : List Frame} {T : State} {m : MethodId} {c : Code} {P : State → Prop} {pc : Nat} {Ls : Array Slot} {st : List Value} {bc : ByteArray} (h : At T m c below) (hx : tb.exec = Jvm.exec) (hby : c.code = bc) {x y v : Int32} (hd : decode bc pc = .ok (.irem, 1)) (hy : y ≠ 0) (hv : (x % y) = v) (g : own_Go tb e below P (T.setTop (mkF m (pc + 1) Ls ((.int v) :: st)))) : own_Go tb e below P (T.setTop (mkF m pc Ls ((.int y) :: (.int x) :: st))) := by
  subst hv
  refine own_go (fun t k => XS.irem h hx rfl (hb hby hd) rfl hy ?_) g
  rw [irem_eq_mod x y]; exact k
theorem own_dup {tb : Tables} [Ours tb] {e : Env} {below : List Frame} {T : State} {m : MethodId} {c : Code} {P : State → Prop} {pc : Nat} {Ls : Array Slot} {st : List Value} {bc : ByteArray} (h : At T m c below) (hx : tb.exec = Jvm.exec) (hby : c.code = bc) {x : Value} (hd : decode bc pc = .ok (.dup, 1)) (hc : x.category = 1) (g : own_Go tb e below P (T.setTop (mkF m (pc + 1) Ls (x :: x :: st)))) : own_Go tb e below P (T.setTop (mkF m pc Ls (x :: st))) := own_go (fun t k => XS.dup h hx rfl (hb hby hd) rfl hc k) g
theorem own_pop {tb : Tables} [Ours tb] {e : Env} {below : List Frame} {T : State} {m : MethodId} {c : Code} {P : State → Prop} {pc : Nat} {Ls : Array Slot} {st : List Value} {bc : ByteArray} (h : At T m c below) (hx : tb.exec = Jvm.exec) (hby : c.code = bc) {x : Value} (hd : decode bc pc = .ok (.pop, 1)) (hc : x.category = 1) (g : own_Go tb e below P (T.setTop (mkF m (pc + 1) Ls (st)))) : own_Go tb e below P (T.setTop (mkF m pc Ls (x :: st))) := own_go (fun t k => XS.pop h hx rfl (hb hby hd) rfl hc k) g
theorem own_goto {tb : Tables} [Ours tb] {e : Env} {below : List Frame} {T : State} {m : MethodId} {c : Code} {P : State → Prop} {pc : Nat} {Ls : Array Slot} {st : List Value} {bc : ByteArray} (h : At T m c below) (hx : tb.exec = Jvm.exec) (hby : c.code = bc) {o : Int} {pc' : Nat} (hd : decode bc pc = .ok (.goto o, 3)) (ho : 0 ≤ (pc : Int) + o) (hp : ((pc : Int) + o).toNat = pc') (g : own_Go tb e below P (T.setTop (mkF m pc' Ls st))) : own_Go tb e below P (T.setTop (mkF m pc Ls st)) := own_go (fun t k => XS.goto h hx rfl (pc0 := pc) rfl (hb hby hd) ho hp k) g
theorem own_ifYes {tb : Tables} [Ours tb] {e : Env} {below : List Frame} {T : State} {m : MethodId} {c : Code} {P : State → Prop} {pc : Nat} {Ls : Array Slot} {st : List Value} {bc : ByteArray} (h : At T m c below) (hx : tb.exec = Jvm.exec) (hby : c.code = bc) {cd : ClassFile.Cond} {o : Int} {pc' : Nat} {x : Int32} (hd : decode bc pc = .ok (.ifCond cd o, 3)) (hc : ifCond.holds cd x = true) (ho : 0 ≤ (pc : Int) + o) (hp : ((pc : Int) + o).toNat = pc') (g : own_Go tb e below P (T.setTop (mkF m pc' Ls st))) : own_Go tb e below P (T.setTop (mkF m pc Ls ((.int x) :: st))) := own_go (fun t k => XS.ifYes h hx rfl (pc0 := pc) rfl (hb hby hd) rfl hc ho hp k) g
theorem own_ifNo {tb : Tables} [Ours tb] {e : Env} {below : List Frame} {T : State} {m : MethodId} {c : Code} {P : State → Prop} {pc : Nat} {Ls : Array Slot} {st : List Value} {bc : ByteArray} (h : At T m c below) (hx : tb.exec = Jvm.exec) (hby : c.code = bc) {cd : ClassFile.Cond} {o : Int} {x : Int32} (hd : decode bc pc = .ok (.ifCond cd o, 3)) (hc : ifCond.holds cd x = false) (g : own_Go tb e below P (T.setTop (mkF m (pc + 3) Ls st))) : own_Go tb e below P (T.setTop (mkF m pc Ls ((.int x) :: st))) := own_go (fun t k => XS.ifNo h hx rfl (hb hby hd) rfl hc k) g
theorem own_icmpYes {tb : Tables} [Ours tb] {e : Env} {below : List Frame} {T : State} {m : MethodId} {c : Code} {P : State → Prop} {pc : Nat} {Ls : Array Slot} {st : List Value} {bc : ByteArray} (h : At T m c below) (hx : tb.exec = Jvm.exec) (hby : c.code = bc) {cd : ClassFile.Cond} {o : Int} {pc' : Nat} {x y : Int32} (hd : decode bc pc = .ok (.if_icmp cd o, 3)) (hc : if_icmp.holds cd x y = true) (ho : 0 ≤ (pc : Int) + o) (hp : ((pc : Int) + o).toNat = pc') (g : own_Go tb e below P (T.setTop (mkF m pc' Ls st))) : own_Go tb e below P (T.setTop (mkF m pc Ls ((.int y) :: (.int x) :: st))) := own_go (fun t k => XS.icmpYes h hx rfl (pc0 := pc) rfl (hb hby hd) rfl hc ho hp k) g
theorem own_icmpNo {tb : Tables} [Ours tb] {e : Env} {below : List Frame} {T : State} {m : MethodId} {c : Code} {P : State → Prop} {pc : Nat} {Ls : Array Slot} {st : List Value} {bc : ByteArray} (h : At T m c below) (hx : tb.exec = Jvm.exec) (hby : c.code = bc) {cd : ClassFile.Cond} {o : Int} {x y : Int32} (hd : decode bc pc = .ok (.if_icmp cd o, 3)) (hc : if_icmp.holds cd x y = false) (g : own_Go tb e below P (T.setTop (mkF m (pc + 3) Ls st))) : own_Go tb e below P (T.setTop (mkF m pc Ls ((.int y) :: (.int x) :: st))) := own_go (fun t k => XS.icmpNo h hx rfl (hb hby hd) rfl hc k) g
theorem own_ifnonnullYes {tb : Tables} [Ours tb] {e : Env} {below : List Frame} {T : State} {m : MethodId} {c : Code} {P : State → Prop} {pc : Nat} {Ls : Array Slot} {st : List Value} {bc : ByteArray} (h : At T m c below) (hx : tb.exec = Jvm.exec) (hby : c.code = bc) {o : Int} {pc' : Nat} {b : Addr} (hd : decode bc pc = .ok (.ifnonnull o, 3)) (ho : 0 ≤ (pc : Int) + o) (hp : ((pc : Int) + o).toNat = pc') (g : own_Go tb e below P (T.setTop (mkF m pc' Ls st))) : own_Go tb e below P (T.setTop (mkF m pc Ls ((.ref b) :: st))) := own_go (fun t k => XS.ifnonnullYes h hx rfl (pc0 := pc) rfl (hb hby hd) rfl ho hp k) g
theorem own_iinc {tb : Tables} [Ours tb] {e : Env} {below : List Frame} {T : State} {m : MethodId} {c : Code} {P : State → Prop} {pc : Nat} {Ls : Array Slot} {st : List Value} {bc : ByteArray} (h : At T m c below) (hx : tb.exec = Jvm.exec) (hby : c.code = bc) {k : Nat} {cst : Int} {x v : Int32} {l' : Array Slot} (hd : decode bc pc = .ok (.iinc k cst, 3)) (hl : Ls[k]? = some (.val (.int x))) (hv : (x + Int32.ofInt cst) = v) (hl' : storeLocals Ls k (.int v) = some l') (g : own_Go tb e below P (T.setTop (mkF m (pc + 3) l' st))) : own_Go tb e below P (T.setTop (mkF m pc Ls st)) := by
  subst hv
  exact own_go (fun t k => XS.iinc h hx rfl (hb hby hd) hl hl' k) g
section OwnGo
variable {p : Program} {l : Launch} {e : Env} {R : Room} {s : State} {m : MethodId} {args : Array Value} {below : List Frame} {meth : Method} {c : Code} {T : State} {locs : List Loc} {cells slots : Nat} {Z : State} {a0 : Array Value} {h : Heap} {P : State → Prop} {pc : Nat} {Ls : Array Slot} {st : List Value} {bc : ByteArray} {n0 : Nat}
theorem own_acmp (X : Stand p l e R s m args below meth c T locs cells slots) (hx : p.tables.exec = Jvm.exec) {cd : ACond} {x y : Value} {o : Int} {pc' : Nat} {same : Bool} (hby : c.code = bc) (hd : decode bc pc = .ok (.if_acmp cd o, 3)) (h1 : x.isRef = true) (h2 : y.isRef = true) (hq : decide (x = y) = same) (ho : 0 ≤ (pc : Int) + o) (hp : pc' = if acV cd same = true then ((pc : Int) + o).toNat else pc + 3) (k : own_Go p.tables e below P (T.setTop (mkF m pc' Ls st))) : own_Go p.tables e below P (T.setTop (mkF m pc Ls (y :: x :: st))) := by
  exact own_go (fun t k => Jvm.RoadKit.acmp (g := mkF m pc Ls (y :: x :: st)) X hx rfl h1 h2 rfl (hb hby hd) rfl hq ho hp k) k
theorem own_getF (X : Stand p l e R s m args below meth c T locs cells slots) (hx : p.tables.exec = Jvm.exec) (hZ : Z.Warmed39 s.vm) {own R0 O n d host : String} {index : Nat} (hown : s.vm.findClass own = some m.cls) (w : (Cond.fieldLink own index R0 n d).before a0 Z = true ∨ (Cond.fieldLinkNest own index R0 n d host).before a0 Z = true) (via : Via Z R0 O n d) (eT : T.heap = h) {a : Addr} {v : Value} (F : Fld Z h a O n d v) (hby : c.code = bc) (hd : decode bc pc = .ok (.getfield index, 3)) (k : ∀ T', Stand p l e R s m args below meth c T' locs cells slots → T'.heap = h → own_Go p.tables e below P (T'.setTop (mkF m (pc + 3) Ls (v :: st)))) : own_Go p.tables e below P (T.setTop (mkF m pc Ls ((.ref a) :: st))) := by
  obtain ⟨T', X', e', sp⟩ := getF X hx hZ hown w via eT F (g := mkF m pc Ls ((.ref a) :: st)) rfl rfl (hb hby hd)
  exact own_go sp (k T' X' e')
theorem own_getS (X : Stand p l e R s m args below meth c T locs cells slots) (hx : p.tables.exec = Jvm.exec) (hZ : Z.Warmed39 s.vm) {own R0 O n d host : String} {index : Nat} (hown : s.vm.findClass own = some m.cls) (w : (Cond.fieldLink own index R0 n d).before a0 Z = true ∨ (Cond.fieldLinkNest own index R0 n d host).before a0 Z = true) (via : Via Z R0 O n d) (eT : T.heap = h) {v : Value} (F : Sta Z h O n d v) (hby : c.code = bc) (hd : decode bc pc = .ok (.getstatic index, 3)) (k : ∀ T', Stand p l e R s m args below meth c T' locs cells slots → T'.heap = h → own_Go p.tables e below P (T'.setTop (mkF m (pc + 3) Ls (v :: st)))) : own_Go p.tables e below P (T.setTop (mkF m pc Ls st)) := by
  obtain ⟨T', X', e', sp⟩ := getS2 X hx hZ hown w via eT F (g := mkF m pc Ls st) rfl (hb hby hd)
  exact own_go sp (k T' X' e')
theorem own_putF (X : Stand p l e R s m args below meth c T locs cells slots) (hx : p.tables.exec = Jvm.exec) (hZ : Z.Warmed39 s.vm) {C : String} {kk : Nat} {ty : FieldType} {own R0 O n d host : String} {index : Nat} (hown : s.vm.findClass own = some m.cls) (w : (Cond.fieldLink own index R0 n d).before a0 Z = true ∨ (Cond.fieldLinkNest own index R0 n d host).before a0 Z = true) (via : Via Z R0 O n d) (eT : T.heap = h) {a : Addr} {v old : Value} (F : Fld Z h a O n d old) (E : Exa Z h a C) (L : (Cond.lays C O n d).before a0 Z = true ∨ ((Cond.laysFinal C O n d).before a0 Z = true ∧ own = O ∧ meth.name = "<init>")) (wi : (Cond.instantiable C kk).before a0 Z = true) (hty : parseFieldDescriptor d = some ty) (hn : narrow ty v = v) (hf : fits ty v = true) (hby : c.code = bc) (hd : decode bc pc = .ok (.putfield index, 3)) (N : Fr n0 locs) (ge : n0 ≤ a) (k : ∀ T' h' locs', Stand p l e R s m args below meth c T' locs' cells slots → T'.heap = h' → Fr n0 locs' → Wr h h' a (Jvm.RoadKit.slotOf Z O n d) v → Fld Z h' a O n d v → h.size ≤ h'.size → own_Go p.tables e below P (T'.setTop (mkF m (pc + 3) Ls st))) : own_Go p.tables e below P (T.setTop (mkF m pc Ls (v :: (.ref a) :: st))) := by
  obtain ⟨T', h', X', e', W, sp⟩ := putF X hx hZ hown w via eT F E L wi hty hn hf (g := mkF m pc Ls (v :: (.ref a) :: st)) rfl rfl (hb hby hd)
  exact own_go sp (k T' h' _ X' e' (Fr.snoc X' N ge) W (F.same W) (Keep.of_wr W).1)
theorem own_putFN (X : Stand p l e R s m args below meth c T locs cells slots) (hx : p.tables.exec = Jvm.exec) (hZ : Z.Warmed39 s.vm) {own R0 O n d C : String} {index kk : Nat} {ty : FieldType} (hown : s.vm.findClass own = some m.cls) (w : (Cond.fieldLink own index R0 n d).before a0 Z = true) (via : Via Z R0 O n d) (eT : T.heap = h) {a : Addr} {v v' old : Value} (F : Fld Z h a O n d old) (E : Exa Z h a C) (L : (Cond.lays C O n d).before a0 Z = true ∨ ((Cond.laysFinal C O n d).before a0 Z = true ∧ own = O ∧ meth.name = "<init>")) (wi : (Cond.instantiable C kk).before a0 Z = true) (hty : parseFieldDescriptor d = some ty) (hn : narrow ty v = v') (hf : fits ty v' = true) (hby : c.code = bc) (hd : decode bc pc = .ok (.putfield index, 3)) (N : Fr n0 locs) (ge : n0 ≤ a) (k : ∀ T' h' locs', Stand p l e R s m args below meth c T' locs' cells slots → T'.heap = h' → Fr n0 locs' → Wr h h' a (Jvm.RoadKit.slotOf Z O n d) v' → Fld Z h' a O n d v' → h.size ≤ h'.size → own_Go p.tables e below P (T'.setTop (mkF m (pc + 3) Ls st))) : own_Go p.tables e below P (T.setTop (mkF m pc Ls (v :: (.ref a) :: st))) := by
  obtain ⟨T', h', X', e', W, sp⟩ := putFN X hx hZ hown w via eT F E L wi hty hn hf (g := mkF m pc Ls (v :: (.ref a) :: st)) rfl rfl (hb hby hd)
  exact own_go sp (k T' h' _ X' e' (Fr.snoc X' N ge) W (F.same W) (Keep.of_wr W).1)
theorem own_newO (X : Stand p l e R s m args below meth c T locs cells slots) (hx : p.tables.exec = Jvm.exec) (hZ : Z.Warmed39 s.vm) {own C : String} {index n : Nat} (hown : s.vm.findClass own = some m.cls) (w : (Cond.classLink own index C).before a0 Z = true) (wi : (Cond.instantiable C n).before a0 Z = true) (wz : (Cond.initialized C).before a0 Z = true) (eT : T.heap = h) (hby : c.code = bc) (hd : decode bc pc = .ok (.new index, 3)) (hc : cells + 1 ≤ R.cells) (hl : slots + n ≤ R.slots) (k : ∀ T' h' b, Stand p l e R s m args below meth c T' locs (cells + 1) (slots + n) → T'.heap = h' → Ext h h' → b = h.size → Exa Z h' b C → (∀ {O nm d : String} {ty : FieldType}, Laid Z a0 C O nm d → parseFieldDescriptor d = some ty → Fld Z h' b O nm d (defaultValue ty)) → b < h'.size → own_Go p.tables e below P (T'.setTop (mkF m (pc + 3) Ls ((.ref b) :: st)))) : own_Go p.tables e below P (T.setTop (mkF m pc Ls st)) := by
  obtain ⟨T', h', X', e', E, A, D, -, sp⟩ := newO X hx hZ hown w wi wz eT (g := mkF m pc Ls st) rfl (hb hby hd) hc hl
  exact own_go sp (k T' h' _ X' e' E rfl A D A.lt)
theorem own_newP (X : Stand p l e R s m args below meth c T locs cells slots) (hx : p.tables.exec = Jvm.exec) (hZ : Z.Warmed39 s.vm) {aty : ArrayType} (w : (Cond.arrayClass (newarray.typeOf aty)).before a0 Z = true) (eT : T.heap = h) (hby : c.code = bc) (hd : decode bc pc = .ok (.newarray aty, 2)) {n : Int32} (hn : ¬ n < 0) (cap : Nat) (hcap : n.toNatClampNeg ≤ cap) (hb8 : cap * 8 ≤ 536870912) (hc : cells + 1 ≤ R.cells) (hl : slots + cap ≤ R.slots) {ad : String} (had : "[" ++ (newarray.typeOf aty).toString = ad) (k : ∀ T' h' cA b, Stand p l e R s m args below meth c T' locs (cells + 1) (slots + cap) → T'.heap = h' → Ext h h' → b = h.size → Arv Z h' b cA (newarray.typeOf aty) n [] (defaultValue (newarray.typeOf aty)) → Exa Z h' b ad → b < h'.size → own_Go p.tables e below P (T'.setTop (mkF m (pc + 2) Ls ((.ref b) :: st)))) : own_Go p.tables e below P (T.setTop (mkF m pc Ls ((.int n) :: st))) := by
  obtain ⟨T', h', cA, X', e', E, A, C, sp⟩ := newPE X hx hZ w eT (g := mkF m pc Ls ((.int n) :: st)) rfl (hb hby hd) rfl hn (cap := cap) hcap hb8 hc hl had
  exact own_go sp (k T' h' cA _ X' e' E rfl (Arv.new A hn) C C.lt)
theorem own_castore (X : Stand p l e R s m args below meth c T locs cells slots) (hx : p.tables.exec = Jvm.exec) (hZ : Z.Warmed39 s.vm) (eT : T.heap = h) {a : Addr} {kc : ClassId} {z j : Int32} {x : Int32} {w : Value} {vs : List Value} {dv : Value} (V : Arv Z h a kc .char z vs dv) (hj : ¬ j < 0 ∧ j < z) (i : Nat) (hi : j.toNatClampNeg = i) (hl : i < vs.length) (hv : (.int (nar .char x)) = w) (hby : c.code = bc) (hd : decode bc pc = .ok (.castore, 1)) (N : Fr n0 locs) (ge : n0 ≤ a) (k : ∀ T' h' locs', Stand p l e R s m args below meth c T' locs' cells slots → T'.heap = h' → Fr n0 locs' → Wr h h' a i w → Arv Z h' a kc .char z (vs.set i w) dv → h.size ≤ h'.size → own_Go p.tables e below P (T'.setTop (mkF m (pc + 1) Ls st))) : own_Go p.tables e below P (T.setTop (mkF m pc Ls ((.int x) :: (.int j) :: (.ref a) :: st))) := by
  subst hv hi
  obtain ⟨cl, A, q, S, M, H, G⟩ := V
  obtain ⟨T', h', X', e', W, sp⟩ := stC X hx hZ eT A (j := j) (inb_of S hj) (g := mkF m pc Ls ((.int x) :: (.int j) :: (.ref a) :: st)) rfl rfl (hb hby hd)
  exact own_go sp (k T' h' _ X' e' (Fr.snoc X' N ge) W (Arv.set A q S M H G (fits_nar_char _) W _ rfl hl) (Keep.of_wr W).1)
theorem own_bastore (X : Stand p l e R s m args below meth c T locs cells slots) (hx : p.tables.exec = Jvm.exec) (hZ : Z.Warmed39 s.vm) (eT : T.heap = h) {a : Addr} {kc : ClassId} {z j : Int32} {x : Int32} {w : Value} {vs : List Value} {dv : Value} (V : Arv Z h a kc .byte z vs dv) (hj : ¬ j < 0 ∧ j < z) (i : Nat) (hi : j.toNatClampNeg = i) (hl : i < vs.length) (hv : (.int (nar .byte x)) = w) (hby : c.code = bc) (hd : decode bc pc = .ok (.bastore, 1)) (N : Fr n0 locs) (ge : n0 ≤ a) (k : ∀ T' h' locs', Stand p l e R s m args below meth c T' locs' cells slots → T'.heap = h' → Fr n0 locs' → Wr h h' a i w → Arv Z h' a kc .byte z (vs.set i w) dv → h.size ≤ h'.size → own_Go p.tables e below P (T'.setTop (mkF m (pc + 1) Ls st))) : own_Go p.tables e below P (T.setTop (mkF m pc Ls ((.int x) :: (.int j) :: (.ref a) :: st))) := by
  subst hv hi
  obtain ⟨cl, A, q, S, M, H, G⟩ := V
  obtain ⟨T', h', X', e', W, sp⟩ := stB X hx hZ eT A (j := j) (inb_of S hj) (g := mkF m pc Ls ((.int x) :: (.int j) :: (.ref a) :: st)) rfl rfl (hb hby hd)
  exact own_go sp (k T' h' _ X' e' (Fr.snoc X' N ge) W (Arv.set A q S M H G (fits_nar_byte _) W _ rfl hl) (Keep.of_wr W).1)
theorem own_baload (X : Stand p l e R s m args below meth c T locs cells slots) (hx : p.tables.exec = Jvm.exec) (hZ : Z.Warmed39 s.vm) (eT : T.heap = h) {a : Addr} {kc : ClassId} {z j : Int32} {v : Value} {vs : List Value} {dv : Value} (V : Arv Z h a kc .byte z vs dv) (hj : ¬ j < 0 ∧ j < z) (hv : vs.getD j.toNatClampNeg dv = v) (hby : c.code = bc) (hd : decode bc pc = .ok (.baload, 1)) (k : own_Go p.tables e below P (T.setTop (mkF m (pc + 1) Ls (v :: st)))) : own_Go p.tables e below P (T.setTop (mkF m pc Ls ((.int j) :: (.ref a) :: st))) := by
  obtain ⟨cl, A, q, S, M, H, G⟩ := V
  exact own_go (fun t q => X.baloadBytes hx (by rw [eT]; exact A.1) (State.isArrayOf_alike hZ.alike A.2.1) A.2.2 (inb_of S hj) (Has.at H (inb_of S hj) hv) (g := mkF m pc Ls ((.int j) :: (.ref a) :: st)) rfl rfl (hb hby hd) t q) k
theorem own_alen (X : Stand p l e R s m args below meth c T locs cells slots) (hx : p.tables.exec = Jvm.exec) (hZ : Z.Warmed39 s.vm) (eT : T.heap = h) {a : Addr} {kc : ClassId} {ty : FieldType} {z : Int32} {vs : List Value} {dv : Value} (V : Arv Z h a kc ty z vs dv) (hby : c.code = bc) (hd : decode bc pc = .ok (.arraylength, 1)) (k : own_Go p.tables e below P (T.setTop (mkF m (pc + 1) Ls ((.int z) :: st)))) : own_Go p.tables e below P (T.setTop (mkF m pc Ls ((.ref a) :: st))) := by
  obtain ⟨cl, A, q, S, M, H, G⟩ := V
  refine own_go (fun t q => X.arraylength hx (by rw [eT]; exact A.1) (State.isArrayOf_alike hZ.alike A.2.1) (g := mkF m pc Ls ((.ref a) :: st)) rfl rfl (hb hby hd) t q) ?_
  rw [len_of S M]; exact k
theorem own_castY (X : Stand p l e R s m args below meth c T locs cells slots) (hx : p.tables.exec = Jvm.exec) (hZ : Z.Warmed39 s.vm) {own K : String} {index : Nat} (hown : s.vm.findClass own = some m.cls) (w : (Cond.classLink own index K).before a0 Z = true) (eT : T.heap = h) {a : Addr} (F : Ins Z h a K true) (hby : c.code = bc) (hd : decode bc pc = .ok (.checkcast index, 3)) (k : ∀ T', Stand p l e R s m args below meth c T' locs cells slots → T'.heap = h → own_Go p.tables e below P (T'.setTop (mkF m (pc + 3) Ls ((.ref a) :: st)))) : own_Go p.tables e below P (T.setTop (mkF m pc Ls ((.ref a) :: st))) := by
  obtain ⟨T', X', e', sp⟩ := castY X hx hZ hown w eT F (g := mkF m pc Ls ((.ref a) :: st)) rfl rfl (hb hby hd)
  exact own_go sp (k T' X' e')
theorem own_instY (X : Stand p l e R s m args below meth c T locs cells slots) (hx : p.tables.exec = Jvm.exec) (hZ : Z.Warmed39 s.vm) {own K : String} {index : Nat} (hown : s.vm.findClass own = some m.cls) (w : (Cond.classLink own index K).before a0 Z = true) (eT : T.heap = h) {a : Addr} (F : Ins Z h a K true) (hby : c.code = bc) (hd : decode bc pc = .ok (.instanceof index, 3)) (k : ∀ T', Stand p l e R s m args below meth c T' locs cells slots → T'.heap = h → own_Go p.tables e below P (T'.setTop (mkF m (pc + 3) Ls ((.int 1) :: st)))) : own_Go p.tables e below P (T.setTop (mkF m pc Ls ((.ref a) :: st))) := by
  obtain ⟨T', X', e', sp⟩ := instY X hx hZ hown w eT F (g := mkF m pc Ls ((.ref a) :: st)) rfl rfl (hb hby hd)
  exact own_go sp (k T' X' e')
theorem own_ldcInt (X : Stand p l e R s m args below meth c T locs cells slots) (hx : p.tables.exec = Jvm.exec) (hZ : Z.Warmed39 s.vm) {own : String} {index : Nat} {v : Int32} (hown : s.vm.findClass own = some m.cls) (w : (Cond.constant own index v).before a0 Z = true) (hby : c.code = bc) (hd : decode bc pc = .ok (.ldc index, 2)) (k : own_Go p.tables e below P (T.setTop (mkF m (pc + 2) Ls ((.int v) :: st)))) : own_Go p.tables e below P (T.setTop (mkF m pc Ls st)) := by
  exact own_go (X.ldcInt hx hown (mvT hZ w) (g := mkF m pc Ls st) rfl (hb hby hd)) k
theorem own_initO (X : Stand p l e R s m args below meth c T locs cells slots) (hx : p.tables.exec = Jvm.exec) (hZ : Z.Warmed39 s.vm) {own : String} {idx : Nat} (hown : s.vm.findClass own = some m.cls) (w1 : (Cond.methodLink own idx Lib.objectInit).before a0 Z = true) (w2 : (Cond.instanceMethod Lib.objectInit).before a0 Z = true) (w3 : (Cond.code Lib.objectInit ⟨#[0xb1]⟩ 1 none).before a0 Z = true) (eT : T.heap = h) (hsize : Ls.size = c.maxLocals) {a : Addr} (hby : c.code = bc) (hd : decode bc pc = .ok (.invokespecial idx, 3)) (hf : 1 ≤ R.frames) (W : Nat) (hW : 2 * 0 + (st.map fun v => v.category).sum ≤ W) (hl : W + 12 ≤ R.locals) (k : ∀ T', Stand p l e R s m args below meth c T' locs cells slots → T'.heap = h → own_Go p.tables e below P (T'.setTop (mkF m (pc + 3) Ls st))) : own_Go p.tables e below P (T.setTop (mkF m pc Ls ((.ref a) :: st))) := by
  obtain ⟨T', X', e', sp⟩ := initO X hx hZ hown w1 w2 w3 eT (g := mkF m pc Ls ((.ref a) :: st)) rfl hsize rfl (hb hby hd) hf (W := W) hW hl
  exact own_go sp (k T' X' e')
theorem own_callS (X : Stand p l e R s m args below meth c T locs cells slots) (hx : p.tables.exec = Jvm.exec) (hZ : Z.Warmed39 s.vm) {own : String} {index : Nat} {y : MethodName} {bytes : ByteArray} {maxL : Nat} {ret : Option FieldType} {rm : Room} {Qc : Option Value → Heap → List Loc → Prop} {as' : Array Value} (hown : s.vm.findClass own = some m.cls) (w1 : (Cond.methodLink own index y).before a0 Z = true) (w2 : (Cond.static y).before a0 Z = true) (w3 : (Cond.initialized y.cls).before a0 Z = true) (w4 : (Cond.code y bytes maxL ret).before a0 Z = true) (hy : y.cls ≠ "java/lang/invoke/MethodHandle" ∧ y.cls ≠ "java/lang/invoke/VarHandle") (hM : MetFree l y (head1 [Cond.code y bytes maxL ret] rm) (fun a U => a = as' ∧ Z.Warmed39 U.vm ∧ U.heap = h) (fun _ _ _ _ _ => True) (fun _ U o U' => ∃ v L, o = .returned v ∧ Qc v U'.heap L ∧ FrameEnd U o U' L rm.cells rm.slots)) (W : Nat) (hW : 2 * 0 + (st.map fun v => v.category).sum ≤ W) (hf : rm.frames + 1 ≤ R.frames) (hl : W + (maxL + 11) + rm.locals ≤ R.locals) (hsize : Ls.size = c.maxLocals) {argsL stk : List Value} (hlen : ∀ sig, parseMethodDescriptor y.desc = some sig → argsL.length = sig.parameters.length) (hstk : stk = argsL.reverse ++ st) (has : argsL.toArray = as') (hc : cells + rm.cells ≤ R.cells) (hs : slots + rm.slots ≤ R.slots) (eT : T.heap = h) (hby : c.code = bc) (hd : decode bc pc = .ok (.invokestatic index, 3)) (k : ∀ T' v L, Stand p l e R s m args below meth c T' (locs ++ L) (cells + rm.cells) (slots + rm.slots) → Qc v T'.heap L → own_Go p.tables e below P (T'.setTop (mkF m (pc + 3) Ls (v.toList ++ st)))) : own_Go p.tables e below P (T.setTop (mkF m pc Ls stk)) := by
  subst hstk
  obtain ⟨v, _, ⟨T', L', k', n'⟩, -, X', ⟨L, hQ, hl', hy', hz'⟩, sp⟩ := Jvm.LawKit.callS X hx hown (mvT hZ w1) (mvT hZ w2) (mvT hZ w3) (mvT hZ w4) hy (backOf (W := W) hM hZ w4 w3 hf hl) (g := mkF m pc Ls (argsL.reverse ++ st)) rfl hsize (argsL := argsL) (rest := st) hlen rfl hW (hb hby hd) (fun _ _ => ⟨has, eT, hc, hs⟩)
  dsimp only [Pt.U, Pt.locs, Pt.cells, Pt.slots] at X' hl' hy' hz' sp hQ
  subst hl' hy' hz'
  exact own_go sp (k T' v L X' hQ)
theorem own_special (X : Stand p l e R s m args below meth c T locs cells slots) (hx : p.tables.exec = Jvm.exec) (hZ : Z.Warmed39 s.vm) {own : String} {index : Nat} {y : MethodName} {bytes : ByteArray} {maxL : Nat} {rm : Room} {Qc : Option Value → Heap → List Loc → Prop} {as' : Array Value} (hy1 : y.name = "<init>") (hown : s.vm.findClass own = some m.cls) (w1 : (Cond.methodLink own index y).before a0 Z = true) (w2 : (Cond.instanceMethod y).before a0 Z = true) (w3 : (Cond.initialized y.cls).before a0 Z = true) (w4 : (Cond.code y bytes maxL none).before a0 Z = true) (hy : y.cls ≠ "java/lang/invoke/MethodHandle" ∧ y.cls ≠ "java/lang/invoke/VarHandle") (hM : MetFree l y (head1 [Cond.code y bytes maxL none] rm) (fun a U => a = as' ∧ Z.Warmed39 U.vm ∧ U.heap = h) (fun _ _ _ _ _ => True) (fun _ U o U' => ∃ v L, o = .returned v ∧ Qc v U'.heap L ∧ FrameEnd U o U' L rm.cells rm.slots)) (W : Nat) (hW : 2 * 0 + (st.map fun v => v.category).sum ≤ W) (hf : rm.frames + 1 ≤ R.frames) (hl : W + (maxL + 11) + rm.locals ≤ R.locals) (hsize : Ls.size = c.maxLocals) {argsL stk : List Value} {a : Addr} (hlen : ∀ sig, parseMethodDescriptor y.desc = some sig → argsL.length = sig.parameters.length) (hstk : stk = argsL.reverse ++ (.ref a) :: st) (has : ((.ref a) :: argsL).toArray = as') (hc : cells + rm.cells ≤ R.cells) (hs : slots + rm.slots ≤ R.slots) (eT : T.heap = h) (hby : c.code = bc) (hd : decode bc pc = .ok (.invokespecial index, 3)) (k : ∀ T' v L, Stand p l e R s m args below meth c T' (locs ++ L) (cells + rm.cells) (slots + rm.slots) → Qc v T'.heap L → own_Go p.tables e below P (T'.setTop (mkF m (pc + 3) Ls (v.toList ++ st)))) : own_Go p.tables e below P (T.setTop (mkF m pc Ls stk)) := by
  subst hstk
  obtain ⟨v, _, ⟨T', L', k', n'⟩, -, X', ⟨L, hQ, hl', hy', hz'⟩, sp⟩ := X.specialBack hx hy1 hown (mvT hZ w1) (mvT hZ w2) (mvT hZ w4) hy (backOf (W := W) hM hZ w4 w3 hf hl) (g := mkF m pc Ls (argsL.reverse ++ (.ref a) :: st)) rfl hsize (Steps.refl _) (a := a) (argsL := argsL) (rest := st) hlen rfl hW (hb hby hd) (fun _ _ => ⟨has, eT, hc, hs⟩)
  dsimp only [Pt.U, Pt.locs, Pt.cells, Pt.slots] at X' hl' hy' hz' sp hQ
  subst hl' hy' hz'
  exact own_go (fun t q => sp.trans q) (k T' v L X' hQ)
theorem own_virtual (X : Stand p l e R s m args below meth c T locs cells slots) (hx : p.tables.exec = Jvm.exec) (hZ : Z.Warmed39 s.vm) {own C : String} {index : Nat} {y z : MethodName} {bytes : ByteArray} {maxL : Nat} {ret : Option FieldType} {rm : Room} {Qc : Option Value → Heap → List Loc → Prop} {as' : Array Value} (hown : s.vm.findClass own = some m.cls) (w1 : (Cond.methodLink own index y).before a0 Z = true) (w2 : (Cond.declares y).before a0 Z = true) (nf : NotFace s y) (w5 : (Cond.selects C y z).before a0 Z = true) (w6 : (Cond.instanceMethod z).before a0 Z = true) (w3 : (Cond.initialized z.cls).before a0 Z = true) (w4 : (Cond.code z bytes maxL ret).before a0 Z = true) (hy : y.cls ≠ "java/lang/invoke/MethodHandle" ∧ y.cls ≠ "java/lang/invoke/VarHandle") (hM : MetFree l z (head1 [Cond.code z bytes maxL ret] rm) (fun a U => a = as' ∧ Z.Warmed39 U.vm ∧ U.heap = h) (fun _ _ _ _ _ => True) (fun _ U o U' => ∃ v L, o = .returned v ∧ Qc v U'.heap L ∧ FrameEnd U o U' L rm.cells rm.slots)) (W : Nat) (hW : 2 * 0 + (st.map fun v => v.category).sum ≤ W) (hf : rm.frames + 1 ≤ R.frames) (hl : W + (maxL + 11) + rm.locals ≤ R.locals) (hsize : Ls.size = c.maxLocals) {argsL stk : List Value} {a : Addr} (E : Exa Z h a C) (hlen : ∀ sig, parseMethodDescriptor y.desc = some sig → argsL.length = sig.parameters.length) (hstk : stk = argsL.reverse ++ (.ref a) :: st) (has : ((.ref a) :: argsL).toArray = as') (hc : cells + rm.cells ≤ R.cells) (hs : slots + rm.slots ≤ R.slots) (eT : T.heap = h) (hby : c.code = bc) (hd : decode bc pc = .ok (.invokevirtual index, 3)) (k : ∀ T' v L, Stand p l e R s m args below meth c T' (locs ++ L) (cells + rm.cells) (slots + rm.slots) → Qc v T'.heap L → own_Go p.tables e below P (T'.setTop (mkF m (pc + 3) Ls (v.toList ++ st)))) : own_Go p.tables e below P (T.setTop (mkF m pc Ls stk)) := by
  subst hstk
  obtain ⟨cq, kq, qa, qb, qc⟩ := isOf hZ eT E
  obtain ⟨v, _, ⟨T', L', k', n'⟩, -, X', ⟨L, hQ, hl', hy', hz'⟩, sp⟩ := X.virtualBack hx hown (mvT hZ w1) (mvT hZ w2) nf (mvT hZ w5) (mvT hZ w6) hy (backOf (W := W) hM hZ w4 w3 hf hl) qa qc (g := mkF m pc Ls (argsL.reverse ++ (.ref a) :: st)) rfl hsize (Steps.refl _) (argsL := argsL) (rest := st) hlen rfl hW (hb hby hd) (fun _ _ => ⟨has, eT, hc, hs⟩)
  dsimp only [Pt.U, Pt.locs, Pt.cells, Pt.slots] at X' hl' hy' hz' sp hQ
  subst hl' hy' hz'
  exact own_go (fun t q => sp.trans q) (k T' v L X' hQ)
theorem own_specialB (X : Stand p l e R s m args below meth c T locs cells slots) (hx : p.tables.exec = Jvm.exec) (hZ : Z.Warmed39 s.vm) {own : String} {index : Nat} {y : MethodName} {bytes : ByteArray} {maxL W : Nat} (hy1 : y.name = "<init>") (hown : s.vm.findClass own = some m.cls) (w1 : (Cond.methodLink own index y).before a0 Z = true) (w2 : (Cond.instanceMethod y).before a0 Z = true) (w4 : (Cond.code y bytes maxL none).before a0 Z = true) (hy : y.cls ≠ "java/lang/invoke/MethodHandle" ∧ y.cls ≠ "java/lang/invoke/VarHandle") {Qc : Option Value → Heap → List Loc → Prop} {as' : Array Value} {kc ks : Nat} (hK : Back l R p e below s args y 3 W (fun A a => a = as' ∧ A.U.heap = h ∧ A.cells + kc ≤ R.cells ∧ A.slots + ks ≤ R.slots) (fun A _ v B => ∃ L, Qc v B.U.heap L ∧ B.locs = A.locs ++ L ∧ B.cells = A.cells + kc ∧ B.slots = A.slots + ks)) (hW : 2 * 0 + (st.map fun v => v.category).sum ≤ W) (hsize : Ls.size = c.maxLocals) {argsL stk : List Value} {a : Addr} (hlen : ∀ sig, parseMethodDescriptor y.desc = some sig → argsL.length = sig.parameters.length) (hstk : stk = argsL.reverse ++ (.ref a) :: st) (has : ((.ref a) :: argsL).toArray = as') (hc : cells + kc ≤ R.cells) (hs : slots + ks ≤ R.slots) (eT : T.heap = h) (hby : c.code = bc) (hd : decode bc pc = .ok (.invokespecial index, 3)) (k : ∀ T' v L, Stand p l e R s m args below meth c T' (locs ++ L) (cells + kc) (slots + ks) → Qc v T'.heap L → own_Go p.tables e below P (T'.setTop (mkF m (pc + 3) Ls (v.toList ++ st)))) : own_Go p.tables e below P (T.setTop (mkF m pc Ls stk)) := by
  subst hstk
  obtain ⟨v, _, ⟨T', L', k', n'⟩, -, X', ⟨L, hQ, hl', hy', hz'⟩, sp⟩ := X.specialBack hx hy1 hown (mvT hZ w1) (mvT hZ w2) (mvT hZ w4) hy hK (g := mkF m pc Ls (argsL.reverse ++ (.ref a) :: st)) rfl hsize (Steps.refl _) (a := a) (argsL := argsL) (rest := st) hlen rfl hW (hb hby hd) (fun _ _ => ⟨has, eT, hc, hs⟩)
  dsimp only [Pt.U, Pt.locs, Pt.cells, Pt.slots] at X' hl' hy' hz' sp hQ
  subst hl' hy' hz'
  exact own_go (fun t q => sp.trans q) (k T' v L X' hQ)
theorem own_ldcCH {vm0 : Vm} (X : Stand p l e R (s.setVm vm0) m args below meth c T locs cells slots) (hx : p.tables.exec = Jvm.exec) (hZ : Z.Warmed39 vm0) {own text : String} {index : Nat} {EL : List (String × Nat)} (hEL : EW Z a0 EL) (hown : vm0.findClass own = some m.cls) (w : (Cond.stringLink own index text).before a0 Z = true) (wS : ∀ a ∈ Bundle.stringAtoms, a.before a0 Z = true) (eT : T.heap = h) {k0 : Nat} (hS : s.Since vm0 k0) (hk : k0 ≤ h.size) (H : CHv Z EL vm0 h) (hmem : (own, index) ∈ EL) {vs : List Value} {z : Int32} (ht : (∀ c ∈ text.toList, c.toNat < 256) ∧ text.toList.map (fun c => Value.int (Jvm.Lit.byteI c.toNat.toUInt16)) = vs) (hz : ¬ z < 0) (hl : z.toNatClampNeg = vs.length) (hby : c.code = bc) (hd : decode bc pc = .ok (.ldc index, 2)) (n : Nat) (hn : 4 * text.toList.length ≤ n) (hbig : n ≤ 536870912) (hc : cells + 2 ≤ R.cells) (hl' : slots + (n + 4) ≤ R.slots) (k : ∀ a T' h' k1 vm1 b kb, Stand p l e R (s.setVm vm1) m args below meth c T' locs (cells + 2) (slots + (n + 4)) → T'.heap = h' → Ext h h' → s.Since vm1 k1 → k1 ≤ h'.size → Z.Warmed39 vm1 → vm1.findClass own = some m.cls → Exa Z h' a "java/lang/String" → Fld Z h' a "java/lang/String" "coder" "B" (.int 0) → Fld Z h' a "java/lang/String" "value" "[B" (.ref b) → Arv Z h' b kb .byte z vs (.int 0) → a < h'.size → b < h'.size → CHr Z EL vm0 h vm1 h' → (∀ x, Safe Z EL vm1 h' x → x ≠ a ∧ x ≠ b) → own_Go p.tables e below P (T'.setTop (mkF m (pc + 2) Ls ((.ref a) :: st)))) : own_Go p.tables e below P (T.setTop (mkF m pc Ls st)) := by
  obtain ⟨a, T', h', k1, b, kb, X', e', E, hS', hk', hZ', hown', q1, q2, q3, q4, q5, q6, q7, -, q8, sp⟩ := ldcCH X hx hZ hown w wS eT hS hk hEL hmem H ht hz hl (g := mkF m pc Ls st) rfl (hb hby hd) hn hbig hc hl'
  exact own_go sp (k a T' h' k1 T'.vm b kb X' e' E hS' hk' hZ' hown' q1 q2 q3 q4 q5 q6 q7 q8)
theorem own_callSH {vm0 : Vm} (X : Stand p l e R (s.setVm vm0) m args below meth c T locs cells slots) (hx : p.tables.exec = Jvm.exec) (hZ : Z.Warmed39 vm0) {EL : List (String × Nat)} (hEL : EW Z a0 EL) {own : String} {index : Nat} {y : MethodName} {bytes : ByteArray} {maxL : Nat} {ret : Option FieldType} {rm : Room} {Qc : Option Value → Heap → List Loc → Prop} {as' : Array Value} (hown : vm0.findClass own = some m.cls) (w1 : (Cond.methodLink own index y).before a0 Z = true) (w2 : (Cond.static y).before a0 Z = true) (w3 : (Cond.initialized y.cls).before a0 Z = true) (w4 : (Cond.code y bytes maxL ret).before a0 Z = true) (hy : y.cls ≠ "java/lang/invoke/MethodHandle" ∧ y.cls ≠ "java/lang/invoke/VarHandle") (hM : MetFree l y (head1 [Cond.code y bytes maxL ret] rm) (fun a U => a = as' ∧ Z.Warmed39 U.vm ∧ U.heap = h ∧ CHv Z EL U.vm h) (fun _ _ _ _ _ => True) (fun _ U o U' => ∃ v L, o = .returned v ∧ Qc v U'.heap L ∧ CHr Z EL U.vm U.heap U'.vm U'.heap ∧ ReturnedEndW U o U' L rm.cells rm.slots)) (W : Nat) (hW : 2 * 0 + (st.map fun v => v.category).sum ≤ W) (hf : rm.frames + 1 ≤ R.frames) (hl : W + (maxL + 11) + rm.locals ≤ R.locals) (hsize : Ls.size = c.maxLocals) {argsL stk : List Value} (hlen : ∀ sig, parseMethodDescriptor y.desc = some sig → argsL.length = sig.parameters.length) (hstk : stk = argsL.reverse ++ st) (has : argsL.toArray = as') (hc : cells + rm.cells ≤ R.cells) (hs : slots + rm.slots ≤ R.slots) (eT : T.heap = h) (hby : c.code = bc) (H : CHv Z EL vm0 h) {k0 : Nat} (hS : s.Since vm0 k0) (hk : k0 ≤ h.size) (hd : decode bc pc = .ok (.invokestatic index, 3)) (k : ∀ T' v L vm1, Stand p l e R (s.setVm vm1) m args below meth c T' (locs ++ L) (cells + rm.cells) (slots + rm.slots) → s.Since vm1 T'.heap.size → Z.Warmed39 vm1 → vm1.findClass own = some m.cls → h.size ≤ T'.heap.size → CHr Z EL vm0 h vm1 T'.heap → Qc v T'.heap L → own_Go p.tables e below P (T'.setTop (mkF m (pc + 3) Ls (v.toList ++ st)))) : own_Go p.tables e below P (T.setTop (mkF m pc Ls stk)) := by
  subst hstk
  obtain ⟨v, _, ⟨T', L', k', n'⟩, -, X', h2', hg', ⟨L, hQ, hl', hy', hz', hC'⟩, sp⟩ := callSS X hx hown (mvT (s := s.setVm vm0) hZ w1) (mvT (s := s.setVm vm0) hZ w2) (mvT (s := s.setVm vm0) hZ w3) (mvT (s := s.setVm vm0) hZ w4) hy (backOfSH (s := s) (W := W) hM hZ w4 w3 hf hl hEL H) (g := mkF m pc Ls (argsL.reverse ++ st)) rfl hsize (argsL := argsL) (rest := st) hlen rfl hW (hb hby hd) (fun _ _ => ⟨has, eT, hc, hs⟩)
  dsimp only [Pt.U, Pt.locs, Pt.cells, Pt.slots] at X' h2' hg' hl' hy' hz' hC' sp hQ
  subst hl' hy' hz'
  obtain ⟨r1, r2, r3, r4⟩ := rebS (Z := Z) (own := own) hS hk X' h2' (by rw [← eT]; exact hg') hZ hown
  exact own_go (fun t q => sp.trans q) (k T' v L _ r1 r2 r3 r4 (by rw [← eT]; exact hg') hC' hQ)
theorem own_specialH {vm0 : Vm} (X : Stand p l e R (s.setVm vm0) m args below meth c T locs cells slots) (hx : p.tables.exec = Jvm.exec) (hZ : Z.Warmed39 vm0) {EL : List (String × Nat)} (hEL : EW Z a0 EL) {own : String} {index : Nat} {y : MethodName} {bytes : ByteArray} {maxL : Nat} {rm : Room} {Qc : Option Value → Heap → List Loc → Prop} {as' : Array Value} (hy1 : y.name = "<init>") (hown : vm0.findClass own = some m.cls) (w1 : (Cond.methodLink own index y).before a0 Z = true) (w2 : (Cond.instanceMethod y).before a0 Z = true) (w3 : (Cond.initialized y.cls).before a0 Z = true) (w4 : (Cond.code y bytes maxL none).before a0 Z = true) (hy : y.cls ≠ "java/lang/invoke/MethodHandle" ∧ y.cls ≠ "java/lang/invoke/VarHandle") (hM : MetFree l y (head1 [Cond.code y bytes maxL none] rm) (fun a U => a = as' ∧ Z.Warmed39 U.vm ∧ U.heap = h ∧ CHv Z EL U.vm h) (fun _ _ _ _ _ => True) (fun _ U o U' => ∃ v L, o = .returned v ∧ Qc v U'.heap L ∧ CHr Z EL U.vm U.heap U'.vm U'.heap ∧ ReturnedEndW U o U' L rm.cells rm.slots)) (W : Nat) (hW : 2 * 0 + (st.map fun v => v.category).sum ≤ W) (hf : rm.frames + 1 ≤ R.frames) (hl : W + (maxL + 11) + rm.locals ≤ R.locals) (hsize : Ls.size = c.maxLocals) {argsL stk : List Value} {a : Addr} (hlen : ∀ sig, parseMethodDescriptor y.desc = some sig → argsL.length = sig.parameters.length) (hstk : stk = argsL.reverse ++ (.ref a) :: st) (has : ((.ref a) :: argsL).toArray = as') (hc : cells + rm.cells ≤ R.cells) (hs : slots + rm.slots ≤ R.slots) (eT : T.heap = h) (hby : c.code = bc) (H : CHv Z EL vm0 h) {k0 : Nat} (hS : s.Since vm0 k0) (hk : k0 ≤ h.size) (hd : decode bc pc = .ok (.invokespecial index, 3)) (k : ∀ T' v L vm1, Stand p l e R (s.setVm vm1) m args below meth c T' (locs ++ L) (cells + rm.cells) (slots + rm.slots) → s.Since vm1 T'.heap.size → Z.Warmed39 vm1 → vm1.findClass own = some m.cls → h.size ≤ T'.heap.size → CHr Z EL vm0 h vm1 T'.heap → Qc v T'.heap L → own_Go p.tables e below P (T'.setTop (mkF m (pc + 3) Ls (v.toList ++ st)))) : own_Go p.tables e below P (T.setTop (mkF m pc Ls stk)) := by
  subst hstk
  obtain ⟨v, _, ⟨T', L', k', n'⟩, -, X', h2', hg', ⟨L, hQ, hl', hy', hz', hC'⟩, sp⟩ := X.specialBackS hx hy1 hown (mvT (s := s.setVm vm0) hZ w1) (mvT (s := s.setVm vm0) hZ w2) (mvT (s := s.setVm vm0) hZ w4) hy (backOfSH (s := s) (W := W) hM hZ w4 w3 hf hl hEL H) (g := mkF m pc Ls (argsL.reverse ++ (.ref a) :: st)) rfl hsize (Steps.refl _) (a := a) (argsL := argsL) (rest := st) hlen rfl hW (hb hby hd) (fun _ _ => ⟨has, eT, hc, hs⟩)
  dsimp only [Pt.U, Pt.locs, Pt.cells, Pt.slots] at X' h2' hg' hl' hy' hz' hC' sp hQ
  subst hl' hy' hz'
  obtain ⟨r1, r2, r3, r4⟩ := rebS (Z := Z) (own := own) hS hk X' h2' (by rw [← eT]; exact hg') hZ hown
  exact own_go (fun t q => sp.trans q) (k T' v L _ r1 r2 r3 r4 (by rw [← eT]; exact hg') hC' hQ)
end OwnGo
theorem own_sta_keep {Z : State} {h h' : Heap} {C n d : String} {v : Value} {ws : List Addr} (F : Sta Z h C n d v) (K : Keep h h' ws) (q : ∀ x ∈ ws, ∀ cell : Cell, h[x]? = some cell → cell.vm.isStatics = false) : Sta Z h' C n d v := by
  obtain ⟨cf, i, k, f, st, cell, h1, h2, h3, h4, h5, h6, h7⟩ := F
  refine ⟨cf, i, k, f, st, cell, h1, h2, h3, h4, K.2.1 st cell h5 fun hm => ?_, h6, h7⟩
  rw [q st hm cell h5] at h6; cases h6
theorem own_exa_plain {Z : State} {h : Heap} {a : Addr} {C : String} (F : Exa Z h a C) : ∀ cell : Cell, h[a]? = some cell → cell.vm.isStatics = false := fun cell hc => by
  obtain ⟨c', k, h1, h2, h3, h4, h5⟩ := F
  cases h1.symm.trans hc; exact h4
theorem own_safe_null {Z : State} {EL : List (String × Nat)} {vm : Vm} {h : Heap} {x : Addr} (hal : Z.vm.Alike vm) (E : Exa Z h x "java/lang/String") (F : Fld Z h x "java/lang/String" "value" "[B" .null) : Safe Z EL vm h x := fun B => by
  obtain ⟨cell, k, e1, e2, e3, -, -⟩ := E
  have nm : ∀ {n : String} {c : ClassId}, vm.findClass n = some c → c = cell.cls → n = "java/lang/String" := fun {n c} f e => by
    subst e
    rw [hal.findClass] at f
    obtain ⟨k1, q1, q2⟩ := Vm.findClass_spec f
    obtain ⟨k2, q3, q4⟩ := Vm.findClass_spec e2
    cases q1.symm.trans q3
    exact q2.symm.trans q4
  obtain ⟨cl, c', k', i', f', g1, g2, -, -, -, -, g7⟩ := F
  obtain ⟨p, -, u, a, -, q, -, G, rfl | rfl⟩ := B
  · cases (show h[q.sa]? = some q.sC from G.ha).symm.trans g1
    obtain ⟨cS, ⟨⟨-, -, -, ⟨c1, k1, i1, f1, -⟩, -, -, -, v1, -⟩, -⟩, -⟩ := G
    obtain ⟨k3, h3, -⟩ := State.fieldFound?_setVm (s := Z) hal g2
    have e4 := (show (Wst Z vm h).fieldFound? _ _ _ = _ from h3).symm.trans f1
    simp only [Option.some.injEq, Prod.mk.injEq] at e4
    rw [← e4.2.2.2, g7] at v1
    simp at v1
  · cases (show h[q.sd]? = some q.SA from G.hd).symm.trans e1
    obtain ⟨cS, -, -, f, -⟩ := G
    exact absurd (nm f rfl) (by decide)
theorem own_narc (y : Int32) : nar .char ((y &&& (255 : Int32)).toUInt32.toUInt16.toUInt32.toInt32) = (y &&& (255 : Int32)) := by
  rw [i2c_mask]
  exact i2c_mask y
theorem own_c255 (y : Int32) : ¬ (y &&& (255 : Int32)) < 0 ∧ ¬ (255 : Int32) < (y &&& (255 : Int32)) := by
  have h := c_and y (255 : Int32) (by decide)
  have a : (255 : Int32).toInt = 255 := by decide
  have b : (0 : Int32).toInt = 0 := by decide
  rw [Int32.lt_iff_toInt_lt, Int32.lt_iff_toInt_lt, b]
  omega
theorem own_l0 {P : Int32 → Prop} : ∀ c ∈ ([] : List Int32), P c := fun _ h => nomatch h
theorem own_lS {P : Int32 → Prop} {y : Int32} {L : List Int32} (q : P y) (r : ∀ c ∈ L, P c) : ∀ c ∈ y :: L, P c := fun c h => (List.mem_cons.mp h).elim (fun e => e ▸ q) (r c)
theorem own_i2bb (c : Int32) : nar .byte (c.toInt8.toInt32) = (c.toInt8.toInt32) := by
  show c.toInt8.toInt32.toInt8.toInt32 = c.toInt8.toInt32
  rw [Int8.toInt8_toInt32]
theorem own_low8 (c : Int32) (h0 : ¬ (c < (0 : Int32))) (h1 : ¬ ((255 : Int32) < c)) : ((c.toInt8.toInt32) &&& (255 : Int32)) = c := by
  have a : (255 : Int32).toInt = 255 := by decide
  have b : (0 : Int32).toInt = 0 := by decide
  rw [Int32.lt_iff_toInt_lt, b] at h0
  rw [Int32.lt_iff_toInt_lt, a] at h1
  have h2 := c_mask (c.toInt8.toInt32) 255 8 (by decide) (by decide)
  have h3 := c_i2b c
  have h4 : ((2 ^ 8 : Nat) : Int) = 256 := by decide
  rw [h4] at h2
  apply Int32.toInt_inj.mp
  omega
theorem own_nar8 (c : Int32) (h0 : ¬ (c < (0 : Int32))) (h1 : ¬ ((255 : Int32) < c)) : nar .char c = c := by
  have e := own_low8 c h0 h1
  have q := i2c_mask (c.toInt8.toInt32)
  rw [e] at q
  exact q
theorem own_chr8 (c : Int32) (h0 : ¬ (c < (0 : Int32))) (h1 : ¬ ((255 : Int32) < c)) : nar .char ((((c.toInt8.toInt32)) &&& (255 : Int32)).toUInt32.toUInt16.toUInt32.toInt32) = c := by
  rw [i2c_mask, own_low8 c h0 h1]
  exact own_nar8 c h0 h1
theorem own_and3 (x : Int32) : x &&& (3 : Int32) = (0 : Int32) ∨ x &&& (3 : Int32) = (1 : Int32) ∨ x &&& (3 : Int32) = (2 : Int32) ∨ x &&& (3 : Int32) = (3 : Int32) := by
  obtain ⟨h1, h2⟩ := c_and x 3 (by decide)
  have h3 : (3 : Int32).toInt = 3 := by decide
  rw [h3] at h2
  have h4 : (x &&& 3).toInt = 0 ∨ (x &&& 3).toInt = 1 ∨ (x &&& 3).toInt = 2 ∨ (x &&& 3).toInt = 3 := by omega
  rcases h4 with h | h | h | h
  · exact Or.inl (Int32.toInt_inj.mp (h.trans (by decide)))
  · exact Or.inr (Or.inl (Int32.toInt_inj.mp (h.trans (by decide))))
  · exact Or.inr (Or.inr (Or.inl (Int32.toInt_inj.mp (h.trans (by decide)))))
  · exact Or.inr (Or.inr (Or.inr (Int32.toInt_inj.mp (h.trans (by decide)))))
def own_ic (x : Int32) : Int32 := ((33 : Int32) + ((x &&& (2147483647 : Int32)) % (93 : Int32)))
theorem own_icI (x : Int32) : 33 ≤ (own_ic x).toInt ∧ (own_ic x).toInt < 126 := by
  have h1 := c_and x (2147483647 : Int32) (by decide)
  have h2 := (c_irem (x &&& (2147483647 : Int32)) (93 : Int32) 93 (by decide)).1 h1.1
  have h3 := Int.emod_nonneg (x &&& (2147483647 : Int32)).toInt (show (93 : Int) ≠ 0 by decide)
  have h4 := Int.emod_lt_of_pos (x &&& (2147483647 : Int32)).toInt (show (0 : Int) < 93 by decide)
  have h5 : (33 : Int32).toInt = 33 := by decide
  have e : (own_ic x).toInt = 33 + (x &&& (2147483647 : Int32)).toInt % 93 := by
    show ((33 : Int32) + ((x &&& (2147483647 : Int32)) % (93 : Int32))).toInt = _
    rw [Int32.toInt_add, h2, h5]
    exact Int.bmod_eq_of_le_mul_two (by omega) (by omega)
  omega
theorem own_icE (x : Int32) : (((33 : Int32) + ((x &&& (2147483647 : Int32)) % (93 : Int32))).toUInt32.toUInt16.toUInt32.toInt32) = own_ic x := by
  have h := own_icI x
  have q := c_i2c (own_ic x)
  apply Int32.toInt_inj.mp
  show (own_ic x).toUInt32.toUInt16.toUInt32.toInt32.toInt = _
  omega
theorem own_ic0 (x : Int32) : ¬ (own_ic x < (0 : Int32)) := by
  have h := own_icI x
  have b : (0 : Int32).toInt = 0 := by decide
  rw [Int32.lt_iff_toInt_lt, b]
  omega
theorem own_ic255 (x : Int32) : ¬ ((255 : Int32) < own_ic x) := by
  have h := own_icI x
  have b : (255 : Int32).toInt = 255 := by decide
  rw [Int32.lt_iff_toInt_lt, b]
  omega
theorem own_ic126 (x : Int32) : ¬ ((126 : Int32) < own_ic x) := by
  have h := own_icI x
  have b : (126 : Int32).toInt = 126 := by decide
  rw [Int32.lt_iff_toInt_lt, b]
  omega
theorem own_ic32 (x : Int32) : (32 : Int32) < own_ic x := by
  have h := own_icI x
  have b : (32 : Int32).toInt = 32 := by decide
  rw [Int32.lt_iff_toInt_lt, b]
  omega
theorem ef_canEnc (m : MethodId) (x0 : Int32) : entryFrame m #[(.int x0)] 1 = mkF m 0 #[.val (.int x0)] [] := by first | (simp [entryFrame, mkF, argsToLocals, Value.category]; done) | rfl
theorem pn_2 : plainName "java/lang/StringLatin1" = true := by first | (simp [plainName, overriddenIn]; done) | decide +kernel
theorem d2_0 : decode jdk_43_method_3_code 0 = .ok (.iload_n 0, 1) := by decide +kernel
theorem d2_1 : decode jdk_43_method_3_code 1 = .ok (.sipush 255, 3) := by decide +kernel
theorem d2_4 : decode jdk_43_method_3_code 4 = .ok (.if_icmp .gt 7, 3) := by decide +kernel
theorem d2_7 : decode jdk_43_method_3_code 7 = .ok (.iconst 1, 1) := by decide +kernel
theorem d2_8 : decode jdk_43_method_3_code 8 = .ok (.goto 4, 3) := by decide +kernel
theorem d2_12 : decode jdk_43_method_3_code 12 = .ok (.ireturn, 1) := by decide +kernel
def Q_canEnc (Z : State) (ch : Int32) (h0 : Heap) (n0 : Nat) (vR : Option Value) (hR : Heap) (LR : List Loc) : Prop := vR = some (.int 1) ∧ Fr n0 LR ∧ hR = h0
set_option maxRecDepth 65536 in
set_option maxHeartbeats 40000000 in
theorem canEnc (l : Launch) (Z : State) (a0 : Array Value) (hw : ∀ d ∈ tables_1, d.before a0 Z = true) (ws : List Jvm.Cond) (ch : Int32) (h0 : Heap) (n0 : Nat) (Z0 : n0 ≤ h0.size) (hc : ¬ ((255 : Int32) < ch)) :
    own_M l (⟨"java/lang/StringLatin1", "canEncode", "(C)Z"⟩ : MethodName) jdk_43_method_3_code 1 (some .boolean) ws ({ frames := 0, cells := 0, slots := 0, locals := 0 } : Room) Z #[(.int ch)] h0 (Q_canEnc Z ch h0 n0) := by
  refine own_body (own := "java/lang/StringLatin1") rfl (plainFor_of_name pn_2) (fun m => ef_canEnc m ch) ?_
  intro p e s m below meth c s₁ Bd hml hZ hh hx hby hown X0 e0
  have N0 := Fr.nil n0
  refine own_iloadN X0.here hx hby d2_0 rfl ?_
  refine own_sipush X0.here hx hby d2_1 (v := (255 : Int32)) (by decide) ?_
  refine own_icmpNo X0.here hx hby d2_4 (flt hc).2.2.1 ?_
  refine own_iconst X0.here hx hby d2_7 (v := (1 : Int32)) (by decide) ?_
  refine own_goto X0.here hx hby (pc' := 12) d2_8 (by decide) (by decide) ?_
  obtain ⟨fs, hr, hrun, hended, hW, hsame⟩ := X0.leave (v := some (.int 1)) (fun h => by rw [Bd.returns] at h; cases h)
  refine own_ret (t := s₁.setFrames fs) ?_ ⟨_, hrun, hended, _, _, rfl, ?_, ⟨_, rfl⟩, hW, hsame.mono (by decide) (by decide)⟩
  · exact retN X0 hx (t := .boolean) Bd.returns (by simp) (hb hby d2_12) hr
  · show Q_canEnc Z ch h0 n0 _ s₁.heap _
    rw [e0]
    exact ⟨rfl, N0, rfl⟩
theorem ef_toBy1 (m : MethodId) (x0 : Int32) : entryFrame m #[(.int x0)] 1 = mkF m 0 #[.val (.int x0)] [] := by first | (simp [entryFrame, mkF, argsToLocals, Value.category]; done) | rfl
theorem pn_3 : plainName "java/lang/StringLatin1" = true := by first | (simp [plainName, overriddenIn]; done) | decide +kernel
theorem d3_0 : decode jdk_43_method_46_code 0 = .ok (.iconst 1, 1) := by decide +kernel
theorem d3_1 : decode jdk_43_method_46_code 1 = .ok (.newarray .byte, 2) := by decide +kernel
theorem d3_3 : decode jdk_43_method_46_code 3 = .ok (.dup, 1) := by decide +kernel
theorem d3_4 : decode jdk_43_method_46_code 4 = .ok (.iconst 0, 1) := by decide +kernel
theorem d3_5 : decode jdk_43_method_46_code 5 = .ok (.iload_n 0, 1) := by decide +kernel
theorem d3_6 : decode jdk_43_method_46_code 6 = .ok (.i2b, 1) := by decide +kernel
theorem d3_7 : decode jdk_43_method_46_code 7 = .ok (.bastore, 1) := by decide +kernel
theorem d3_8 : decode jdk_43_method_46_code 8 = .ok (.areturn, 1) := by decide +kernel
def Q_toBy1 (Z : State) (ch : Int32) (h0 : Heap) (n0 : Nat) (vR : Option Value) (hR : Heap) (LR : List Loc) : Prop := ∃ (t : Nat) (kb : ClassId), vR = some (.ref t) ∧ Fr n0 LR ∧ Keep h0 hR [] ∧ h0.size ≤ t ∧ (Arv Z hR t kb .byte (1 : Int32) [(.int (ch.toInt8.toInt32))] (.int 0))
set_option maxRecDepth 65536 in
set_option maxHeartbeats 40000000 in
theorem toBy1 (l : Launch) (Z : State) (a0 : Array Value) (hw : ∀ d ∈ tables_1, d.before a0 Z = true) (ws : List Jvm.Cond) (ch : Int32) (h0 : Heap) (n0 : Nat) (Z0 : n0 ≤ h0.size)  :
    own_M l (⟨"java/lang/StringLatin1", "toBytes", "(C)[B"⟩ : MethodName) jdk_43_method_46_code 1 (some (.array .byte)) ws ({ frames := 0, cells := 1, slots := 1, locals := 0 } : Room) Z #[(.int ch)] h0 (Q_toBy1 Z ch h0 n0) := by
  refine own_body (own := "java/lang/StringLatin1") rfl (plainFor_of_name pn_3) (fun m => ef_toBy1 m ch) ?_
  intro p e s m below meth c s₁ Bd hml hZ hh hx hby hown X0 e0
  have N0 := Fr.nil n0
  refine own_iconst X0.here hx hby d3_0 (v := (1 : Int32)) (by decide) ?_
  refine own_newP X0 hx hZ (aty := .byte) (own_w hw 15 rfl) e0 hby d3_1 (by decide) 1 (by decide) (by decide) (by decide) (by decide) (ad := "[B") (by decide) ?_
  intro T1 h1 k1 b1 X1 e1 E1 g1 V1 C1 lt1
  have z2 : h0.size ≤ h1.size := E1.1
  have V3 : Arv Z h1 b1 k1 .byte (1 : Int32) [(.int 0)] (.int 0) := V1.pad (pad_rep [] (.int 0) 1)
  refine own_dup X1.here hx hby d3_3 rfl ?_
  refine own_iconst X1.here hx hby d3_4 (v := (0 : Int32)) (by decide) ?_
  refine own_iloadN X1.here hx hby d3_5 rfl ?_
  refine own_i2b X1.here hx hby d3_6 rfl ?_
  refine own_bastore X1 hx hZ e1 V3 ⟨by decide, by decide⟩ 0 (by decide) (Nat.le_of_ble_eq_true rfl) (w := (.int (ch.toInt8.toInt32))) (congrArg Value.int (own_i2bb ch)) hby d3_7 N0 (by omega) ?_
  intro T4 h4 lo4 X4 e4 N4 W4 V4 z4
  have V5 : Arv Z h4 b1 k1 .byte (1 : Int32) [(.int (ch.toInt8.toInt32))] (.int 0) := V4
  have K6 : Keep h0 h4 [] := (((Keep.refl h0 []).ext E1).wr W4 (Or.inr (by omega)))
  obtain ⟨fs, hr, hrun, hended, hW, hsame⟩ := X4.leave (v := some (.ref b1)) (fun h => by rw [Bd.returns] at h; cases h)
  refine own_ret (t := T4.setFrames fs) ?_ ⟨_, hrun, hended, _, _, rfl, ?_, ⟨_, rfl⟩, hW, hsame.mono (by decide) (by decide)⟩
  · exact retOut X4 hx Bd.returns rfl (Or.inr (Or.inr (Or.inr (Or.inr ⟨rfl, rfl, rfl⟩)))) (hb hby d3_8) hr
  · show Q_toBy1 Z ch h0 n0 _ T4.heap _
    rw [e4]
    exact ⟨b1, k1, rfl, N4, K6, (by omega), V5⟩
theorem ef_bbInit (m : MethodId) (x0 : Nat) (x1 : Nat) (x2 : Int32) : entryFrame m #[(.ref x0), (.ref x1), (.int x2)] 3 = mkF m 0 #[.val (.ref x0), .val (.ref x1), .val (.int x2)] [] := by first | (simp [entryFrame, mkF, argsToLocals, Value.category]; done) | rfl
theorem pn_4 : plainName "java/lang/String" = true := by first | (simp [plainName, overriddenIn]; done) | decide +kernel
theorem d4_0 : decode jdk_42_method_151_code 0 = .ok (.aload_n 0, 1) := by decide +kernel
theorem d4_1 : decode jdk_42_method_151_code 1 = .ok (.invokespecial 1, 3) := by decide +kernel
theorem d4_4 : decode jdk_42_method_151_code 4 = .ok (.aload_n 0, 1) := by decide +kernel
theorem d4_5 : decode jdk_42_method_151_code 5 = .ok (.aload_n 1, 1) := by decide +kernel
theorem d4_6 : decode jdk_42_method_151_code 6 = .ok (.putfield 9, 3) := by decide +kernel
theorem d4_9 : decode jdk_42_method_151_code 9 = .ok (.aload_n 0, 1) := by decide +kernel
theorem d4_10 : decode jdk_42_method_151_code 10 = .ok (.iload_n 2, 1) := by decide +kernel
theorem d4_11 : decode jdk_42_method_151_code 11 = .ok (.putfield 15, 3) := by decide +kernel
theorem d4_14 : decode jdk_42_method_151_code 14 = .ok (.return_, 1) := by decide +kernel
def Q_bbInit (Z : State) (x : Nat) (t : Nat) (h0 : Heap) (n0 : Nat) (vR : Option Value) (hR : Heap) (LR : List Loc) : Prop := vR = none ∧ Fr n0 LR ∧ Keep h0 hR [x] ∧ (Exa Z hR x "java/lang/String") ∧ (Fld Z hR x "java/lang/String" "value" "[B" (.ref t)) ∧ (Fld Z hR x "java/lang/String" "coder" "B" (.int 0))
set_option maxRecDepth 65536 in
set_option maxHeartbeats 40000000 in
theorem bbInit (l : Launch) (Z : State) (a0 : Array Value) (hw : ∀ d ∈ tables_1, d.before a0 Z = true) (ws : List Jvm.Cond) (x : Nat) (t : Nat) (h0 : Heap) (n0 : Nat) (Z0 : n0 ≤ h0.size) (E_x : Exa Z h0 x "java/lang/String") (F_value_x : Fld Z h0 x "java/lang/String" "value" "[B" .null) (F_coder_x : Fld Z h0 x "java/lang/String" "coder" "B" (.int 0)) (g_x : n0 ≤ x) :
    own_M l (⟨"java/lang/String", "<init>", "([BB)V"⟩ : MethodName) jdk_42_method_151_code 3 none ws ({ frames := 1, cells := 0, slots := 0, locals := 12 } : Room) Z #[(.ref x), (.ref t), (.int 0)] h0 (Q_bbInit Z x t h0 n0) := by
  refine own_body (own := "java/lang/String") rfl (plainFor_of_name pn_4) (fun m => ef_bbInit m x t (0 : Int32)) ?_
  intro p e s m below meth c s₁ Bd hml hZ hh hx hby hown X0 e0
  have N0 := Fr.nil n0
  have lt1 : h0.size > x := E_x.lt
  refine own_aloadN X0.here hx hby d4_0 rfl rfl ?_
  refine own_initO X0 hx hZ hown (own_w hw 20 rfl) (own_w hw 21 rfl) (own_w hw 22 rfl) e0 (by rw [hml]; rfl) hby d4_1 (by decide) 0 (Nat.le_of_eq rfl) (by decide) ?_
  intro T2 X2 e2
  refine own_aloadN X2.here hx hby d4_4 rfl rfl ?_
  refine own_aloadN X2.here hx hby d4_5 rfl rfl ?_
  refine own_putF X2 hx hZ (ty := (.array .byte)) hown (host := "") (Or.inl (own_w hw 23 rfl)) Via.refl e2 F_value_x E_x (Or.inr ⟨(own_w hw 24 rfl), rfl, (name_of_methodNamed Bd.named Bd.method).1⟩) (own_w hw 11 rfl) (by decide) rfl rfl hby d4_6 N0 g_x ?_
  intro T3 h3 lo3 X3 e3 N3 W3 F3 z3
  refine own_aloadN X3.here hx hby d4_9 rfl rfl ?_
  refine own_iloadN X3.here hx hby d4_10 rfl ?_
  have f4 : Exa Z h3 x "java/lang/String" := (E_x.wr W3)
  have f5 : Fld Z h3 x "java/lang/String" "coder" "B" (.int 0) := (F_coder_x.other W3 (Or.inr (slot_ne (Or.inr (own_w hw 26 rfl)) (Or.inr (own_w hw 24 rfl)) (by decide) (t := .byte) (t' := (.array .byte)) (by decide) (by decide))))
  refine own_putFN X3 hx hZ (ty := .byte) (v' := (.int 0)) hown (own_w hw 25 rfl) Via.refl e3 f5 f4 (Or.inr ⟨(own_w hw 26 rfl), rfl, (name_of_methodNamed Bd.named Bd.method).1⟩) (own_w hw 11 rfl) (by decide) rfl rfl hby d4_11 N3 g_x ?_
  intro T6 h6 lo6 X6 e6 N6 W6 F6 z6
  have K7 : Keep h0 h6 [x] := (((Keep.refl h0 [x]).wr W3 (Or.inl (List.mem_of_getElem? (i := 0) rfl))).wr W6 (Or.inl (List.mem_of_getElem? (i := 0) rfl)))
  have f8 : Exa Z h6 x "java/lang/String" := (f4.wr W6)
  have f9 : Fld Z h6 x "java/lang/String" "value" "[B" (.ref t) := (F3.other W6 (Or.inr (slot_ne (Or.inr (own_w hw 24 rfl)) (Or.inr (own_w hw 26 rfl)) (by decide) (t := (.array .byte)) (t' := .byte) (by decide) (by decide))))
  obtain ⟨fs, hr, hrun, hended, hW, hsame⟩ := X6.leave (v := none) (fun _ => rfl)
  refine own_ret (t := T6.setFrames fs) ?_ ⟨_, hrun, hended, _, _, rfl, ?_, ⟨_, rfl⟩, hW, hsame.mono (by decide) (by decide)⟩
  · exact X6.returnOut hx Bd.returns (hb hby d4_14) hr
  · show Q_bbInit Z x t h0 n0 _ T6.heap _
    rw [e6]
    exact ⟨rfl, N6, K7, f8, f9, F6⟩
theorem ef_valOf (m : MethodId) (x0 : Int32) : entryFrame m #[(.int x0)] 1 = mkF m 0 #[.val (.int x0)] [] := by first | (simp [entryFrame, mkF, argsToLocals, Value.category]; done) | rfl
theorem pn_1 : plainName "java/lang/String" = true := by first | (simp [plainName, overriddenIn]; done) | decide +kernel
theorem d1_0 : decode jdk_42_method_139_code 0 = .ok (.getstatic 38, 3) := by decide +kernel
theorem d1_3 : decode jdk_42_method_139_code 3 = .ok (.ifCond .eq 23, 3) := by decide +kernel
theorem d1_6 : decode jdk_42_method_139_code 6 = .ok (.iload_n 0, 1) := by decide +kernel
theorem d1_7 : decode jdk_42_method_139_code 7 = .ok (.invokestatic 1015, 3) := by decide +kernel
theorem pd_0 : parseMethodDescriptor "(C)Z" = some ⟨[.char], some .boolean⟩ := by decide +kernel
theorem d1_10 : decode jdk_42_method_139_code 10 = .ok (.ifCond .eq 16, 3) := by decide +kernel
theorem d1_13 : decode jdk_42_method_139_code 13 = .ok (.new 10, 3) := by decide +kernel
theorem d1_16 : decode jdk_42_method_139_code 16 = .ok (.dup, 1) := by decide +kernel
theorem d1_17 : decode jdk_42_method_139_code 17 = .ok (.iload_n 0, 1) := by decide +kernel
theorem d1_18 : decode jdk_42_method_139_code 18 = .ok (.invokestatic 1018, 3) := by decide +kernel
theorem pd_1 : parseMethodDescriptor "(C)[B" = some ⟨[.char], some (.array .byte)⟩ := by decide +kernel
theorem d1_21 : decode jdk_42_method_139_code 21 = .ok (.iconst 0, 1) := by decide +kernel
theorem d1_22 : decode jdk_42_method_139_code 22 = .ok (.invokespecial 209, 3) := by decide +kernel
theorem pd_2 : parseMethodDescriptor "([BB)V" = some ⟨[(.array .byte), .byte], none⟩ := by decide +kernel
theorem d1_25 : decode jdk_42_method_139_code 25 = .ok (.areturn, 1) := by decide +kernel
def Q_valOf (Z : State) (ch : Int32) (zc : Int32) (h0 : Heap) (n0 : Nat) (vR : Option Value) (hR : Heap) (LR : List Loc) : Prop := ∃ (x : Nat) (t : Nat) (kb : ClassId), vR = some (.ref x) ∧ Fr n0 LR ∧ Keep h0 hR [] ∧ h0.size ≤ x ∧ h0.size ≤ t ∧ (x < t) ∧ (Exa Z hR x "java/lang/String") ∧ (Fld Z hR x "java/lang/String" "coder" "B" (.int 0)) ∧ (Fld Z hR x "java/lang/String" "value" "[B" (.ref t)) ∧ (Arv Z hR t kb .byte (1 : Int32) [(.int (ch.toInt8.toInt32))] (.int 0))
set_option maxRecDepth 65536 in
set_option maxHeartbeats 40000000 in
theorem valOf (l : Launch) (Z : State) (a0 : Array Value) (hw : ∀ d ∈ tables_1, d.before a0 Z = true) (ws : List Jvm.Cond) (ch : Int32) (zc : Int32) (h0 : Heap) (n0 : Nat) (Z0 : n0 ≤ h0.size) (S_COMPACT : Sta Z h0 "java/lang/String" "COMPACT_STRINGS" "Z" (.int zc)) (hz : ¬ (zc = (0 : Int32))) (hc : ¬ ((255 : Int32) < ch)) :
    own_M l (⟨"java/lang/String", "valueOf", "(C)Ljava/lang/String;"⟩ : MethodName) jdk_42_method_139_code 1 (some (.object "java/lang/String")) ws ({ frames := 2, cells := 2, slots := 5, locals := 27 } : Room) Z #[(.int ch)] h0 (Q_valOf Z ch zc h0 n0) := by
  refine own_body (own := "java/lang/String") rfl (plainFor_of_name pn_1) (fun m => ef_valOf m ch) ?_
  intro p e s m below meth c s₁ Bd hml hZ hh hx hby hown X0 e0
  have N0 := Fr.nil n0
  refine own_getS X0 hx hZ hown (host := "") (Or.inl (own_w hw 5 rfl)) Via.refl e0 S_COMPACT hby d1_0 ?_
  intro T1 X1 e1
  refine own_ifNo X1.here hx hby d1_3 ((if0 _ _).trans (feq hz).1) ?_
  refine own_iloadN X1.here hx hby d1_6 rfl ?_
  refine own_callS X1 hx hZ hown (own_w hw 6 rfl) (own_w hw 7 rfl) (own_w hw 8 rfl) (own_w hw 9 rfl) (by decide) (canEnc l Z a0 hw [] ch h0 n0 Z0 hc) 0 (Nat.le_of_eq rfl) (by decide) (by decide) (by rw [hml]; rfl) (argsL := [(.int ch)]) (st := []) (lenOf pd_0 rfl) rfl rfl (by decide) (by decide) e1 hby d1_7 ?_
  intro T2 v2 L2 X2 hQ2
  obtain ⟨rfl, Nq2, eh2⟩ := hQ2
  have N2 := Fr.app N0 Nq2
  refine own_sh (T := T2) 10 #[.val (.int ch)] [(.int 1)] ?_
  refine own_ifNo X2.here hx hby d1_10 ((if0 _ _).trans (feq (show ¬ ((1 : Int32) = (0 : Int32)) from (by decide))).1) ?_
  refine own_newO X2 hx hZ hown (own_w hw 10 rfl) (own_w hw 11 rfl) (own_w hw 3 rfl) eh2 hby d1_13 (by decide) (by decide) ?_
  intro T3 h3 b3 X3 e3 E3 g3 A3 D3 lt3
  have z4 : h0.size ≤ h3.size := E3.1
  have F5 : Fld Z h3 b3 "java/lang/String" "value" "[B" .null := D3 (Or.inr (own_w hw 24 rfl)) (ty := (.array .byte)) (by decide)
  have F6 : Fld Z h3 b3 "java/lang/String" "coder" "B" (.int 0) := D3 (Or.inr (own_w hw 26 rfl)) (ty := .byte) (by decide)
  refine own_dup X3.here hx hby d1_16 rfl ?_
  refine own_iloadN X3.here hx hby d1_17 rfl ?_
  have z8 : n0 ≤ h3.size := by omega
  refine own_callS X3 hx hZ hown (own_w hw 12 rfl) (own_w hw 13 rfl) (own_w hw 8 rfl) (own_w hw 14 rfl) (by decide) (toBy1 l Z a0 hw [] ch h3 n0 z8 ) 2 (Nat.le_of_eq rfl) (by decide) (by decide) (by rw [hml]; rfl) (argsL := [(.int ch)]) (st := [(.ref b3), (.ref b3)]) (lenOf pd_1 rfl) rfl rfl (by decide) (by decide) e3 hby d1_18 ?_
  intro T7 v7 L7 X7 hQ7
  obtain ⟨t_7, kb_7, rfl, Nq7, K7, P7_0, P7_1⟩ := hQ7
  have N7 := Fr.app N2 Nq7
  have z9 : h3.size ≤ T7.heap.size := K7.1
  have lt10 : T7.heap.size > t_7 := P7_1.lt
  refine own_sh (T := T7) 21 #[.val (.int ch)] [(.ref t_7), (.ref b3), (.ref b3)] ?_
  refine own_iconst X7.here hx hby d1_21 (v := (0 : Int32)) (by decide) ?_
  have f11 : Exa Z T7.heap b3 "java/lang/String" := (A3.keep K7)
  have f12 : Fld Z T7.heap b3 "java/lang/String" "value" "[B" .null := (F5.keep K7 nin0)
  have f13 : Fld Z T7.heap b3 "java/lang/String" "coder" "B" (.int 0) := (F6.keep K7 nin0)
  have z15 : n0 ≤ T7.heap.size := by omega
  refine own_special X7 hx hZ rfl hown (own_w hw 16 rfl) (own_w hw 17 rfl) (own_w hw 3 rfl) (own_w hw 19 rfl) (by decide) (bbInit l Z a0 hw [] b3 t_7 T7.heap n0 z15 f11 f12 f13 (by omega)) 1 (Nat.le_of_eq rfl) (by decide) (by decide) (by rw [hml]; rfl) (argsL := [(.ref t_7), (.int 0)]) (st := [(.ref b3)]) (a := b3) (lenOf pd_2 rfl) rfl rfl (by decide) (by decide) rfl hby d1_22 ?_
  intro T14 v14 L14 X14 hQ14
  obtain ⟨rfl, Nq14, K14, P14_0, P14_1, P14_2⟩ := hQ14
  have N14 := Fr.app N7 Nq14
  have z16 : T7.heap.size ≤ T14.heap.size := K14.1
  have lt17 : T14.heap.size > b3 := P14_0.lt
  refine own_sh (T := T14) 25 #[.val (.int ch)] [(.ref b3)] ?_
  have K18 : Keep h0 T14.heap [] := ((((Keep.refl h0 []).ext E3).trans K7 all0).trans K14 (allS (P := fun xq_ => xq_ ∈ [] ∨ h0.size ≤ xq_) (Or.inr (by omega)) all0))
  have f19 : Arv Z T14.heap t_7 kb_7 .byte (1 : Int32) [(.int (ch.toInt8.toInt32))] (.int 0) := (P7_1.keep K14 (ninS (own_nn (by omega)) nin0))
  obtain ⟨fs, hr, hrun, hended, hW, hsame⟩ := X14.leave (v := some (.ref b3)) (fun h => by rw [Bd.returns] at h; cases h)
  refine own_ret (t := T14.setFrames fs) ?_ ⟨_, hrun, hended, _, _, rfl, ?_, ⟨_, rfl⟩, hW, hsame.mono (by decide) (by decide)⟩
  · exact retOut X14 hx Bd.returns rfl (Or.inr (Or.inr (Or.inr (Or.inr ⟨rfl, rfl, rfl⟩)))) (hb hby d1_25) hr
  · show Q_valOf Z ch zc h0 n0 _ T14.heap _
    exact ⟨b3, t_7, kb_7, rfl, N14, K18, (by omega), (by omega), (by first | decide | omega | assumption), P14_0, P14_2, P14_1, f19⟩
theorem ef_strE4 (m : MethodId) (x0 : Nat) (x1 : Nat) (x2 : Int32) (x3 : Int32) : entryFrame m #[(.ref x0), (.ref x1), (.int x2), (.int x3), .null] 6 = mkF m 0 #[.val (.ref x0), .val (.ref x1), .val (.int x2), .val (.int x3), .val .null, .unset] [] := by first | (simp [entryFrame, mkF, argsToLocals, Value.category]; done) | rfl
theorem pn_8 : plainName "java/lang/String" = true := by first | (simp [plainName, overriddenIn]; done) | decide +kernel
theorem own_EW {Z : State} {a0 : Array Value} (hw : ∀ d ∈ tables_1, d.before a0 Z = true) : EW Z a0 consts_1 := (EW.cons (own_w hw 62 rfl) (by decide) (EW.cons (own_w hw 124 rfl) (by decide) EW.nil))
theorem d8_0 : decode jdk_42_method_149_code 0 = .ok (.aload_n 0, 1) := by decide +kernel
theorem d8_1 : decode jdk_42_method_149_code 1 = .ok (.invokespecial 1, 3) := by decide +kernel
theorem d8_4 : decode jdk_42_method_149_code 4 = .ok (.iload_n 3, 1) := by decide +kernel
theorem d8_5 : decode jdk_42_method_149_code 5 = .ok (.ifCond .ne 22, 3) := by decide +kernel
theorem d8_8 : decode jdk_42_method_149_code 8 = .ok (.aload_n 0, 1) := by decide +kernel
theorem d8_9 : decode jdk_42_method_149_code 9 = .ok (.ldc 7, 2) := by decide +kernel
theorem own_wS {Z : State} {a0 : Array Value} (hw : ∀ d ∈ tables_1, d.before a0 Z = true) : ∀ a ∈ Bundle.stringAtoms, a.before a0 Z = true := by
  intro a ha
  simp only [Bundle.stringAtoms, Bundle.sN, List.mem_cons, List.not_mem_nil, or_false] at ha
  rcases ha with rfl | rfl | rfl | rfl | rfl | rfl | rfl
  · exact own_w hw 3 rfl
  · exact own_w hw 11 rfl
  · exact own_w hw 15 rfl
  · exact own_w hw 24 rfl
  · exact own_w hw 26 rfl
  · exact own_w hw 63 rfl
  · exact own_w hw 64 rfl
theorem d8_11 : decode jdk_42_method_149_code 11 = .ok (.getfield 9, 3) := by decide +kernel
theorem d8_14 : decode jdk_42_method_149_code 14 = .ok (.putfield 9, 3) := by decide +kernel
theorem d8_17 : decode jdk_42_method_149_code 17 = .ok (.aload_n 0, 1) := by decide +kernel
theorem d8_18 : decode jdk_42_method_149_code 18 = .ok (.ldc 7, 2) := by decide +kernel
theorem d8_20 : decode jdk_42_method_149_code 20 = .ok (.getfield 15, 3) := by decide +kernel
theorem d8_23 : decode jdk_42_method_149_code 23 = .ok (.putfield 15, 3) := by decide +kernel
theorem d8_26 : decode jdk_42_method_149_code 26 = .ok (.return_, 1) := by decide +kernel
def Q_strE4 (Z : State) (x : Nat) (b : Nat) (h0 : Heap) (n0 : Nat) (vR : Option Value) (hR : Heap) (LR : List Loc) : Prop := ∃ (t : Nat) (kb : ClassId), vR = none ∧ Fr n0 LR ∧ Keep h0 hR [x] ∧ (Exa Z hR x "java/lang/String") ∧ (Fld Z hR x "java/lang/String" "coder" "B" (.int 0)) ∧ (Fld Z hR x "java/lang/String" "value" "[B" (.ref t)) ∧ (Arv Z hR t kb .byte (0 : Int32) [] (.int 0))
set_option maxRecDepth 65536 in
set_option maxHeartbeats 40000000 in
theorem strE4 (l : Launch) (Z : State) (a0 : Array Value) (hw : ∀ d ∈ tables_1, d.before a0 Z = true) (ws : List Jvm.Cond) (x : Nat) (b : Nat) (h0 : Heap) (n0 : Nat) (Z0 : n0 ≤ h0.size) (E_x : Exa Z h0 x "java/lang/String") (F_value_x : Fld Z h0 x "java/lang/String" "value" "[B" .null) (F_coder_x : Fld Z h0 x "java/lang/String" "coder" "B" (.int 0)) (g_x : n0 ≤ x) :
    own_MH l (⟨"java/lang/String", "<init>", "([CIILjava/lang/Void;)V"⟩ : MethodName) jdk_42_method_149_code 6 none ws ({ frames := 1, cells := 4, slots := 8, locals := 12 } : Room) Z #[(.ref x), (.ref b), (.int 0), (.int 0), .null] h0 (Q_strE4 Z x b h0 n0) consts_1 := by
  refine own_bodyH (own := "java/lang/String") rfl (plainFor_of_name pn_8) (fun m => ef_strE4 m x b (0 : Int32) (0 : Int32)) ?_
  intro p e s m below meth c s₁ Bd hml hZ hh hx hby hown X0 e0 hS0 CH0
  have N0 := Fr.nil n0
  have hk0 : h0.size ≤ h0.size := Nat.le_refl _
  have Y0 : Stand p l e ({ frames := 1, cells := 4, slots := 8, locals := 12 } : Room) (s.setVm s.vm) m #[(.ref x), (.ref b), (.int 0), (.int 0), .null] below meth c s₁ [] 0 0 := X0
  have hEL := own_EW hw
  have C0 := CHr.refl CH0
  have lt1 : h0.size > x := E_x.lt
  refine own_aloadN Y0.here hx hby d8_0 rfl rfl ?_
  refine own_initO Y0 hx hZ hown (own_w hw 20 rfl) (own_w hw 21 rfl) (own_w hw 22 rfl) e0 (by rw [hml]; rfl) hby d8_1 (by decide) 0 (Nat.le_of_eq rfl) (by decide) ?_
  intro T2 X2 e2
  refine own_iloadN X2.here hx hby d8_4 rfl ?_
  refine own_ifNo X2.here hx hby d8_5 ((if0 _ _).trans (teq (show (0 : Int32) = (0 : Int32) from (by decide))).2) ?_
  refine own_aloadN X2.here hx hby d8_8 rfl rfl ?_
  have own_wS0 : ∀ a ∈ Bundle.stringAtoms, a.before a0 Z = true := own_wS hw
  refine own_ldcCH X2 hx hZ hEL hown (own_w hw 124 rfl) own_wS0 e2 hS0 (by omega) C0.1 (List.mem_of_getElem? (i := 1) rfl) (vs := []) (z := (0 : Int32)) ⟨by decide, by decide⟩ (by decide) (by decide) hby d8_9 0 (by decide) (by decide) (by decide) (by decide) ?_
  intro a3 T3 h3 kk3 vm3 b3 kb3 X3 e3 E3 hS3 hk3 hZ3 hown3 Ea3 Fc3 Fv3 Va3 la3 lb3 Cn3 ns3
  have z4 : h0.size ≤ h3.size := E3.1
  have C5 := C0.trans Cn3
  have f6 : Exa Z h3 x "java/lang/String" := (E_x.ext E3)
  have f7 : Fld Z h3 x "java/lang/String" "value" "[B" .null := (F_value_x.ext E3)
  have nl3_x := ns3 x (own_safe_null hZ3.alike f6 f7)
  refine own_getF X3 hx hZ3 hown3 (host := "") (Or.inl (own_w hw 23 rfl)) Via.refl e3 Fv3 hby d8_11 ?_
  intro T8 X8 e8
  refine own_putF X8 hx hZ3 (ty := (.array .byte)) hown3 (host := "") (Or.inl (own_w hw 23 rfl)) Via.refl e8 f7 f6 (Or.inr ⟨(own_w hw 24 rfl), rfl, (name_of_methodNamed Bd.named Bd.method).1⟩) (own_w hw 11 rfl) (by decide) rfl rfl hby d8_14 N0 g_x ?_
  intro T9 h9 lo9 X9 e9 N9 W9 F9 z9
  have C10 := C5.trans (CHr.wr W9 (own_safe_null hZ3.alike f6 f7) C5.1)
  refine own_aloadN X9.here hx hby d8_17 rfl rfl ?_
  refine own_ldcCH X9 hx hZ3 hEL hown3 (own_w hw 124 rfl) own_wS0 e9 hS3 (by omega) C10.1 (List.mem_of_getElem? (i := 1) rfl) (vs := []) (z := (0 : Int32)) ⟨by decide, by decide⟩ (by decide) (by decide) hby d8_18 0 (by decide) (by decide) (by decide) (by decide) ?_
  intro a11 T11 h11 kk11 vm11 b11 kb11 X11 e11 E11 hS11 hk11 hZ11 hown11 Ea11 Fc11 Fv11 Va11 la11 lb11 Cn11 ns11
  have z12 : h9.size ≤ h11.size := E11.1
  have C13 := C10.trans Cn11
  have sf14 := (Cn11.safe (own_ll (by omega)) (Safe.wr W9 (own_safe_null hZ3.alike f6 f7) C5.1 (own_safe_null hZ3.alike f6 f7)))
  have nl11_x := ns11 x sf14
  refine own_getF X11 hx hZ11 hown11 (host := "") (Or.inl (own_w hw 25 rfl)) Via.refl e11 Fc11 hby d8_20 ?_
  intro T15 X15 e15
  have f16 : Exa Z h11 x "java/lang/String" := ((f6.wr W9).ext E11)
  have f17 : Fld Z h11 x "java/lang/String" "coder" "B" (.int 0) := (((F_coder_x.ext E3).other W9 (Or.inr (slot_ne (Or.inr (own_w hw 26 rfl)) (Or.inr (own_w hw 24 rfl)) (by decide) (t := .byte) (t' := (.array .byte)) (by decide) (by decide)))).ext E11)
  refine own_putFN X15 hx hZ11 (ty := .byte) (v' := (.int 0)) hown11 (own_w hw 25 rfl) Via.refl e15 f17 f16 (Or.inr ⟨(own_w hw 26 rfl), rfl, (name_of_methodNamed Bd.named Bd.method).1⟩) (own_w hw 11 rfl) (by decide) rfl rfl hby d8_23 N9 g_x ?_
  intro T18 h18 lo18 X18 e18 N18 W18 F18 z18
  have C19 := C13.trans (CHr.wr W18 sf14 C13.1)
  have K20 : Keep h0 h18 [x] := (((((Keep.refl h0 [x]).ext E3).wr W9 (Or.inl (List.mem_of_getElem? (i := 0) rfl))).ext E11).wr W18 (Or.inl (List.mem_of_getElem? (i := 0) rfl)))
  have f21 : Exa Z h18 x "java/lang/String" := (f16.wr W18)
  have f22 : Fld Z h18 x "java/lang/String" "value" "[B" (.ref b3) := ((F9.ext E11).other W18 (Or.inr (slot_ne (Or.inr (own_w hw 24 rfl)) (Or.inr (own_w hw 26 rfl)) (by decide) (t := (.array .byte)) (t' := .byte) (by decide) (by decide))))
  have f23 : Arv Z h18 b3 kb3 .byte (0 : Int32) [] (.int 0) := (((Va3.other W9 (Ne.symm nl3_x.2)).ext E11).other W18 (Ne.symm nl3_x.2))
  obtain ⟨fs, hr, hrun, hended, hRW⟩ := X18.leaveW hS11 (by rw [e18]; omega) (v := none) (fun _ => rfl)
  have hCf : CHr Z consts_1 s.vm s.heap T18.vm T18.heap := by
    rw [hh, e18]
    exact C19.trans (CHv.at X18 hZ11 hEL C19.1)
  refine own_ret (t := T18.setFrames fs) ?_ ⟨_, hrun, hended, _, _, rfl, ?_, hCf, hRW.1, hRW.2.1, hRW.2.2.1, hRW.2.2.2.mono (by decide) (by decide)⟩
  · exact X18.returnOut hx Bd.returns (hb hby d8_26) hr
  · show Q_strE4 Z x b h0 n0 _ T18.heap _
    rw [e18]
    exact ⟨b3, kb3, rfl, N18, K20, f21, F18, f22, f23⟩
theorem ef_strE1 (m : MethodId) (x0 : Nat) (x1 : Nat) : entryFrame m #[(.ref x0), (.ref x1)] 2 = mkF m 0 #[.val (.ref x0), .val (.ref x1)] [] := by first | (simp [entryFrame, mkF, argsToLocals, Value.category]; done) | rfl
theorem pn_7 : plainName "java/lang/String" = true := by first | (simp [plainName, overriddenIn]; done) | decide +kernel
theorem d7_0 : decode jdk_42_method_3_code 0 = .ok (.aload_n 0, 1) := by decide +kernel
theorem d7_1 : decode jdk_42_method_3_code 1 = .ok (.aload_n 1, 1) := by decide +kernel
theorem d7_2 : decode jdk_42_method_3_code 2 = .ok (.iconst 0, 1) := by decide +kernel
theorem d7_3 : decode jdk_42_method_3_code 3 = .ok (.aload_n 1, 1) := by decide +kernel
theorem d7_4 : decode jdk_42_method_3_code 4 = .ok (.arraylength, 1) := by decide +kernel
theorem d7_5 : decode jdk_42_method_3_code 5 = .ok (.aconst_null, 1) := by decide +kernel
theorem d7_6 : decode jdk_42_method_3_code 6 = .ok (.invokespecial 27, 3) := by decide +kernel
theorem pd_3 : parseMethodDescriptor "([CIILjava/lang/Void;)V" = some ⟨[(.array .char), .int, .int, (.object "java/lang/Void")], none⟩ := by decide +kernel
theorem d7_9 : decode jdk_42_method_3_code 9 = .ok (.return_, 1) := by decide +kernel
def Q_strE1 (Z : State) (x : Nat) (b : Nat) (kC : ClassId) (h0 : Heap) (n0 : Nat) (vR : Option Value) (hR : Heap) (LR : List Loc) : Prop := ∃ (t : Nat) (kb : ClassId), vR = none ∧ Fr n0 LR ∧ Keep h0 hR [x] ∧ (Exa Z hR x "java/lang/String") ∧ (Fld Z hR x "java/lang/String" "coder" "B" (.int 0)) ∧ (Fld Z hR x "java/lang/String" "value" "[B" (.ref t)) ∧ (Arv Z hR t kb .byte (0 : Int32) [] (.int 0))
set_option maxRecDepth 65536 in
set_option maxHeartbeats 40000000 in
theorem strE1 (l : Launch) (Z : State) (a0 : Array Value) (hw : ∀ d ∈ tables_1, d.before a0 Z = true) (ws : List Jvm.Cond) (x : Nat) (b : Nat) (kC : ClassId) (h0 : Heap) (n0 : Nat) (Z0 : n0 ≤ h0.size) (E_x : Exa Z h0 x "java/lang/String") (F_value_x : Fld Z h0 x "java/lang/String" "value" "[B" .null) (F_coder_x : Fld Z h0 x "java/lang/String" "coder" "B" (.int 0)) (g_x : n0 ≤ x) (V_b : Arv Z h0 b kC .char (0 : Int32) [] (.int 0)) :
    own_MH l (⟨"java/lang/String", "<init>", "([C)V"⟩ : MethodName) jdk_42_method_3_code 2 none ws ({ frames := 2, cells := 4, slots := 8, locals := 29 } : Room) Z #[(.ref x), (.ref b)] h0 (Q_strE1 Z x b kC h0 n0) consts_1 := by
  refine own_bodyH (own := "java/lang/String") rfl (plainFor_of_name pn_7) (fun m => ef_strE1 m x b) ?_
  intro p e s m below meth c s₁ Bd hml hZ hh hx hby hown X0 e0 hS0 CH0
  have N0 := Fr.nil n0
  have hk0 : h0.size ≤ h0.size := Nat.le_refl _
  have Y0 : Stand p l e ({ frames := 2, cells := 4, slots := 8, locals := 29 } : Room) (s.setVm s.vm) m #[(.ref x), (.ref b)] below meth c s₁ [] 0 0 := X0
  have hEL := own_EW hw
  have C0 := CHr.refl CH0
  have lt1 : h0.size > x := E_x.lt
  have lt2 : h0.size > b := V_b.lt
  refine own_aloadN Y0.here hx hby d7_0 rfl rfl ?_
  refine own_aloadN Y0.here hx hby d7_1 rfl rfl ?_
  refine own_iconst Y0.here hx hby d7_2 (v := (0 : Int32)) (by decide) ?_
  refine own_aloadN Y0.here hx hby d7_3 rfl rfl ?_
  refine own_alen Y0 hx hZ e0 V_b hby d7_4 ?_
  refine own_aconstNull Y0.here hx hby d7_5 ?_
  refine own_specialH Y0 hx hZ hEL rfl hown (own_w hw 36 rfl) (own_w hw 37 rfl) (own_w hw 3 rfl) (own_w hw 38 rfl) (by decide) (strE4 l Z a0 hw [] x b h0 n0 Z0 E_x F_value_x F_coder_x g_x) 0 (Nat.le_of_eq rfl) (by decide) (by decide) (by rw [hml]; rfl) (argsL := [(.ref b), (.int 0), (.int 0), .null]) (st := []) (a := x) (lenOf pd_3 rfl) rfl rfl (by decide) (by decide) e0 hby C0.1 hS0 (by omega) d7_6 ?_
  intro T3 v3 L3 vm3 X3 hS3 hZ3 hown3 hg3 Cn3 hQ3
  obtain ⟨t_3, kb_3, rfl, Nq3, K3, P3_0, P3_1, P3_2, P3_3⟩ := hQ3
  have N3 := Fr.app N0 Nq3
  have z4 : h0.size ≤ T3.heap.size := K3.1
  have C5 := C0.trans Cn3
  have lt6 : T3.heap.size > x := P3_0.lt
  have lt7 : T3.heap.size > t_3 := P3_3.lt
  refine own_sh (T := T3) 9 #[.val (.ref x), .val (.ref b)] [] ?_
  have K8 : Keep h0 T3.heap [x] := ((Keep.refl h0 [x]).trans K3 (allS (P := fun xq_ => xq_ ∈ [x] ∨ h0.size ≤ xq_) (Or.inl (List.mem_of_getElem? (i := 0) rfl)) all0))
  obtain ⟨fs, hr, hrun, hended, hRW⟩ := X3.leaveW hS3 (by omega) (v := none) (fun _ => rfl)
  have hCf : CHr Z consts_1 s.vm s.heap T3.vm T3.heap := by
    rw [hh]
    exact C5.trans (CHv.at X3 hZ3 hEL C5.1)
  refine own_ret (t := T3.setFrames fs) ?_ ⟨_, hrun, hended, _, _, rfl, ?_, hCf, hRW.1, hRW.2.1, hRW.2.2.1, hRW.2.2.2.mono (by decide) (by decide)⟩
  · exact X3.returnOut hx Bd.returns (hb hby d7_9) hr
  · show Q_strE1 Z x b kC h0 n0 _ T3.heap _
    exact ⟨t_3, kb_3, rfl, N3, K8, P3_0, P3_1, P3_2, P3_3⟩
theorem ef_str_0 (m : MethodId) (x0 : Int32) (x1 : Int32) (x2 : Int32) (x3 : Int32) : entryFrame m #[(.int x0), (.int x1), (.int x2), (.int x3)] 4 = mkF m 0 #[.val (.int x0), .val (.int x1), .val (.int x2), .val (.int x3)] [] := by first | (simp [entryFrame, mkF, argsToLocals, Value.category]; done) | rfl
theorem pn_6 : plainName "com/example/tiny_context/tinycontext/account/AccountsValuePinLaw" = true := by first | (simp [plainName, overriddenIn]; done) | decide +kernel
theorem d6_0 : decode method_2_code 0 = .ok (.iload_n 0, 1) := by decide +kernel
theorem d6_1 : decode method_2_code 1 = .ok (.ifCond .ne 14, 3) := by decide +kernel
theorem d6_4 : decode method_2_code 4 = .ok (.new 7, 3) := by decide +kernel
theorem d6_7 : decode method_2_code 7 = .ok (.dup, 1) := by decide +kernel
theorem d6_8 : decode method_2_code 8 = .ok (.iconst 0, 1) := by decide +kernel
theorem d6_9 : decode method_2_code 9 = .ok (.newarray .char, 2) := by decide +kernel
theorem d6_11 : decode method_2_code 11 = .ok (.invokespecial 9, 3) := by decide +kernel
theorem pd_4 : parseMethodDescriptor "([C)V" = some ⟨[(.array .char)], none⟩ := by decide +kernel
theorem d6_14 : decode method_2_code 14 = .ok (.areturn, 1) := by decide +kernel
def Q_str_0 (Z : State) (c0 : Int32) (c1 : Int32) (c2 : Int32) (zc : Int32) (h0 : Heap) (n0 : Nat) (vR : Option Value) (hR : Heap) (LR : List Loc) : Prop := ∃ (x : Nat) (t : Nat) (kb : ClassId), vR = some (.ref x) ∧ Fr n0 LR ∧ Keep h0 hR [] ∧ h0.size ≤ x ∧ (Exa Z hR x "java/lang/String") ∧ (Fld Z hR x "java/lang/String" "coder" "B" (.int 0)) ∧ (Fld Z hR x "java/lang/String" "value" "[B" (.ref t)) ∧ (Arv Z hR t kb .byte (0 : Int32) [] (.int 0))
set_option maxRecDepth 65536 in
set_option maxHeartbeats 40000000 in
theorem str_0 (l : Launch) (Z : State) (a0 : Array Value) (hw : ∀ d ∈ tables_1, d.before a0 Z = true) (ws : List Jvm.Cond) (c0 : Int32) (c1 : Int32) (c2 : Int32) (zc : Int32) (h0 : Heap) (n0 : Nat) (Z0 : n0 ≤ h0.size) (h0_c0 : ¬ (c0 < (0 : Int32))) (h1_c0 : ¬ ((255 : Int32) < c0)) (h0_c1 : ¬ (c1 < (0 : Int32))) (h1_c1 : ¬ ((255 : Int32) < c1)) (h0_c2 : ¬ (c2 < (0 : Int32))) (h1_c2 : ¬ ((255 : Int32) < c2)) (S_COMPACT : Sta Z h0 "java/lang/String" "COMPACT_STRINGS" "Z" (.int zc)) (hz : ¬ (zc = (0 : Int32))) :
    own_MH l (⟨"com/example/tiny_context/tinycontext/account/AccountsValuePinLaw", "str", "(ICCC)Ljava/lang/String;"⟩ : MethodName) method_2_code 4 (some (.object "java/lang/String")) ws ({ frames := 3, cells := 6, slots := 12, locals := 43 } : Room) Z #[(.int 0), (.int c0), (.int c1), (.int c2)] h0 (Q_str_0 Z c0 c1 c2 zc h0 n0) consts_1 := by
  refine own_bodyH (own := "com/example/tiny_context/tinycontext/account/AccountsValuePinLaw") rfl (plainFor_of_name pn_6) (fun m => ef_str_0 m (0 : Int32) c0 c1 c2) ?_
  intro p e s m below meth c s₁ Bd hml hZ hh hx hby hown X0 e0 hS0 CH0
  have N0 := Fr.nil n0
  have hk0 : h0.size ≤ h0.size := Nat.le_refl _
  have Y0 : Stand p l e ({ frames := 3, cells := 6, slots := 12, locals := 43 } : Room) (s.setVm s.vm) m #[(.int 0), (.int c0), (.int c1), (.int c2)] below meth c s₁ [] 0 0 := X0
  have hEL := own_EW hw
  have C0 := CHr.refl CH0
  refine own_iloadN Y0.here hx hby d6_0 rfl ?_
  refine own_ifNo Y0.here hx hby d6_1 ((if0 _ _).trans (teq (show (0 : Int32) = (0 : Int32) from (by decide))).2) ?_
  refine own_newO Y0 hx hZ hown (own_w hw 31 rfl) (own_w hw 11 rfl) (own_w hw 3 rfl) e0 hby d6_4 (by decide) (by decide) ?_
  intro T3 h3 b3 X3 e3 E3 g3 A3 D3 lt3
  have z4 : h0.size ≤ h3.size := E3.1
  have C5 := C0.trans (CHr.ext E3 C0.1)
  have F6 : Fld Z h3 b3 "java/lang/String" "value" "[B" .null := D3 (Or.inr (own_w hw 24 rfl)) (ty := (.array .byte)) (by decide)
  have F7 : Fld Z h3 b3 "java/lang/String" "coder" "B" (.int 0) := D3 (Or.inr (own_w hw 26 rfl)) (ty := .byte) (by decide)
  refine own_dup X3.here hx hby d6_7 rfl ?_
  refine own_iconst X3.here hx hby d6_8 (v := (0 : Int32)) (by decide) ?_
  refine own_newP X3 hx hZ (aty := .char) (own_w hw 32 rfl) e3 hby d6_9 (by decide) 0 (by decide) (by decide) (by decide) (by decide) (ad := "[C") (by decide) ?_
  intro T8 h8 k8 b8 X8 e8 E8 g8 V8 C8 lt8
  have z9 : h3.size ≤ h8.size := E8.1
  have C10 := C5.trans (CHr.ext E8 C5.1)
  have V11 : Arv Z h8 b8 k8 .char (0 : Int32) [] (.int 0) := V8
  have f12 : Exa Z h8 b3 "java/lang/String" := (A3.ext E8)
  have f13 : Fld Z h8 b3 "java/lang/String" "value" "[B" .null := (F6.ext E8)
  have f14 : Fld Z h8 b3 "java/lang/String" "coder" "B" (.int 0) := (F7.ext E8)
  have z16 : n0 ≤ h8.size := by omega
  refine own_specialH X8 hx hZ hEL rfl hown (own_w hw 33 rfl) (own_w hw 34 rfl) (own_w hw 3 rfl) (own_w hw 35 rfl) (by decide) (strE1 l Z a0 hw [] b3 b8 k8 h8 n0 z16 f12 f13 f14 (by omega) V11) 1 (Nat.le_of_eq rfl) (by decide) (by decide) (by rw [hml]; rfl) (argsL := [(.ref b8)]) (st := [(.ref b3)]) (a := b3) (lenOf pd_4 rfl) rfl rfl (by decide) (by decide) e8 hby C10.1 hS0 (by omega) d6_11 ?_
  intro T15 v15 L15 vm15 X15 hS15 hZ15 hown15 hg15 Cn15 hQ15
  obtain ⟨t_15, kb_15, rfl, Nq15, K15, P15_0, P15_1, P15_2, P15_3⟩ := hQ15
  have N15 := Fr.app N0 Nq15
  have z17 : h8.size ≤ T15.heap.size := K15.1
  have C18 := C10.trans Cn15
  have lt19 : T15.heap.size > b3 := P15_0.lt
  have lt20 : T15.heap.size > t_15 := P15_3.lt
  refine own_sh (T := T15) 14 #[.val (.int 0), .val (.int c0), .val (.int c1), .val (.int c2)] [(.ref b3)] ?_
  have K21 : Keep h0 T15.heap [] := ((((Keep.refl h0 []).ext E3).ext E8).trans K15 (allS (P := fun xq_ => xq_ ∈ [] ∨ h0.size ≤ xq_) (Or.inr (by omega)) all0))
  obtain ⟨fs, hr, hrun, hended, hRW⟩ := X15.leaveW hS15 (by omega) (v := some (.ref b3)) (fun h => by rw [Bd.returns] at h; cases h)
  have hCf : CHr Z consts_1 s.vm s.heap T15.vm T15.heap := by
    rw [hh]
    exact C18.trans (CHv.at X15 hZ15 hEL C18.1)
  refine own_ret (t := T15.setFrames fs) ?_ ⟨_, hrun, hended, _, _, rfl, ?_, hCf, hRW.1, hRW.2.1, hRW.2.2.1, hRW.2.2.2.mono (by decide) (by decide)⟩
  · exact retOut X15 hx Bd.returns rfl (Or.inr (Or.inr (Or.inr (Or.inr ⟨rfl, rfl, rfl⟩)))) (hb hby d6_14) hr
  · show Q_str_0 Z c0 c1 c2 zc h0 n0 _ T15.heap _
    exact ⟨b3, t_15, kb_15, rfl, N15, K21, (by omega), P15_0, P15_1, P15_2, P15_3⟩
theorem d6_15 : decode method_2_code 15 = .ok (.iload_n 0, 1) := by decide +kernel
theorem d6_16 : decode method_2_code 16 = .ok (.iconst 1, 1) := by decide +kernel
theorem d6_17 : decode method_2_code 17 = .ok (.if_icmp .ne 18, 3) := by decide +kernel
theorem d6_20 : decode method_2_code 20 = .ok (.new 7, 3) := by decide +kernel
theorem d6_23 : decode method_2_code 23 = .ok (.dup, 1) := by decide +kernel
theorem d6_24 : decode method_2_code 24 = .ok (.iconst 1, 1) := by decide +kernel
theorem d6_25 : decode method_2_code 25 = .ok (.newarray .char, 2) := by decide +kernel
theorem d6_27 : decode method_2_code 27 = .ok (.dup, 1) := by decide +kernel
theorem d6_28 : decode method_2_code 28 = .ok (.iconst 0, 1) := by decide +kernel
theorem d6_29 : decode method_2_code 29 = .ok (.iload_n 1, 1) := by decide +kernel
theorem d6_30 : decode method_2_code 30 = .ok (.castore, 1) := by decide +kernel
theorem d6_31 : decode method_2_code 31 = .ok (.invokespecial 9, 3) := by decide +kernel
theorem d6_34 : decode method_2_code 34 = .ok (.areturn, 1) := by decide +kernel
def Q_str_1 (Z : State) (c0 : Int32) (c1 : Int32) (c2 : Int32) (zc : Int32) (h0 : Heap) (n0 : Nat) (vR : Option Value) (hR : Heap) (LR : List Loc) : Prop := ∃ (x : Nat) (t : Nat) (kb : ClassId), vR = some (.ref x) ∧ Fr n0 LR ∧ Keep h0 hR [] ∧ h0.size ≤ x ∧ (Exa Z hR x "java/lang/String") ∧ (Fld Z hR x "java/lang/String" "coder" "B" (.int 0)) ∧ (Fld Z hR x "java/lang/String" "value" "[B" (.ref t)) ∧ (Arv Z hR t kb .byte (1 : Int32) [(.int (c0.toInt8.toInt32))] (.int 0))
set_option maxRecDepth 65536 in
set_option maxHeartbeats 40000000 in
theorem str_1 (l : Launch) (Z : State) (a0 : Array Value) (hw : ∀ d ∈ tables_1, d.before a0 Z = true) (ws : List Jvm.Cond) (c0 : Int32) (c1 : Int32) (c2 : Int32) (zc : Int32) (h0 : Heap) (n0 : Nat) (Z0 : n0 ≤ h0.size) (h0_c0 : ¬ (c0 < (0 : Int32))) (h1_c0 : ¬ ((255 : Int32) < c0)) (h0_c1 : ¬ (c1 < (0 : Int32))) (h1_c1 : ¬ ((255 : Int32) < c1)) (h0_c2 : ¬ (c2 < (0 : Int32))) (h1_c2 : ¬ ((255 : Int32) < c2)) (S_COMPACT : Sta Z h0 "java/lang/String" "COMPACT_STRINGS" "Z" (.int zc)) (hz : ¬ (zc = (0 : Int32))) :
    own_M l (⟨"com/example/tiny_context/tinycontext/account/AccountsValuePinLaw", "str", "(ICCC)Ljava/lang/String;"⟩ : MethodName) method_2_code 4 (some (.object "java/lang/String")) ws ({ frames := 4, cells := 3, slots := 6, locals := 66 } : Room) Z #[(.int 1), (.int c0), (.int c1), (.int c2)] h0 (Q_str_1 Z c0 c1 c2 zc h0 n0) := by
  refine own_body (own := "com/example/tiny_context/tinycontext/account/AccountsValuePinLaw") rfl (plainFor_of_name pn_6) (fun m => ef_str_0 m (1 : Int32) c0 c1 c2) ?_
  intro p e s m below meth c s₁ Bd hml hZ hh hx hby hown X0 e0
  have N0 := Fr.nil n0
  refine own_iloadN X0.here hx hby d6_0 rfl ?_
  refine own_ifYes X0.here hx hby (pc' := 15) d6_1 ((if0 _ _).trans (feq (show ¬ ((1 : Int32) = (0 : Int32)) from (by decide))).2) (by decide) (by decide) ?_
  refine own_iloadN X0.here hx hby d6_15 rfl ?_
  refine own_iconst X0.here hx hby d6_16 (v := (1 : Int32)) (by decide) ?_
  refine own_icmpNo X0.here hx hby d6_17 (teq (show (1 : Int32) = (1 : Int32) from (by decide))).2 ?_
  refine own_newO X0 hx hZ hown (own_w hw 31 rfl) (own_w hw 11 rfl) (own_w hw 3 rfl) e0 hby d6_20 (by decide) (by decide) ?_
  intro T3 h3 b3 X3 e3 E3 g3 A3 D3 lt3
  have z4 : h0.size ≤ h3.size := E3.1
  have F5 : Fld Z h3 b3 "java/lang/String" "value" "[B" .null := D3 (Or.inr (own_w hw 24 rfl)) (ty := (.array .byte)) (by decide)
  have F6 : Fld Z h3 b3 "java/lang/String" "coder" "B" (.int 0) := D3 (Or.inr (own_w hw 26 rfl)) (ty := .byte) (by decide)
  refine own_dup X3.here hx hby d6_23 rfl ?_
  refine own_iconst X3.here hx hby d6_24 (v := (1 : Int32)) (by decide) ?_
  refine own_newP X3 hx hZ (aty := .char) (own_w hw 32 rfl) e3 hby d6_25 (by decide) 1 (by decide) (by decide) (by decide) (by decide) (ad := "[C") (by decide) ?_
  intro T7 h7 k7 b7 X7 e7 E7 g7 V7 C7 lt7
  have z8 : h3.size ≤ h7.size := E7.1
  have V9 : Arv Z h7 b7 k7 .char (1 : Int32) [(.int 0)] (.int 0) := V7.pad (pad_rep [] (.int 0) 1)
  refine own_dup X7.here hx hby d6_27 rfl ?_
  refine own_iconst X7.here hx hby d6_28 (v := (0 : Int32)) (by decide) ?_
  refine own_iloadN X7.here hx hby d6_29 rfl ?_
  refine own_castore X7 hx hZ e7 V9 ⟨by decide, by decide⟩ 0 (by decide) (Nat.le_of_ble_eq_true rfl) (w := (.int c0)) (congrArg Value.int (own_nar8 c0 h0_c0 h1_c0)) hby d6_30 N0 (by omega) ?_
  intro T10 h10 lo10 X10 e10 N10 W10 V10 z10
  have V11 : Arv Z h10 b7 k7 .char (1 : Int32) [(.int c0)] (.int 0) := V10
  have f12 : Exa Z h10 b3 "java/lang/String" := ((A3.ext E7).wr W10)
  have f13 : Fld Z h10 b3 "java/lang/String" "value" "[B" .null := ((F5.ext E7).other W10 (Or.inl (own_nn (by omega))))
  have f14 : Fld Z h10 b3 "java/lang/String" "coder" "B" (.int 0) := ((F6.ext E7).other W10 (Or.inl (own_nn (by omega))))
  have f15 : Sta Z h10 "java/lang/String" "COMPACT_STRINGS" "Z" (.int zc) := (((S_COMPACT.ext E3).ext E7).wr W10)
  have z17 : n0 ≤ h10.size := by omega
  have hws_words : ∀ d ∈ StrChars.Road.words, d.before a0 Z = true := fun d hd => hw d ((by decide +kernel : ∀ d ∈ StrChars.Road.words, d ∈ tables_1) d hd)
  refine own_specialB X10 hx hZ rfl hown (own_w hw 33 rfl) (own_w hw 34 rfl) (own_w hw 35 rfl) (by decide) (StrChars.Road.backV (W := 1) hZ hws_words (kI := 4) (own_w hw 11 rfl) (cs := ([c0] : List Int32)) (bs := ([c0] : List Int32).map (fun c => c.toInt8.toInt32)) (n := 1) (by omega) z17 f12 f13 f14 V11 f15 hz rfl rfl (by decide) (by decide) (own_lS ⟨h0_c0, h1_c0⟩ own_l0) rfl (by decide) (by decide)) (Nat.le_of_eq rfl) (by rw [hml]; rfl) (argsL := [(.ref b7)]) (st := [(.ref b3)]) (a := b3) (lenOf pd_4 rfl) rfl rfl (by decide) (by decide) e10 hby d6_31 ?_
  intro T16 v16 L16 X16 hQ16
  obtain ⟨rfl, Nq16, K16, P16_0, P16_1, t_16, kb_16, P16_2, P16_3, P16_4, P16_5, P16_6⟩ := hQ16
  have N16 := Fr.app N10 Nq16
  have z18 : h10.size ≤ T16.heap.size := K16.1
  have lt19 : T16.heap.size > b3 := P16_0.lt
  have lt20 : T16.heap.size > t_16 := P16_6.lt
  refine own_sh (T := T16) 34 #[.val (.int 1), .val (.int c0), .val (.int c1), .val (.int c2)] [(.ref b3)] ?_
  have K21 : Keep h0 T16.heap [] := (((((Keep.refl h0 []).ext E3).ext E7).wr W10 (Or.inr (by omega))).trans K16 (allS (P := fun xq_ => xq_ ∈ [] ∨ h0.size ≤ xq_) (Or.inr (by omega)) all0))
  obtain ⟨fs, hr, hrun, hended, hW, hsame⟩ := X16.leave (v := some (.ref b3)) (fun h => by rw [Bd.returns] at h; cases h)
  refine own_ret (t := T16.setFrames fs) ?_ ⟨_, hrun, hended, _, _, rfl, ?_, ⟨_, rfl⟩, hW, hsame.mono (by decide) (by decide)⟩
  · exact retOut X16 hx Bd.returns rfl (Or.inr (Or.inr (Or.inr (Or.inr ⟨rfl, rfl, rfl⟩)))) (hb hby d6_34) hr
  · show Q_str_1 Z c0 c1 c2 zc h0 n0 _ T16.heap _
    exact ⟨b3, t_16, kb_16, rfl, N16, K21, (by omega), P16_0, P16_1, P16_5, P16_6⟩
theorem d6_35 : decode method_2_code 35 = .ok (.iload_n 0, 1) := by decide +kernel
theorem d6_36 : decode method_2_code 36 = .ok (.iconst 2, 1) := by decide +kernel
theorem d6_37 : decode method_2_code 37 = .ok (.if_icmp .ne 22, 3) := by decide +kernel
theorem d6_40 : decode method_2_code 40 = .ok (.new 7, 3) := by decide +kernel
theorem d6_43 : decode method_2_code 43 = .ok (.dup, 1) := by decide +kernel
theorem d6_44 : decode method_2_code 44 = .ok (.iconst 2, 1) := by decide +kernel
theorem d6_45 : decode method_2_code 45 = .ok (.newarray .char, 2) := by decide +kernel
theorem d6_47 : decode method_2_code 47 = .ok (.dup, 1) := by decide +kernel
theorem d6_48 : decode method_2_code 48 = .ok (.iconst 0, 1) := by decide +kernel
theorem d6_49 : decode method_2_code 49 = .ok (.iload_n 1, 1) := by decide +kernel
theorem d6_50 : decode method_2_code 50 = .ok (.castore, 1) := by decide +kernel
theorem d6_51 : decode method_2_code 51 = .ok (.dup, 1) := by decide +kernel
theorem d6_52 : decode method_2_code 52 = .ok (.iconst 1, 1) := by decide +kernel
theorem d6_53 : decode method_2_code 53 = .ok (.iload_n 2, 1) := by decide +kernel
theorem d6_54 : decode method_2_code 54 = .ok (.castore, 1) := by decide +kernel
theorem d6_55 : decode method_2_code 55 = .ok (.invokespecial 9, 3) := by decide +kernel
theorem d6_58 : decode method_2_code 58 = .ok (.areturn, 1) := by decide +kernel
def Q_str_2 (Z : State) (c0 : Int32) (c1 : Int32) (c2 : Int32) (zc : Int32) (h0 : Heap) (n0 : Nat) (vR : Option Value) (hR : Heap) (LR : List Loc) : Prop := ∃ (x : Nat) (t : Nat) (kb : ClassId), vR = some (.ref x) ∧ Fr n0 LR ∧ Keep h0 hR [] ∧ h0.size ≤ x ∧ (Exa Z hR x "java/lang/String") ∧ (Fld Z hR x "java/lang/String" "coder" "B" (.int 0)) ∧ (Fld Z hR x "java/lang/String" "value" "[B" (.ref t)) ∧ (Arv Z hR t kb .byte (2 : Int32) [(.int (c0.toInt8.toInt32)), (.int (c1.toInt8.toInt32))] (.int 0))
set_option maxRecDepth 65536 in
set_option maxHeartbeats 40000000 in
theorem str_2 (l : Launch) (Z : State) (a0 : Array Value) (hw : ∀ d ∈ tables_1, d.before a0 Z = true) (ws : List Jvm.Cond) (c0 : Int32) (c1 : Int32) (c2 : Int32) (zc : Int32) (h0 : Heap) (n0 : Nat) (Z0 : n0 ≤ h0.size) (h0_c0 : ¬ (c0 < (0 : Int32))) (h1_c0 : ¬ ((255 : Int32) < c0)) (h0_c1 : ¬ (c1 < (0 : Int32))) (h1_c1 : ¬ ((255 : Int32) < c1)) (h0_c2 : ¬ (c2 < (0 : Int32))) (h1_c2 : ¬ ((255 : Int32) < c2)) (S_COMPACT : Sta Z h0 "java/lang/String" "COMPACT_STRINGS" "Z" (.int zc)) (hz : ¬ (zc = (0 : Int32))) :
    own_M l (⟨"com/example/tiny_context/tinycontext/account/AccountsValuePinLaw", "str", "(ICCC)Ljava/lang/String;"⟩ : MethodName) method_2_code 4 (some (.object "java/lang/String")) ws ({ frames := 4, cells := 3, slots := 8, locals := 66 } : Room) Z #[(.int 2), (.int c0), (.int c1), (.int c2)] h0 (Q_str_2 Z c0 c1 c2 zc h0 n0) := by
  refine own_body (own := "com/example/tiny_context/tinycontext/account/AccountsValuePinLaw") rfl (plainFor_of_name pn_6) (fun m => ef_str_0 m (2 : Int32) c0 c1 c2) ?_
  intro p e s m below meth c s₁ Bd hml hZ hh hx hby hown X0 e0
  have N0 := Fr.nil n0
  refine own_iloadN X0.here hx hby d6_0 rfl ?_
  refine own_ifYes X0.here hx hby (pc' := 15) d6_1 ((if0 _ _).trans (feq (show ¬ ((2 : Int32) = (0 : Int32)) from (by decide))).2) (by decide) (by decide) ?_
  refine own_iloadN X0.here hx hby d6_15 rfl ?_
  refine own_iconst X0.here hx hby d6_16 (v := (1 : Int32)) (by decide) ?_
  refine own_icmpYes X0.here hx hby (pc' := 35) d6_17 (feq (show ¬ ((2 : Int32) = (1 : Int32)) from (by decide))).2 (by decide) (by decide) ?_
  refine own_iloadN X0.here hx hby d6_35 rfl ?_
  refine own_iconst X0.here hx hby d6_36 (v := (2 : Int32)) (by decide) ?_
  refine own_icmpNo X0.here hx hby d6_37 (teq (show (2 : Int32) = (2 : Int32) from (by decide))).2 ?_
  refine own_newO X0 hx hZ hown (own_w hw 31 rfl) (own_w hw 11 rfl) (own_w hw 3 rfl) e0 hby d6_40 (by decide) (by decide) ?_
  intro T3 h3 b3 X3 e3 E3 g3 A3 D3 lt3
  have z4 : h0.size ≤ h3.size := E3.1
  have F5 : Fld Z h3 b3 "java/lang/String" "value" "[B" .null := D3 (Or.inr (own_w hw 24 rfl)) (ty := (.array .byte)) (by decide)
  have F6 : Fld Z h3 b3 "java/lang/String" "coder" "B" (.int 0) := D3 (Or.inr (own_w hw 26 rfl)) (ty := .byte) (by decide)
  refine own_dup X3.here hx hby d6_43 rfl ?_
  refine own_iconst X3.here hx hby d6_44 (v := (2 : Int32)) (by decide) ?_
  refine own_newP X3 hx hZ (aty := .char) (own_w hw 32 rfl) e3 hby d6_45 (by decide) 2 (by decide) (by decide) (by decide) (by decide) (ad := "[C") (by decide) ?_
  intro T7 h7 k7 b7 X7 e7 E7 g7 V7 C7 lt7
  have z8 : h3.size ≤ h7.size := E7.1
  have V9 : Arv Z h7 b7 k7 .char (2 : Int32) [(.int 0), (.int 0)] (.int 0) := V7.pad (pad_rep [] (.int 0) 2)
  refine own_dup X7.here hx hby d6_47 rfl ?_
  refine own_iconst X7.here hx hby d6_48 (v := (0 : Int32)) (by decide) ?_
  refine own_iloadN X7.here hx hby d6_49 rfl ?_
  refine own_castore X7 hx hZ e7 V9 ⟨by decide, by decide⟩ 0 (by decide) (Nat.le_of_ble_eq_true rfl) (w := (.int c0)) (congrArg Value.int (own_nar8 c0 h0_c0 h1_c0)) hby d6_50 N0 (by omega) ?_
  intro T10 h10 lo10 X10 e10 N10 W10 V10 z10
  have V11 : Arv Z h10 b7 k7 .char (2 : Int32) [(.int c0), (.int 0)] (.int 0) := V10
  refine own_dup X10.here hx hby d6_51 rfl ?_
  refine own_iconst X10.here hx hby d6_52 (v := (1 : Int32)) (by decide) ?_
  refine own_iloadN X10.here hx hby d6_53 rfl ?_
  refine own_castore X10 hx hZ e10 V11 ⟨by decide, by decide⟩ 1 (by decide) (Nat.le_of_ble_eq_true rfl) (w := (.int c1)) (congrArg Value.int (own_nar8 c1 h0_c1 h1_c1)) hby d6_54 N10 (by omega) ?_
  intro T12 h12 lo12 X12 e12 N12 W12 V12 z12
  have V13 : Arv Z h12 b7 k7 .char (2 : Int32) [(.int c0), (.int c1)] (.int 0) := V12
  have f14 : Exa Z h12 b3 "java/lang/String" := (((A3.ext E7).wr W10).wr W12)
  have f15 : Fld Z h12 b3 "java/lang/String" "value" "[B" .null := (((F5.ext E7).other W10 (Or.inl (own_nn (by omega)))).other W12 (Or.inl (own_nn (by omega))))
  have f16 : Fld Z h12 b3 "java/lang/String" "coder" "B" (.int 0) := (((F6.ext E7).other W10 (Or.inl (own_nn (by omega)))).other W12 (Or.inl (own_nn (by omega))))
  have f17 : Sta Z h12 "java/lang/String" "COMPACT_STRINGS" "Z" (.int zc) := ((((S_COMPACT.ext E3).ext E7).wr W10).wr W12)
  have z19 : n0 ≤ h12.size := by omega
  have hws_words : ∀ d ∈ StrChars.Road.words, d.before a0 Z = true := fun d hd => hw d ((by decide +kernel : ∀ d ∈ StrChars.Road.words, d ∈ tables_1) d hd)
  refine own_specialB X12 hx hZ rfl hown (own_w hw 33 rfl) (own_w hw 34 rfl) (own_w hw 35 rfl) (by decide) (StrChars.Road.backV (W := 1) hZ hws_words (kI := 4) (own_w hw 11 rfl) (cs := ([c0, c1] : List Int32)) (bs := ([c0, c1] : List Int32).map (fun c => c.toInt8.toInt32)) (n := 2) (by omega) z19 f14 f15 f16 V13 f17 hz rfl rfl (by decide) (by decide) (own_lS ⟨h0_c0, h1_c0⟩ (own_lS ⟨h0_c1, h1_c1⟩ own_l0)) rfl (by decide) (by decide)) (Nat.le_of_eq rfl) (by rw [hml]; rfl) (argsL := [(.ref b7)]) (st := [(.ref b3)]) (a := b3) (lenOf pd_4 rfl) rfl rfl (by decide) (by decide) e12 hby d6_55 ?_
  intro T18 v18 L18 X18 hQ18
  obtain ⟨rfl, Nq18, K18, P18_0, P18_1, t_18, kb_18, P18_2, P18_3, P18_4, P18_5, P18_6⟩ := hQ18
  have N18 := Fr.app N12 Nq18
  have z20 : h12.size ≤ T18.heap.size := K18.1
  have lt21 : T18.heap.size > b3 := P18_0.lt
  have lt22 : T18.heap.size > t_18 := P18_6.lt
  refine own_sh (T := T18) 58 #[.val (.int 2), .val (.int c0), .val (.int c1), .val (.int c2)] [(.ref b3)] ?_
  have K23 : Keep h0 T18.heap [] := ((((((Keep.refl h0 []).ext E3).ext E7).wr W10 (Or.inr (by omega))).wr W12 (Or.inr (by omega))).trans K18 (allS (P := fun xq_ => xq_ ∈ [] ∨ h0.size ≤ xq_) (Or.inr (by omega)) all0))
  obtain ⟨fs, hr, hrun, hended, hW, hsame⟩ := X18.leave (v := some (.ref b3)) (fun h => by rw [Bd.returns] at h; cases h)
  refine own_ret (t := T18.setFrames fs) ?_ ⟨_, hrun, hended, _, _, rfl, ?_, ⟨_, rfl⟩, hW, hsame.mono (by decide) (by decide)⟩
  · exact retOut X18 hx Bd.returns rfl (Or.inr (Or.inr (Or.inr (Or.inr ⟨rfl, rfl, rfl⟩)))) (hb hby d6_58) hr
  · show Q_str_2 Z c0 c1 c2 zc h0 n0 _ T18.heap _
    exact ⟨b3, t_18, kb_18, rfl, N18, K23, (by omega), P18_0, P18_1, P18_5, P18_6⟩
theorem d6_59 : decode method_2_code 59 = .ok (.new 7, 3) := by decide +kernel
theorem d6_62 : decode method_2_code 62 = .ok (.dup, 1) := by decide +kernel
theorem d6_63 : decode method_2_code 63 = .ok (.iconst 3, 1) := by decide +kernel
theorem d6_64 : decode method_2_code 64 = .ok (.newarray .char, 2) := by decide +kernel
theorem d6_66 : decode method_2_code 66 = .ok (.dup, 1) := by decide +kernel
theorem d6_67 : decode method_2_code 67 = .ok (.iconst 0, 1) := by decide +kernel
theorem d6_68 : decode method_2_code 68 = .ok (.iload_n 1, 1) := by decide +kernel
theorem d6_69 : decode method_2_code 69 = .ok (.castore, 1) := by decide +kernel
theorem d6_70 : decode method_2_code 70 = .ok (.dup, 1) := by decide +kernel
theorem d6_71 : decode method_2_code 71 = .ok (.iconst 1, 1) := by decide +kernel
theorem d6_72 : decode method_2_code 72 = .ok (.iload_n 2, 1) := by decide +kernel
theorem d6_73 : decode method_2_code 73 = .ok (.castore, 1) := by decide +kernel
theorem d6_74 : decode method_2_code 74 = .ok (.dup, 1) := by decide +kernel
theorem d6_75 : decode method_2_code 75 = .ok (.iconst 2, 1) := by decide +kernel
theorem d6_76 : decode method_2_code 76 = .ok (.iload_n 3, 1) := by decide +kernel
theorem d6_77 : decode method_2_code 77 = .ok (.castore, 1) := by decide +kernel
theorem d6_78 : decode method_2_code 78 = .ok (.invokespecial 9, 3) := by decide +kernel
theorem d6_81 : decode method_2_code 81 = .ok (.areturn, 1) := by decide +kernel
def Q_str_3 (Z : State) (c0 : Int32) (c1 : Int32) (c2 : Int32) (zc : Int32) (h0 : Heap) (n0 : Nat) (vR : Option Value) (hR : Heap) (LR : List Loc) : Prop := ∃ (x : Nat) (t : Nat) (kb : ClassId), vR = some (.ref x) ∧ Fr n0 LR ∧ Keep h0 hR [] ∧ h0.size ≤ x ∧ (Exa Z hR x "java/lang/String") ∧ (Fld Z hR x "java/lang/String" "coder" "B" (.int 0)) ∧ (Fld Z hR x "java/lang/String" "value" "[B" (.ref t)) ∧ (Arv Z hR t kb .byte (3 : Int32) [(.int (c0.toInt8.toInt32)), (.int (c1.toInt8.toInt32)), (.int (c2.toInt8.toInt32))] (.int 0))
set_option maxRecDepth 65536 in
set_option maxHeartbeats 40000000 in
theorem str_3 (l : Launch) (Z : State) (a0 : Array Value) (hw : ∀ d ∈ tables_1, d.before a0 Z = true) (ws : List Jvm.Cond) (c0 : Int32) (c1 : Int32) (c2 : Int32) (zc : Int32) (h0 : Heap) (n0 : Nat) (Z0 : n0 ≤ h0.size) (h0_c0 : ¬ (c0 < (0 : Int32))) (h1_c0 : ¬ ((255 : Int32) < c0)) (h0_c1 : ¬ (c1 < (0 : Int32))) (h1_c1 : ¬ ((255 : Int32) < c1)) (h0_c2 : ¬ (c2 < (0 : Int32))) (h1_c2 : ¬ ((255 : Int32) < c2)) (S_COMPACT : Sta Z h0 "java/lang/String" "COMPACT_STRINGS" "Z" (.int zc)) (hz : ¬ (zc = (0 : Int32))) :
    own_M l (⟨"com/example/tiny_context/tinycontext/account/AccountsValuePinLaw", "str", "(ICCC)Ljava/lang/String;"⟩ : MethodName) method_2_code 4 (some (.object "java/lang/String")) ws ({ frames := 4, cells := 3, slots := 10, locals := 66 } : Room) Z #[(.int 3), (.int c0), (.int c1), (.int c2)] h0 (Q_str_3 Z c0 c1 c2 zc h0 n0) := by
  refine own_body (own := "com/example/tiny_context/tinycontext/account/AccountsValuePinLaw") rfl (plainFor_of_name pn_6) (fun m => ef_str_0 m (3 : Int32) c0 c1 c2) ?_
  intro p e s m below meth c s₁ Bd hml hZ hh hx hby hown X0 e0
  have N0 := Fr.nil n0
  refine own_iloadN X0.here hx hby d6_0 rfl ?_
  refine own_ifYes X0.here hx hby (pc' := 15) d6_1 ((if0 _ _).trans (feq (show ¬ ((3 : Int32) = (0 : Int32)) from (by decide))).2) (by decide) (by decide) ?_
  refine own_iloadN X0.here hx hby d6_15 rfl ?_
  refine own_iconst X0.here hx hby d6_16 (v := (1 : Int32)) (by decide) ?_
  refine own_icmpYes X0.here hx hby (pc' := 35) d6_17 (feq (show ¬ ((3 : Int32) = (1 : Int32)) from (by decide))).2 (by decide) (by decide) ?_
  refine own_iloadN X0.here hx hby d6_35 rfl ?_
  refine own_iconst X0.here hx hby d6_36 (v := (2 : Int32)) (by decide) ?_
  refine own_icmpYes X0.here hx hby (pc' := 59) d6_37 (feq (show ¬ ((3 : Int32) = (2 : Int32)) from (by decide))).2 (by decide) (by decide) ?_
  refine own_newO X0 hx hZ hown (own_w hw 31 rfl) (own_w hw 11 rfl) (own_w hw 3 rfl) e0 hby d6_59 (by decide) (by decide) ?_
  intro T3 h3 b3 X3 e3 E3 g3 A3 D3 lt3
  have z4 : h0.size ≤ h3.size := E3.1
  have F5 : Fld Z h3 b3 "java/lang/String" "value" "[B" .null := D3 (Or.inr (own_w hw 24 rfl)) (ty := (.array .byte)) (by decide)
  have F6 : Fld Z h3 b3 "java/lang/String" "coder" "B" (.int 0) := D3 (Or.inr (own_w hw 26 rfl)) (ty := .byte) (by decide)
  refine own_dup X3.here hx hby d6_62 rfl ?_
  refine own_iconst X3.here hx hby d6_63 (v := (3 : Int32)) (by decide) ?_
  refine own_newP X3 hx hZ (aty := .char) (own_w hw 32 rfl) e3 hby d6_64 (by decide) 3 (by decide) (by decide) (by decide) (by decide) (ad := "[C") (by decide) ?_
  intro T7 h7 k7 b7 X7 e7 E7 g7 V7 C7 lt7
  have z8 : h3.size ≤ h7.size := E7.1
  have V9 : Arv Z h7 b7 k7 .char (3 : Int32) [(.int 0), (.int 0), (.int 0)] (.int 0) := V7.pad (pad_rep [] (.int 0) 3)
  refine own_dup X7.here hx hby d6_66 rfl ?_
  refine own_iconst X7.here hx hby d6_67 (v := (0 : Int32)) (by decide) ?_
  refine own_iloadN X7.here hx hby d6_68 rfl ?_
  refine own_castore X7 hx hZ e7 V9 ⟨by decide, by decide⟩ 0 (by decide) (Nat.le_of_ble_eq_true rfl) (w := (.int c0)) (congrArg Value.int (own_nar8 c0 h0_c0 h1_c0)) hby d6_69 N0 (by omega) ?_
  intro T10 h10 lo10 X10 e10 N10 W10 V10 z10
  have V11 : Arv Z h10 b7 k7 .char (3 : Int32) [(.int c0), (.int 0), (.int 0)] (.int 0) := V10
  refine own_dup X10.here hx hby d6_70 rfl ?_
  refine own_iconst X10.here hx hby d6_71 (v := (1 : Int32)) (by decide) ?_
  refine own_iloadN X10.here hx hby d6_72 rfl ?_
  refine own_castore X10 hx hZ e10 V11 ⟨by decide, by decide⟩ 1 (by decide) (Nat.le_of_ble_eq_true rfl) (w := (.int c1)) (congrArg Value.int (own_nar8 c1 h0_c1 h1_c1)) hby d6_73 N10 (by omega) ?_
  intro T12 h12 lo12 X12 e12 N12 W12 V12 z12
  have V13 : Arv Z h12 b7 k7 .char (3 : Int32) [(.int c0), (.int c1), (.int 0)] (.int 0) := V12
  refine own_dup X12.here hx hby d6_74 rfl ?_
  refine own_iconst X12.here hx hby d6_75 (v := (2 : Int32)) (by decide) ?_
  refine own_iloadN X12.here hx hby d6_76 rfl ?_
  refine own_castore X12 hx hZ e12 V13 ⟨by decide, by decide⟩ 2 (by decide) (Nat.le_of_ble_eq_true rfl) (w := (.int c2)) (congrArg Value.int (own_nar8 c2 h0_c2 h1_c2)) hby d6_77 N12 (by omega) ?_
  intro T14 h14 lo14 X14 e14 N14 W14 V14 z14
  have V15 : Arv Z h14 b7 k7 .char (3 : Int32) [(.int c0), (.int c1), (.int c2)] (.int 0) := V14
  have f16 : Exa Z h14 b3 "java/lang/String" := ((((A3.ext E7).wr W10).wr W12).wr W14)
  have f17 : Fld Z h14 b3 "java/lang/String" "value" "[B" .null := ((((F5.ext E7).other W10 (Or.inl (own_nn (by omega)))).other W12 (Or.inl (own_nn (by omega)))).other W14 (Or.inl (own_nn (by omega))))
  have f18 : Fld Z h14 b3 "java/lang/String" "coder" "B" (.int 0) := ((((F6.ext E7).other W10 (Or.inl (own_nn (by omega)))).other W12 (Or.inl (own_nn (by omega)))).other W14 (Or.inl (own_nn (by omega))))
  have f19 : Sta Z h14 "java/lang/String" "COMPACT_STRINGS" "Z" (.int zc) := (((((S_COMPACT.ext E3).ext E7).wr W10).wr W12).wr W14)
  have z21 : n0 ≤ h14.size := by omega
  have hws_words : ∀ d ∈ StrChars.Road.words, d.before a0 Z = true := fun d hd => hw d ((by decide +kernel : ∀ d ∈ StrChars.Road.words, d ∈ tables_1) d hd)
  refine own_specialB X14 hx hZ rfl hown (own_w hw 33 rfl) (own_w hw 34 rfl) (own_w hw 35 rfl) (by decide) (StrChars.Road.backV (W := 1) hZ hws_words (kI := 4) (own_w hw 11 rfl) (cs := ([c0, c1, c2] : List Int32)) (bs := ([c0, c1, c2] : List Int32).map (fun c => c.toInt8.toInt32)) (n := 3) (by omega) z21 f16 f17 f18 V15 f19 hz rfl rfl (by decide) (by decide) (own_lS ⟨h0_c0, h1_c0⟩ (own_lS ⟨h0_c1, h1_c1⟩ (own_lS ⟨h0_c2, h1_c2⟩ own_l0))) rfl (by decide) (by decide)) (Nat.le_of_eq rfl) (by rw [hml]; rfl) (argsL := [(.ref b7)]) (st := [(.ref b3)]) (a := b3) (lenOf pd_4 rfl) rfl rfl (by decide) (by decide) e14 hby d6_78 ?_
  intro T20 v20 L20 X20 hQ20
  obtain ⟨rfl, Nq20, K20, P20_0, P20_1, t_20, kb_20, P20_2, P20_3, P20_4, P20_5, P20_6⟩ := hQ20
  have N20 := Fr.app N14 Nq20
  have z22 : h14.size ≤ T20.heap.size := K20.1
  have lt23 : T20.heap.size > b3 := P20_0.lt
  have lt24 : T20.heap.size > t_20 := P20_6.lt
  refine own_sh (T := T20) 81 #[.val (.int 3), .val (.int c0), .val (.int c1), .val (.int c2)] [(.ref b3)] ?_
  have K25 : Keep h0 T20.heap [] := (((((((Keep.refl h0 []).ext E3).ext E7).wr W10 (Or.inr (by omega))).wr W12 (Or.inr (by omega))).wr W14 (Or.inr (by omega))).trans K20 (allS (P := fun xq_ => xq_ ∈ [] ∨ h0.size ≤ xq_) (Or.inr (by omega)) all0))
  obtain ⟨fs, hr, hrun, hended, hW, hsame⟩ := X20.leave (v := some (.ref b3)) (fun h => by rw [Bd.returns] at h; cases h)
  refine own_ret (t := T20.setFrames fs) ?_ ⟨_, hrun, hended, _, _, rfl, ?_, ⟨_, rfl⟩, hW, hsame.mono (by decide) (by decide)⟩
  · exact retOut X20 hx Bd.returns rfl (Or.inr (Or.inr (Or.inr (Or.inr ⟨rfl, rfl, rfl⟩)))) (hb hby d6_81) hr
  · show Q_str_3 Z c0 c1 c2 zc h0 n0 _ T20.heap _
    exact ⟨b3, t_20, kb_20, rfl, N20, K25, (by omega), P20_0, P20_1, P20_5, P20_6⟩
theorem ef_reqNN (m : MethodId) (x0 : Nat) (x1 : Nat) : entryFrame m #[(.ref x0), (.ref x1)] 2 = mkF m 0 #[.val (.ref x0), .val (.ref x1)] [] := by first | (simp [entryFrame, mkF, argsToLocals, Value.category]; done) | rfl
theorem pn_15 : plainName "java/util/Objects" = true := by first | (simp [plainName, overriddenIn]; done) | decide +kernel
theorem d15_0 : decode jdk_31_method_11_code 0 = .ok (.aload_n 0, 1) := by decide +kernel
theorem d15_1 : decode jdk_31_method_11_code 1 = .ok (.ifnonnull 12, 3) := by decide +kernel
theorem d15_13 : decode jdk_31_method_11_code 13 = .ok (.aload_n 0, 1) := by decide +kernel
theorem d15_14 : decode jdk_31_method_11_code 14 = .ok (.areturn, 1) := by decide +kernel
def Q_reqNN (Z : State) (o1 : Nat) (o2 : Nat) (h0 : Heap) (n0 : Nat) (vR : Option Value) (hR : Heap) (LR : List Loc) : Prop := vR = some (.ref o1) ∧ Fr n0 LR ∧ hR = h0
set_option maxRecDepth 65536 in
set_option maxHeartbeats 40000000 in
theorem reqNN (l : Launch) (Z : State) (a0 : Array Value) (hw : ∀ d ∈ tables_1, d.before a0 Z = true) (ws : List Jvm.Cond) (o1 : Nat) (o2 : Nat) (h0 : Heap) (n0 : Nat) (Z0 : n0 ≤ h0.size)  :
    own_M l (⟨"java/util/Objects", "requireNonNull", "(Ljava/lang/Object;Ljava/lang/String;)Ljava/lang/Object;"⟩ : MethodName) jdk_31_method_11_code 2 (some (.object "java/lang/Object")) ws ({ frames := 0, cells := 0, slots := 0, locals := 0 } : Room) Z #[(.ref o1), (.ref o2)] h0 (Q_reqNN Z o1 o2 h0 n0) := by
  refine own_body (own := "java/util/Objects") rfl (plainFor_of_name pn_15) (fun m => ef_reqNN m o1 o2) ?_
  intro p e s m below meth c s₁ Bd hml hZ hh hx hby hown X0 e0
  have N0 := Fr.nil n0
  refine own_aloadN X0.here hx hby d15_0 rfl rfl ?_
  refine own_ifnonnullYes X0.here hx hby (pc' := 13) d15_1 (by decide) (by decide) ?_
  refine own_aloadN X0.here hx hby d15_13 rfl rfl ?_
  obtain ⟨fs, hr, hrun, hended, hW, hsame⟩ := X0.leave (v := some (.ref o1)) (fun h => by rw [Bd.returns] at h; cases h)
  refine own_ret (t := s₁.setFrames fs) ?_ ⟨_, hrun, hended, _, _, rfl, ?_, ⟨_, rfl⟩, hW, hsame.mono (by decide) (by decide)⟩
  · exact retOut X0 hx Bd.returns rfl (Or.inr (Or.inr (Or.inr (Or.inr ⟨rfl, rfl, rfl⟩)))) (hb hby d15_14) hr
  · show Q_reqNN Z o1 o2 h0 n0 _ s₁.heap _
    rw [e0]
    exact ⟨rfl, N0, rfl⟩
theorem ef_strCoder (m : MethodId) (x0 : Nat) : entryFrame m #[(.ref x0)] 1 = mkF m 0 #[.val (.ref x0)] [] := by first | (simp [entryFrame, mkF, argsToLocals, Value.category]; done) | rfl
theorem pn_17 : plainName "java/lang/String" = true := by first | (simp [plainName, overriddenIn]; done) | decide +kernel
theorem d17_0 : decode jdk_42_method_152_code 0 = .ok (.getstatic 38, 3) := by decide +kernel
theorem d17_3 : decode jdk_42_method_152_code 3 = .ok (.ifCond .eq 10, 3) := by decide +kernel
theorem d17_6 : decode jdk_42_method_152_code 6 = .ok (.aload_n 0, 1) := by decide +kernel
theorem d17_7 : decode jdk_42_method_152_code 7 = .ok (.getfield 15, 3) := by decide +kernel
theorem d17_10 : decode jdk_42_method_152_code 10 = .ok (.goto 4, 3) := by decide +kernel
theorem d17_14 : decode jdk_42_method_152_code 14 = .ok (.ireturn, 1) := by decide +kernel
def Q_strCoder (Z : State) (x : Nat) (zc : Int32) (h0 : Heap) (n0 : Nat) (vR : Option Value) (hR : Heap) (LR : List Loc) : Prop := vR = some (.int 0) ∧ Fr n0 LR ∧ hR = h0
set_option maxRecDepth 65536 in
set_option maxHeartbeats 40000000 in
theorem strCoder (l : Launch) (Z : State) (a0 : Array Value) (hw : ∀ d ∈ tables_1, d.before a0 Z = true) (ws : List Jvm.Cond) (x : Nat) (zc : Int32) (h0 : Heap) (n0 : Nat) (Z0 : n0 ≤ h0.size) (F_coder_x : Fld Z h0 x "java/lang/String" "coder" "B" (.int 0)) (S_COMPACT : Sta Z h0 "java/lang/String" "COMPACT_STRINGS" "Z" (.int zc)) (hz : ¬ (zc = (0 : Int32))) :
    own_M l (⟨"java/lang/String", "coder", "()B"⟩ : MethodName) jdk_42_method_152_code 1 (some .byte) ws ({ frames := 0, cells := 0, slots := 0, locals := 0 } : Room) Z #[(.ref x)] h0 (Q_strCoder Z x zc h0 n0) := by
  refine own_body (own := "java/lang/String") rfl (plainFor_of_name pn_17) (fun m => ef_strCoder m x) ?_
  intro p e s m below meth c s₁ Bd hml hZ hh hx hby hown X0 e0
  have N0 := Fr.nil n0
  have lt1 : h0.size > x := F_coder_x.lt
  refine own_getS X0 hx hZ hown (host := "") (Or.inl (own_w hw 5 rfl)) Via.refl e0 S_COMPACT hby d17_0 ?_
  intro T2 X2 e2
  refine own_ifNo X2.here hx hby d17_3 ((if0 _ _).trans (feq hz).1) ?_
  refine own_aloadN X2.here hx hby d17_6 rfl rfl ?_
  refine own_getF X2 hx hZ hown (host := "") (Or.inl (own_w hw 25 rfl)) Via.refl e2 F_coder_x hby d17_7 ?_
  intro T3 X3 e3
  refine own_goto X3.here hx hby (pc' := 14) d17_10 (by decide) (by decide) ?_
  obtain ⟨fs, hr, hrun, hended, hW, hsame⟩ := X3.leave (v := some (.int 0)) (fun h => by rw [Bd.returns] at h; cases h)
  refine own_ret (t := T3.setFrames fs) ?_ ⟨_, hrun, hended, _, _, rfl, ?_, ⟨_, rfl⟩, hW, hsame.mono (by decide) (by decide)⟩
  · exact retN X3 hx (t := .byte) Bd.returns (by simp) (hb hby d17_14) hr
  · show Q_strCoder Z x zc h0 n0 _ T3.heap _
    rw [e3]
    exact ⟨rfl, N0, rfl⟩
theorem ef_strLen_1 (m : MethodId) (x0 : Nat) : entryFrame m #[(.ref x0)] 1 = mkF m 0 #[.val (.ref x0)] [] := by first | (simp [entryFrame, mkF, argsToLocals, Value.category]; done) | rfl
theorem pn_16 : plainName "java/lang/String" = true := by first | (simp [plainName, overriddenIn]; done) | decide +kernel
theorem d16_0 : decode jdk_42_method_54_code 0 = .ok (.aload_n 0, 1) := by decide +kernel
theorem d16_1 : decode jdk_42_method_54_code 1 = .ok (.getfield 9, 3) := by decide +kernel
theorem d16_4 : decode jdk_42_method_54_code 4 = .ok (.arraylength, 1) := by decide +kernel
theorem d16_5 : decode jdk_42_method_54_code 5 = .ok (.aload_n 0, 1) := by decide +kernel
theorem d16_6 : decode jdk_42_method_54_code 6 = .ok (.invokevirtual 335, 3) := by decide +kernel
theorem pd_5 : parseMethodDescriptor "()B" = some ⟨[], some .byte⟩ := by decide +kernel
theorem d16_9 : decode jdk_42_method_54_code 9 = .ok (.ishr, 1) := by decide +kernel
theorem d16_10 : decode jdk_42_method_54_code 10 = .ok (.ireturn, 1) := by decide +kernel
def Q_strLen_1 (Z : State) (x : Nat) (t : Nat) (kb : ClassId) (zc : Int32) (vs_ : List Value) (h0 : Heap) (n0 : Nat) (vR : Option Value) (hR : Heap) (LR : List Loc) : Prop := vR = some (.int 1) ∧ Fr n0 LR ∧ hR = h0
set_option maxRecDepth 65536 in
set_option maxHeartbeats 40000000 in
theorem strLen_1 (l : Launch) (Z : State) (a0 : Array Value) (hw : ∀ d ∈ tables_1, d.before a0 Z = true) (ws : List Jvm.Cond) (x : Nat) (t : Nat) (kb : ClassId) (zc : Int32) (vs_ : List Value) (h0 : Heap) (n0 : Nat) (Z0 : n0 ≤ h0.size) (E_x : Exa Z h0 x "java/lang/String") (F_coder_x : Fld Z h0 x "java/lang/String" "coder" "B" (.int 0)) (F_value_x : Fld Z h0 x "java/lang/String" "value" "[B" (.ref t)) (V_t : Arv Z h0 t kb .byte (1 : Int32) vs_ (.int 0)) (S_COMPACT : Sta Z h0 "java/lang/String" "COMPACT_STRINGS" "Z" (.int zc)) (hz : ¬ (zc = (0 : Int32))) :
    own_M l (⟨"java/lang/String", "length", "()I"⟩ : MethodName) jdk_42_method_54_code 1 (some .int) ws ({ frames := 1, cells := 0, slots := 0, locals := 13 } : Room) Z #[(.ref x)] h0 (Q_strLen_1 Z x t kb zc vs_ h0 n0) := by
  refine own_body (own := "java/lang/String") rfl (plainFor_of_name pn_16) (fun m => ef_strLen_1 m x) ?_
  intro p e s m below meth c s₁ Bd hml hZ hh hx hby hown X0 e0
  have N0 := Fr.nil n0
  have lt1 : h0.size > x := E_x.lt
  have lt2 : h0.size > t := V_t.lt
  refine own_aloadN X0.here hx hby d16_0 rfl rfl ?_
  refine own_getF X0 hx hZ hown (host := "") (Or.inl (own_w hw 23 rfl)) Via.refl e0 F_value_x hby d16_1 ?_
  intro T3 X3 e3
  refine own_alen X3 hx hZ e3 V_t hby d16_4 ?_
  refine own_aloadN X3.here hx hby d16_5 rfl rfl ?_
  refine own_virtual X3 hx hZ hown (own_w hw 74 rfl) (own_w hw 75 rfl) (notFace_of_selects (args := #[]) (mvT hZ (own_w hw 77 rfl))) (own_w hw 77 rfl) (own_w hw 76 rfl) (own_w hw 3 rfl) (own_w hw 78 rfl) (by decide) (strCoder l Z a0 hw [] x zc h0 n0 Z0 F_coder_x S_COMPACT hz) 1 (Nat.le_of_eq rfl) (by decide) (by decide) (by rw [hml]; rfl) (argsL := []) (st := [(.int 1)]) E_x (lenOf pd_5 rfl) rfl rfl (by decide) (by decide) e3 hby d16_6 ?_
  intro T4 v4 L4 X4 hQ4
  obtain ⟨rfl, Nq4, eh4⟩ := hQ4
  have N4 := Fr.app N0 Nq4
  refine own_sh (T := T4) 9 #[.val (.ref x)] [(.int 0), (.int 1)] ?_
  refine own_ishr X4.here hx hby d16_9 (v := (1 : Int32)) (by decide) ?_
  obtain ⟨fs, hr, hrun, hended, hW, hsame⟩ := X4.leave (v := some (.int 1)) (fun h => by rw [Bd.returns] at h; cases h)
  refine own_ret (t := T4.setFrames fs) ?_ ⟨_, hrun, hended, _, _, rfl, ?_, ⟨_, rfl⟩, hW, hsame.mono (by decide) (by decide)⟩
  · exact retOut X4 hx Bd.returns rfl (Or.inl ⟨rfl, Or.inl rfl, _, rfl⟩) (hb hby d16_10) hr
  · show Q_strLen_1 Z x t kb zc vs_ h0 n0 _ T4.heap _
    rw [eh4]
    exact ⟨rfl, N4, rfl⟩
theorem ef_preChk_0_1 (m : MethodId) (x0 : Int32) (x1 : Int32) (x2 : Value) (hx2 : x2.isRef = true) : entryFrame m #[(.int x0), (.int x1), x2] 3 = mkF m 0 #[.val (.int x0), .val (.int x1), .val x2] [] := by cases x2 <;> first | (cases hx2; done) | (simp [entryFrame, mkF, argsToLocals, Value.category]; done) | rfl
theorem pn_22 : plainName "jdk/internal/util/Preconditions" = true := by first | (simp [plainName, overriddenIn]; done) | decide +kernel
theorem d22_0 : decode jdk_41_method_11_code 0 = .ok (.iload_n 0, 1) := by decide +kernel
theorem d22_1 : decode jdk_41_method_11_code 1 = .ok (.ifCond .lt 8, 3) := by decide +kernel
theorem d22_4 : decode jdk_41_method_11_code 4 = .ok (.iload_n 0, 1) := by decide +kernel
theorem d22_5 : decode jdk_41_method_11_code 5 = .ok (.iload_n 1, 1) := by decide +kernel
theorem d22_6 : decode jdk_41_method_11_code 6 = .ok (.if_icmp .lt 10, 3) := by decide +kernel
theorem d22_16 : decode jdk_41_method_11_code 16 = .ok (.iload_n 0, 1) := by decide +kernel
theorem d22_17 : decode jdk_41_method_11_code 17 = .ok (.ireturn, 1) := by decide +kernel
def Q_preChk_0_1 (Z : State) (fm : Value) (h0 : Heap) (n0 : Nat) (vR : Option Value) (hR : Heap) (LR : List Loc) : Prop := vR = some (.int 0) ∧ Fr n0 LR ∧ hR = h0
set_option maxRecDepth 65536 in
set_option maxHeartbeats 40000000 in
theorem preChk_0_1 (l : Launch) (Z : State) (a0 : Array Value) (hw : ∀ d ∈ tables_1, d.before a0 Z = true) (ws : List Jvm.Cond) (fm : Value) (h0 : Heap) (n0 : Nat) (Z0 : n0 ≤ h0.size) (hfm : fm.isRef = true) :
    own_M l (⟨"jdk/internal/util/Preconditions", "checkIndex", "(IILjava/util/function/BiFunction;)I"⟩ : MethodName) jdk_41_method_11_code 3 (some .int) ws ({ frames := 0, cells := 0, slots := 0, locals := 0 } : Room) Z #[(.int 0), (.int 1), fm] h0 (Q_preChk_0_1 Z fm h0 n0) := by
  refine own_body (own := "jdk/internal/util/Preconditions") rfl (plainFor_of_name pn_22) (fun m => ef_preChk_0_1 m (0 : Int32) (1 : Int32) fm hfm) ?_
  intro p e s m below meth c s₁ Bd hml hZ hh hx hby hown X0 e0
  have N0 := Fr.nil n0
  refine own_iloadN X0.here hx hby d22_0 rfl ?_
  refine own_ifNo X0.here hx hby d22_1 ((if0 _ _).trans (flt (show ¬ ((0 : Int32) < (0 : Int32)) from (by decide))).1) ?_
  refine own_iloadN X0.here hx hby d22_4 rfl ?_
  refine own_iloadN X0.here hx hby d22_5 rfl ?_
  refine own_icmpYes X0.here hx hby (pc' := 16) d22_6 (tlt (show (0 : Int32) < (1 : Int32) from (by decide))).1 (by decide) (by decide) ?_
  refine own_iloadN X0.here hx hby d22_16 rfl ?_
  obtain ⟨fs, hr, hrun, hended, hW, hsame⟩ := X0.leave (v := some (.int 0)) (fun h => by rw [Bd.returns] at h; cases h)
  refine own_ret (t := s₁.setFrames fs) ?_ ⟨_, hrun, hended, _, _, rfl, ?_, ⟨_, rfl⟩, hW, hsame.mono (by decide) (by decide)⟩
  · exact retOut X0 hx Bd.returns rfl (Or.inl ⟨rfl, Or.inl rfl, _, rfl⟩) (hb hby d22_17) hr
  · show Q_preChk_0_1 Z fm h0 n0 _ s₁.heap _
    rw [e0]
    exact ⟨rfl, N0, rfl⟩
theorem ef_strChk_0_1 (m : MethodId) (x0 : Int32) (x1 : Int32) : entryFrame m #[(.int x0), (.int x1)] 2 = mkF m 0 #[.val (.int x0), .val (.int x1)] [] := by first | (simp [entryFrame, mkF, argsToLocals, Value.category]; done) | rfl
theorem pn_21 : plainName "java/lang/String" = true := by first | (simp [plainName, overriddenIn]; done) | decide +kernel
theorem d21_0 : decode jdk_42_method_155_code 0 = .ok (.iload_n 0, 1) := by decide +kernel
theorem d21_1 : decode jdk_42_method_155_code 1 = .ok (.iload_n 1, 1) := by decide +kernel
theorem d21_2 : decode jdk_42_method_155_code 2 = .ok (.getstatic 1053, 3) := by decide +kernel
theorem d21_5 : decode jdk_42_method_155_code 5 = .ok (.invokestatic 1059, 3) := by decide +kernel
theorem pd_6 : parseMethodDescriptor "(IILjava/util/function/BiFunction;)I" = some ⟨[.int, .int, (.object "java/util/function/BiFunction")], some .int⟩ := by decide +kernel
theorem d21_8 : decode jdk_42_method_155_code 8 = .ok (.pop, 1) := by decide +kernel
theorem d21_9 : decode jdk_42_method_155_code 9 = .ok (.return_, 1) := by decide +kernel
def Q_strChk_0_1 (Z : State) (fm : Value) (h0 : Heap) (n0 : Nat) (vR : Option Value) (hR : Heap) (LR : List Loc) : Prop := vR = none ∧ Fr n0 LR ∧ hR = h0
set_option maxRecDepth 65536 in
set_option maxHeartbeats 40000000 in
theorem strChk_0_1 (l : Launch) (Z : State) (a0 : Array Value) (hw : ∀ d ∈ tables_1, d.before a0 Z = true) (ws : List Jvm.Cond) (fm : Value) (h0 : Heap) (n0 : Nat) (Z0 : n0 ≤ h0.size) (S_FM : Sta Z h0 "jdk/internal/util/Preconditions" "SIOOBE_FORMATTER" "Ljava/util/function/BiFunction;" fm) (hfm : fm.isRef = true) :
    own_M l (⟨"java/lang/String", "checkIndex", "(II)V"⟩ : MethodName) jdk_42_method_155_code 2 none ws ({ frames := 1, cells := 0, slots := 0, locals := 14 } : Room) Z #[(.int 0), (.int 1)] h0 (Q_strChk_0_1 Z fm h0 n0) := by
  refine own_body (own := "java/lang/String") rfl (plainFor_of_name pn_21) (fun m => ef_strChk_0_1 m (0 : Int32) (1 : Int32)) ?_
  intro p e s m below meth c s₁ Bd hml hZ hh hx hby hown X0 e0
  have N0 := Fr.nil n0
  refine own_iloadN X0.here hx hby d21_0 rfl ?_
  refine own_iloadN X0.here hx hby d21_1 rfl ?_
  refine own_getS X0 hx hZ hown (host := "") (Or.inl (own_w hw 95 rfl)) Via.refl e0 S_FM hby d21_2 ?_
  intro T1 X1 e1
  refine own_callS X1 hx hZ hown (own_w hw 97 rfl) (own_w hw 98 rfl) (own_w hw 96 rfl) (own_w hw 99 rfl) (by decide) (preChk_0_1 l Z a0 hw [] fm h0 n0 Z0 hfm) 0 (Nat.le_of_eq rfl) (by decide) (by decide) (by rw [hml]; rfl) (argsL := [(.int 0), (.int 1), fm]) (st := []) (lenOf pd_6 rfl) rfl rfl (by decide) (by decide) e1 hby d21_5 ?_
  intro T2 v2 L2 X2 hQ2
  obtain ⟨rfl, Nq2, eh2⟩ := hQ2
  have N2 := Fr.app N0 Nq2
  refine own_sh (T := T2) 8 #[.val (.int 0), .val (.int 1)] [(.int 0)] ?_
  refine own_pop X2.here hx hby d21_8 rfl ?_
  obtain ⟨fs, hr, hrun, hended, hW, hsame⟩ := X2.leave (v := none) (fun _ => rfl)
  refine own_ret (t := T2.setFrames fs) ?_ ⟨_, hrun, hended, _, _, rfl, ?_, ⟨_, rfl⟩, hW, hsame.mono (by decide) (by decide)⟩
  · exact X2.returnOut hx Bd.returns (hb hby d21_9) hr
  · show Q_strChk_0_1 Z fm h0 n0 _ T2.heap _
    rw [eh2]
    exact ⟨rfl, N2, rfl⟩
theorem ef_strIsL (m : MethodId) (x0 : Nat) : entryFrame m #[(.ref x0)] 1 = mkF m 0 #[.val (.ref x0)] [] := by first | (simp [entryFrame, mkF, argsToLocals, Value.category]; done) | rfl
theorem pn_19 : plainName "java/lang/String" = true := by first | (simp [plainName, overriddenIn]; done) | decide +kernel
theorem d19_0 : decode jdk_42_method_154_code 0 = .ok (.getstatic 38, 3) := by decide +kernel
theorem d19_3 : decode jdk_42_method_154_code 3 = .ok (.ifCond .eq 14, 3) := by decide +kernel
theorem d19_6 : decode jdk_42_method_154_code 6 = .ok (.aload_n 0, 1) := by decide +kernel
theorem d19_7 : decode jdk_42_method_154_code 7 = .ok (.getfield 15, 3) := by decide +kernel
theorem d19_10 : decode jdk_42_method_154_code 10 = .ok (.ifCond .ne 7, 3) := by decide +kernel
theorem d19_13 : decode jdk_42_method_154_code 13 = .ok (.iconst 1, 1) := by decide +kernel
theorem d19_14 : decode jdk_42_method_154_code 14 = .ok (.goto 4, 3) := by decide +kernel
theorem d19_18 : decode jdk_42_method_154_code 18 = .ok (.ireturn, 1) := by decide +kernel
def Q_strIsL (Z : State) (x : Nat) (zc : Int32) (h0 : Heap) (n0 : Nat) (vR : Option Value) (hR : Heap) (LR : List Loc) : Prop := vR = some (.int 1) ∧ Fr n0 LR ∧ hR = h0
set_option maxRecDepth 65536 in
set_option maxHeartbeats 40000000 in
theorem strIsL (l : Launch) (Z : State) (a0 : Array Value) (hw : ∀ d ∈ tables_1, d.before a0 Z = true) (ws : List Jvm.Cond) (x : Nat) (zc : Int32) (h0 : Heap) (n0 : Nat) (Z0 : n0 ≤ h0.size) (F_coder_x : Fld Z h0 x "java/lang/String" "coder" "B" (.int 0)) (S_COMPACT : Sta Z h0 "java/lang/String" "COMPACT_STRINGS" "Z" (.int zc)) (hz : ¬ (zc = (0 : Int32))) :
    own_M l (⟨"java/lang/String", "isLatin1", "()Z"⟩ : MethodName) jdk_42_method_154_code 1 (some .boolean) ws ({ frames := 0, cells := 0, slots := 0, locals := 0 } : Room) Z #[(.ref x)] h0 (Q_strIsL Z x zc h0 n0) := by
  refine own_body (own := "java/lang/String") rfl (plainFor_of_name pn_19) (fun m => ef_strIsL m x) ?_
  intro p e s m below meth c s₁ Bd hml hZ hh hx hby hown X0 e0
  have N0 := Fr.nil n0
  have lt1 : h0.size > x := F_coder_x.lt
  refine own_getS X0 hx hZ hown (host := "") (Or.inl (own_w hw 5 rfl)) Via.refl e0 S_COMPACT hby d19_0 ?_
  intro T2 X2 e2
  refine own_ifNo X2.here hx hby d19_3 ((if0 _ _).trans (feq hz).1) ?_
  refine own_aloadN X2.here hx hby d19_6 rfl rfl ?_
  refine own_getF X2 hx hZ hown (host := "") (Or.inl (own_w hw 25 rfl)) Via.refl e2 F_coder_x hby d19_7 ?_
  intro T3 X3 e3
  refine own_ifNo X3.here hx hby d19_10 ((if0 _ _).trans (teq (show (0 : Int32) = (0 : Int32) from (by decide))).2) ?_
  refine own_iconst X3.here hx hby d19_13 (v := (1 : Int32)) (by decide) ?_
  refine own_goto X3.here hx hby (pc' := 18) d19_14 (by decide) (by decide) ?_
  obtain ⟨fs, hr, hrun, hended, hW, hsame⟩ := X3.leave (v := some (.int 1)) (fun h => by rw [Bd.returns] at h; cases h)
  refine own_ret (t := T3.setFrames fs) ?_ ⟨_, hrun, hended, _, _, rfl, ?_, ⟨_, rfl⟩, hW, hsame.mono (by decide) (by decide)⟩
  · exact retN X3 hx (t := .boolean) Bd.returns (by simp) (hb hby d19_18) hr
  · show Q_strIsL Z x zc h0 n0 _ T3.heap _
    rw [e3]
    exact ⟨rfl, N0, rfl⟩
theorem ef_l1Char_0_1 (m : MethodId) (x0 : Nat) (x1 : Int32) : entryFrame m #[(.ref x0), (.int x1)] 2 = mkF m 0 #[.val (.ref x0), .val (.int x1)] [] := by first | (simp [entryFrame, mkF, argsToLocals, Value.category]; done) | rfl
theorem pn_20 : plainName "java/lang/StringLatin1" = true := by first | (simp [plainName, overriddenIn]; done) | decide +kernel
theorem d20_0 : decode jdk_43_method_2_code 0 = .ok (.iload_n 1, 1) := by decide +kernel
theorem d20_1 : decode jdk_43_method_2_code 1 = .ok (.aload_n 0, 1) := by decide +kernel
theorem d20_2 : decode jdk_43_method_2_code 2 = .ok (.arraylength, 1) := by decide +kernel
theorem d20_3 : decode jdk_43_method_2_code 3 = .ok (.invokestatic 9, 3) := by decide +kernel
theorem pd_7 : parseMethodDescriptor "(II)V" = some ⟨[.int, .int], none⟩ := by decide +kernel
theorem d20_6 : decode jdk_43_method_2_code 6 = .ok (.aload_n 0, 1) := by decide +kernel
theorem d20_7 : decode jdk_43_method_2_code 7 = .ok (.iload_n 1, 1) := by decide +kernel
theorem d20_8 : decode jdk_43_method_2_code 8 = .ok (.baload, 1) := by decide +kernel
theorem d20_9 : decode jdk_43_method_2_code 9 = .ok (.sipush 255, 3) := by decide +kernel
theorem d20_12 : decode jdk_43_method_2_code 12 = .ok (.iand, 1) := by decide +kernel
theorem d20_13 : decode jdk_43_method_2_code 13 = .ok (.i2c, 1) := by decide +kernel
theorem d20_14 : decode jdk_43_method_2_code 14 = .ok (.ireturn, 1) := by decide +kernel
def Q_l1Char_0_1 (Z : State) (t : Nat) (kb : ClassId) (fm : Value) (c0 : Int32) (h0 : Heap) (n0 : Nat) (vR : Option Value) (hR : Heap) (LR : List Loc) : Prop := vR = some (.int c0) ∧ Fr n0 LR ∧ hR = h0
set_option maxRecDepth 65536 in
set_option maxHeartbeats 40000000 in
theorem l1Char_0_1 (l : Launch) (Z : State) (a0 : Array Value) (hw : ∀ d ∈ tables_1, d.before a0 Z = true) (ws : List Jvm.Cond) (t : Nat) (kb : ClassId) (fm : Value) (c0 : Int32) (h0 : Heap) (n0 : Nat) (Z0 : n0 ≤ h0.size) (V_t : Arv Z h0 t kb .byte (1 : Int32) [(.int (c0.toInt8.toInt32))] (.int 0)) (S_FM : Sta Z h0 "jdk/internal/util/Preconditions" "SIOOBE_FORMATTER" "Ljava/util/function/BiFunction;" fm) (hfm : fm.isRef = true) (h0_c0 : ¬ (c0 < (0 : Int32))) (h1_c0 : ¬ ((255 : Int32) < c0)) :
    own_M l (⟨"java/lang/StringLatin1", "charAt", "([BI)C"⟩ : MethodName) jdk_43_method_2_code 2 (some .char) ws ({ frames := 2, cells := 0, slots := 0, locals := 27 } : Room) Z #[(.ref t), (.int 0)] h0 (Q_l1Char_0_1 Z t kb fm c0 h0 n0) := by
  refine own_body (own := "java/lang/StringLatin1") rfl (plainFor_of_name pn_20) (fun m => ef_l1Char_0_1 m t (0 : Int32)) ?_
  intro p e s m below meth c s₁ Bd hml hZ hh hx hby hown X0 e0
  have N0 := Fr.nil n0
  have lt1 : h0.size > t := V_t.lt
  refine own_iloadN X0.here hx hby d20_0 rfl ?_
  refine own_aloadN X0.here hx hby d20_1 rfl rfl ?_
  refine own_alen X0 hx hZ e0 V_t hby d20_2 ?_
  refine own_callS X0 hx hZ hown (own_w hw 92 rfl) (own_w hw 93 rfl) (own_w hw 3 rfl) (own_w hw 94 rfl) (by decide) (strChk_0_1 l Z a0 hw [] fm h0 n0 Z0 S_FM hfm) 0 (Nat.le_of_eq rfl) (by decide) (by decide) (by rw [hml]; rfl) (argsL := [(.int 0), (.int 1)]) (st := []) (lenOf pd_7 rfl) rfl rfl (by decide) (by decide) e0 hby d20_3 ?_
  intro T2 v2 L2 X2 hQ2
  obtain ⟨rfl, Nq2, eh2⟩ := hQ2
  have N2 := Fr.app N0 Nq2
  refine own_sh (T := T2) 6 #[.val (.ref t), .val (.int 0)] [] ?_
  refine own_aloadN X2.here hx hby d20_6 rfl rfl ?_
  refine own_iloadN X2.here hx hby d20_7 rfl ?_
  refine own_baload X2 hx hZ eh2 V_t ⟨by decide, by decide⟩ (v := (.int (c0.toInt8.toInt32))) rfl hby d20_8 ?_
  refine own_sipush X2.here hx hby d20_9 (v := (255 : Int32)) (by decide) ?_
  refine own_iand X2.here hx hby d20_12 rfl ?_
  refine own_i2c X2.here hx hby d20_13 rfl ?_
  obtain ⟨fs, hr, hrun, hended, hW, hsame⟩ := X2.leave (v := some (.int (nar .char (((c0.toInt8.toInt32) &&& (255 : Int32)).toUInt32.toUInt16.toUInt32.toInt32)))) (fun h => by rw [Bd.returns] at h; cases h)
  refine own_ret (t := T2.setFrames fs) ?_ ⟨_, hrun, hended, _, _, rfl, ?_, ⟨_, rfl⟩, hW, hsame.mono (by decide) (by decide)⟩
  · exact retN X2 hx (t := .char) Bd.returns (by simp) (hb hby d20_14) hr
  · show Q_l1Char_0_1 Z t kb fm c0 h0 n0 _ T2.heap _
    rw [eh2]
    exact ⟨congrArg (fun z => some (Value.int z)) (own_chr8 c0 h0_c0 h1_c0), N2, rfl⟩
theorem ef_strChar_0_1 (m : MethodId) (x0 : Nat) (x1 : Int32) : entryFrame m #[(.ref x0), (.int x1)] 2 = mkF m 0 #[.val (.ref x0), .val (.int x1)] [] := by first | (simp [entryFrame, mkF, argsToLocals, Value.category]; done) | rfl
theorem pn_18 : plainName "java/lang/String" = true := by first | (simp [plainName, overriddenIn]; done) | decide +kernel
theorem d18_0 : decode jdk_42_method_56_code 0 = .ok (.aload_n 0, 1) := by decide +kernel
theorem d18_1 : decode jdk_42_method_56_code 1 = .ok (.invokevirtual 492, 3) := by decide +kernel
theorem pd_8 : parseMethodDescriptor "()Z" = some ⟨[], some .boolean⟩ := by decide +kernel
theorem d18_4 : decode jdk_42_method_56_code 4 = .ok (.ifCond .eq 12, 3) := by decide +kernel
theorem d18_7 : decode jdk_42_method_56_code 7 = .ok (.aload_n 0, 1) := by decide +kernel
theorem d18_8 : decode jdk_42_method_56_code 8 = .ok (.getfield 9, 3) := by decide +kernel
theorem d18_11 : decode jdk_42_method_56_code 11 = .ok (.iload_n 1, 1) := by decide +kernel
theorem d18_12 : decode jdk_42_method_56_code 12 = .ok (.invokestatic 495, 3) := by decide +kernel
theorem pd_9 : parseMethodDescriptor "([BI)C" = some ⟨[(.array .byte), .int], some .char⟩ := by decide +kernel
theorem d18_15 : decode jdk_42_method_56_code 15 = .ok (.ireturn, 1) := by decide +kernel
def Q_strChar_0_1 (Z : State) (x : Nat) (t : Nat) (kb : ClassId) (zc : Int32) (fm : Value) (c0 : Int32) (h0 : Heap) (n0 : Nat) (vR : Option Value) (hR : Heap) (LR : List Loc) : Prop := vR = some (.int c0) ∧ Fr n0 LR ∧ hR = h0
set_option maxRecDepth 65536 in
set_option maxHeartbeats 40000000 in
theorem strChar_0_1 (l : Launch) (Z : State) (a0 : Array Value) (hw : ∀ d ∈ tables_1, d.before a0 Z = true) (ws : List Jvm.Cond) (x : Nat) (t : Nat) (kb : ClassId) (zc : Int32) (fm : Value) (c0 : Int32) (h0 : Heap) (n0 : Nat) (Z0 : n0 ≤ h0.size) (E_x : Exa Z h0 x "java/lang/String") (F_coder_x : Fld Z h0 x "java/lang/String" "coder" "B" (.int 0)) (F_value_x : Fld Z h0 x "java/lang/String" "value" "[B" (.ref t)) (V_t : Arv Z h0 t kb .byte (1 : Int32) [(.int (c0.toInt8.toInt32))] (.int 0)) (S_COMPACT : Sta Z h0 "java/lang/String" "COMPACT_STRINGS" "Z" (.int zc)) (hz : ¬ (zc = (0 : Int32))) (S_FM : Sta Z h0 "jdk/internal/util/Preconditions" "SIOOBE_FORMATTER" "Ljava/util/function/BiFunction;" fm) (hfm : fm.isRef = true) (h0_c0 : ¬ (c0 < (0 : Int32))) (h1_c0 : ¬ ((255 : Int32) < c0)) :
    own_M l (⟨"java/lang/String", "charAt", "(I)C"⟩ : MethodName) jdk_42_method_56_code 2 (some .char) ws ({ frames := 3, cells := 0, slots := 0, locals := 40 } : Room) Z #[(.ref x), (.int 0)] h0 (Q_strChar_0_1 Z x t kb zc fm c0 h0 n0) := by
  refine own_body (own := "java/lang/String") rfl (plainFor_of_name pn_18) (fun m => ef_strChar_0_1 m x (0 : Int32)) ?_
  intro p e s m below meth c s₁ Bd hml hZ hh hx hby hown X0 e0
  have N0 := Fr.nil n0
  have lt1 : h0.size > x := E_x.lt
  have lt2 : h0.size > t := V_t.lt
  refine own_aloadN X0.here hx hby d18_0 rfl rfl ?_
  refine own_virtual X0 hx hZ hown (own_w hw 84 rfl) (own_w hw 85 rfl) (notFace_of_selects (args := #[]) (mvT hZ (own_w hw 87 rfl))) (own_w hw 87 rfl) (own_w hw 86 rfl) (own_w hw 3 rfl) (own_w hw 88 rfl) (by decide) (strIsL l Z a0 hw [] x zc h0 n0 Z0 F_coder_x S_COMPACT hz) 0 (Nat.le_of_eq rfl) (by decide) (by decide) (by rw [hml]; rfl) (argsL := []) (st := []) E_x (lenOf pd_8 rfl) rfl rfl (by decide) (by decide) e0 hby d18_1 ?_
  intro T3 v3 L3 X3 hQ3
  obtain ⟨rfl, Nq3, eh3⟩ := hQ3
  have N3 := Fr.app N0 Nq3
  refine own_sh (T := T3) 4 #[.val (.ref x), .val (.int 0)] [(.int 1)] ?_
  refine own_ifNo X3.here hx hby d18_4 ((if0 _ _).trans (feq (show ¬ ((1 : Int32) = (0 : Int32)) from (by decide))).1) ?_
  refine own_aloadN X3.here hx hby d18_7 rfl rfl ?_
  refine own_getF X3 hx hZ hown (host := "") (Or.inl (own_w hw 23 rfl)) Via.refl eh3 F_value_x hby d18_8 ?_
  intro T4 X4 e4
  refine own_iloadN X4.here hx hby d18_11 rfl ?_
  refine own_callS X4 hx hZ hown (own_w hw 89 rfl) (own_w hw 90 rfl) (own_w hw 8 rfl) (own_w hw 91 rfl) (by decide) (l1Char_0_1 l Z a0 hw [] t kb fm c0 h0 n0 Z0 V_t S_FM hfm h0_c0 h1_c0) 0 (Nat.le_of_eq rfl) (by decide) (by decide) (by rw [hml]; rfl) (argsL := [(.ref t), (.int 0)]) (st := []) (lenOf pd_9 rfl) rfl rfl (by decide) (by decide) e4 hby d18_12 ?_
  intro T5 v5 L5 X5 hQ5
  obtain ⟨rfl, Nq5, eh5⟩ := hQ5
  have N5 := Fr.app N3 Nq5
  refine own_sh (T := T5) 15 #[.val (.ref x), .val (.int 0)] [(.int c0)] ?_
  obtain ⟨fs, hr, hrun, hended, hW, hsame⟩ := X5.leave (v := some (.int (nar .char c0))) (fun h => by rw [Bd.returns] at h; cases h)
  refine own_ret (t := T5.setFrames fs) ?_ ⟨_, hrun, hended, _, _, rfl, ?_, ⟨_, rfl⟩, hW, hsame.mono (by decide) (by decide)⟩
  · exact retN X5 hx (t := .char) Bd.returns (by simp) (hb hby d18_15) hr
  · show Q_strChar_0_1 Z x t kb zc fm c0 h0 n0 _ T5.heap _
    rw [eh5]
    exact ⟨congrArg (fun z => some (Value.int z)) (own_nar8 c0 h0_c0 h1_c0), N5, rfl⟩
theorem ef_chkId (m : MethodId) (x0 : Nat) : entryFrame m #[(.ref x0)] 6 = mkF m 0 #[.val (.ref x0), .unset, .unset, .unset, .unset, .unset] [] := by first | (simp [entryFrame, mkF, argsToLocals, Value.category]; done) | rfl
theorem pn_14 : plainName "com/example/tiny_context/tinycontext/Resource" = true := by first | (simp [plainName, overriddenIn]; done) | decide +kernel
theorem d14_0 : decode prog_37_method_8_code 0 = .ok (.aload_n 0, 1) := by decide +kernel
theorem d14_1 : decode prog_37_method_8_code 1 = .ok (.ldc 50, 2) := by decide +kernel
theorem d14_3 : decode prog_37_method_8_code 3 = .ok (.invokestatic 52, 3) := by decide +kernel
theorem pd_10 : parseMethodDescriptor "(Ljava/lang/Object;Ljava/lang/String;)Ljava/lang/Object;" = some ⟨[(.object "java/lang/Object"), (.object "java/lang/String")], some (.object "java/lang/Object")⟩ := by decide +kernel
theorem d14_6 : decode prog_37_method_8_code 6 = .ok (.pop, 1) := by decide +kernel
theorem d14_7 : decode prog_37_method_8_code 7 = .ok (.iconst 0, 1) := by decide +kernel
theorem d14_8 : decode prog_37_method_8_code 8 = .ok (.istore_n 1, 1) := by decide +kernel
theorem d14_9 : decode prog_37_method_8_code 9 = .ok (.iconst 0, 1) := by decide +kernel
theorem d14_10 : decode prog_37_method_8_code 10 = .ok (.istore_n 2, 1) := by decide +kernel
theorem d14_11 : decode prog_37_method_8_code 11 = .ok (.iconst 1, 1) := by decide +kernel
theorem d14_12 : decode prog_37_method_8_code 12 = .ok (.istore_n 3, 1) := by decide +kernel
theorem d14_13 : decode prog_37_method_8_code 13 = .ok (.iconst 0, 1) := by decide +kernel
theorem d14_14 : decode prog_37_method_8_code 14 = .ok (.istore 4, 2) := by decide +kernel
theorem d14_16 : decode prog_37_method_8_code 16 = .ok (.iload 4, 2) := by decide +kernel
theorem d14_18 : decode prog_37_method_8_code 18 = .ok (.aload_n 0, 1) := by decide +kernel
theorem d14_19 : decode prog_37_method_8_code 19 = .ok (.invokevirtual 58, 3) := by decide +kernel
theorem pd_11 : parseMethodDescriptor "()I" = some ⟨[], some .int⟩ := by decide +kernel
theorem d14_22 : decode prog_37_method_8_code 22 = .ok (.if_icmp .ge 65, 3) := by decide +kernel
theorem d14_25 : decode prog_37_method_8_code 25 = .ok (.aload_n 0, 1) := by decide +kernel
theorem d14_26 : decode prog_37_method_8_code 26 = .ok (.iload 4, 2) := by decide +kernel
theorem d14_28 : decode prog_37_method_8_code 28 = .ok (.invokevirtual 64, 3) := by decide +kernel
theorem pd_12 : parseMethodDescriptor "(I)C" = some ⟨[.int], some .char⟩ := by decide +kernel
theorem d14_31 : decode prog_37_method_8_code 31 = .ok (.istore 5, 2) := by decide +kernel
theorem d14_33 : decode prog_37_method_8_code 33 = .ok (.iload 5, 2) := by decide +kernel
theorem d14_35 : decode prog_37_method_8_code 35 = .ok (.bipush 46, 2) := by decide +kernel
theorem d14_37 : decode prog_37_method_8_code 37 = .ok (.if_icmp .ne 12, 3) := by decide +kernel
theorem d14_49 : decode prog_37_method_8_code 49 = .ok (.iload_n 2, 1) := by decide +kernel
theorem d14_50 : decode prog_37_method_8_code 50 = .ok (.iload 5, 2) := by decide +kernel
theorem d14_52 : decode prog_37_method_8_code 52 = .ok (.bipush 32, 2) := by decide +kernel
theorem d14_54 : decode prog_37_method_8_code 54 = .ok (.if_icmp .le 10, 3) := by decide +kernel
theorem d14_57 : decode prog_37_method_8_code 57 = .ok (.iload 5, 2) := by decide +kernel
theorem d14_59 : decode prog_37_method_8_code 59 = .ok (.bipush 126, 2) := by decide +kernel
theorem d14_61 : decode prog_37_method_8_code 61 = .ok (.if_icmp .le 15, 3) := by decide +kernel
theorem d14_76 : decode prog_37_method_8_code 76 = .ok (.iconst 0, 1) := by decide +kernel
theorem d14_77 : decode prog_37_method_8_code 77 = .ok (.ior, 1) := by decide +kernel
theorem d14_78 : decode prog_37_method_8_code 78 = .ok (.istore_n 2, 1) := by decide +kernel
theorem d14_79 : decode prog_37_method_8_code 79 = .ok (.iconst 0, 1) := by decide +kernel
theorem d14_80 : decode prog_37_method_8_code 80 = .ok (.istore_n 3, 1) := by decide +kernel
theorem d14_81 : decode prog_37_method_8_code 81 = .ok (.iinc 4 1, 3) := by decide +kernel
theorem d14_84 : decode prog_37_method_8_code 84 = .ok (.goto (-68), 3) := by decide +kernel
theorem d14_87 : decode prog_37_method_8_code 87 = .ok (.iload_n 1, 1) := by decide +kernel
theorem d14_88 : decode prog_37_method_8_code 88 = .ok (.ifCond .ne 7, 3) := by decide +kernel
theorem d14_91 : decode prog_37_method_8_code 91 = .ok (.iload_n 3, 1) := by decide +kernel
theorem d14_92 : decode prog_37_method_8_code 92 = .ok (.ifCond .eq 10, 3) := by decide +kernel
theorem d14_102 : decode prog_37_method_8_code 102 = .ok (.iload_n 2, 1) := by decide +kernel
theorem d14_103 : decode prog_37_method_8_code 103 = .ok (.ifCond .eq 10, 3) := by decide +kernel
theorem d14_113 : decode prog_37_method_8_code 113 = .ok (.aload_n 0, 1) := by decide +kernel
theorem d14_114 : decode prog_37_method_8_code 114 = .ok (.areturn, 1) := by decide +kernel
def Q_chkId (Z : State) (x : Nat) (t : Nat) (kb : ClassId) (zc : Int32) (fm : Value) (c0 : Int32) (h0 : Heap) (n0 : Nat) (vR : Option Value) (hR : Heap) (LR : List Loc) : Prop := vR = some (.ref x) ∧ Fr n0 LR ∧ Keep h0 hR []
set_option maxRecDepth 65536 in
set_option maxHeartbeats 40000000 in
theorem chkId (l : Launch) (Z : State) (a0 : Array Value) (hw : ∀ d ∈ tables_1, d.before a0 Z = true) (ws : List Jvm.Cond) (x : Nat) (t : Nat) (kb : ClassId) (zc : Int32) (fm : Value) (c0 : Int32) (h0 : Heap) (n0 : Nat) (Z0 : n0 ≤ h0.size) (E_x : Exa Z h0 x "java/lang/String") (F_coder_x : Fld Z h0 x "java/lang/String" "coder" "B" (.int 0)) (F_value_x : Fld Z h0 x "java/lang/String" "value" "[B" (.ref t)) (V_t : Arv Z h0 t kb .byte (1 : Int32) [(.int (c0.toInt8.toInt32))] (.int 0)) (S_COMPACT : Sta Z h0 "java/lang/String" "COMPACT_STRINGS" "Z" (.int zc)) (hz : ¬ (zc = (0 : Int32))) (S_FM : Sta Z h0 "jdk/internal/util/Preconditions" "SIOOBE_FORMATTER" "Ljava/util/function/BiFunction;" fm) (hfm : fm.isRef = true) (h0_c0 : ¬ (c0 < (0 : Int32))) (h1_c0 : ¬ ((255 : Int32) < c0)) (h46 : ¬ (c0 = (46 : Int32))) (h32 : (32 : Int32) < c0) (h126 : ¬ ((126 : Int32) < c0)) :
    own_MH l (⟨"com/example/tiny_context/tinycontext/Resource", "checkId", "(Ljava/lang/String;)Ljava/lang/String;"⟩ : MethodName) prog_37_method_8_code 6 (some (.object "java/lang/String")) ws ({ frames := 4, cells := 2, slots := 48, locals := 53 } : Room) Z #[(.ref x)] h0 (Q_chkId Z x t kb zc fm c0 h0 n0) consts_1 := by
  refine own_bodyH (own := "com/example/tiny_context/tinycontext/Resource") rfl (plainFor_of_name pn_14) (fun m => ef_chkId m x) ?_
  intro p e s m below meth c s₁ Bd hml hZ hh hx hby hown X0 e0 hS0 CH0
  have N0 := Fr.nil n0
  have hk0 : h0.size ≤ h0.size := Nat.le_refl _
  have Y0 : Stand p l e ({ frames := 4, cells := 2, slots := 48, locals := 53 } : Room) (s.setVm s.vm) m #[(.ref x)] below meth c s₁ [] 0 0 := X0
  have hEL := own_EW hw
  have C0 := CHr.refl CH0
  have lt1 : h0.size > x := E_x.lt
  have lt2 : h0.size > t := V_t.lt
  refine own_aloadN Y0.here hx hby d14_0 rfl rfl ?_
  have own_wS0 : ∀ a ∈ Bundle.stringAtoms, a.before a0 Z = true := own_wS hw
  refine own_ldcCH Y0 hx hZ hEL hown (own_w hw 62 rfl) own_wS0 e0 hS0 (by omega) C0.1 (List.mem_of_getElem? (i := 0) rfl) (vs := [(.int 114), (.int 101), (.int 115), (.int 111), (.int 117), (.int 114), (.int 99), (.int 101), (.int 32), (.int 105), (.int 100)]) (z := (11 : Int32)) ⟨by decide, by decide⟩ (by decide) (by decide) hby d14_1 44 (by decide) (by decide) (by decide) (by decide) ?_
  intro a3 T3 h3 kk3 vm3 b3 kb3 X3 e3 E3 hS3 hk3 hZ3 hown3 Ea3 Fc3 Fv3 Va3 la3 lb3 Cn3 ns3
  have z4 : h0.size ≤ h3.size := E3.1
  have C5 := C0.trans Cn3
  have z7 : n0 ≤ h3.size := by omega
  refine own_callS X3 hx hZ3 hown3 (own_w hw 65 rfl) (own_w hw 66 rfl) (own_w hw 67 rfl) (own_w hw 68 rfl) (by decide) (reqNN l Z a0 hw [] x a3 h3 n0 z7 ) 0 (Nat.le_of_eq rfl) (by decide) (by decide) (by rw [hml]; rfl) (argsL := [(.ref x), (.ref a3)]) (st := []) (lenOf pd_10 rfl) rfl rfl (by decide) (by decide) e3 hby d14_3 ?_
  intro T6 v6 L6 X6 hQ6
  obtain ⟨rfl, Nq6, eh6⟩ := hQ6
  have N6 := Fr.app N0 Nq6
  refine own_sh (T := T6) 6 #[.val (.ref x), .unset, .unset, .unset, .unset, .unset] [(.ref x)] ?_
  refine own_pop X6.here hx hby d14_6 rfl ?_
  refine own_iconst X6.here hx hby d14_7 (v := (0 : Int32)) (by decide) ?_
  refine own_istoreN X6.here hx hby d14_8 (l' := #[.val (.ref x), .val (.int 0), .unset, .unset, .unset, .unset]) rfl ?_
  refine own_iconst X6.here hx hby d14_9 (v := (0 : Int32)) (by decide) ?_
  refine own_istoreN X6.here hx hby d14_10 (l' := #[.val (.ref x), .val (.int 0), .val (.int 0), .unset, .unset, .unset]) rfl ?_
  refine own_iconst X6.here hx hby d14_11 (v := (1 : Int32)) (by decide) ?_
  refine own_istoreN X6.here hx hby d14_12 (l' := #[.val (.ref x), .val (.int 0), .val (.int 0), .val (.int 1), .unset, .unset]) rfl ?_
  refine own_iconst X6.here hx hby d14_13 (v := (0 : Int32)) (by decide) ?_
  refine own_istore X6.here hx hby d14_14 (l' := #[.val (.ref x), .val (.int 0), .val (.int 0), .val (.int 1), .val (.int 0), .unset]) rfl ?_
  refine own_iload X6.here hx hby d14_16 rfl ?_
  refine own_aloadN X6.here hx hby d14_18 rfl rfl ?_
  have f8 : Exa Z h3 x "java/lang/String" := (E_x.ext E3)
  have f9 : Fld Z h3 x "java/lang/String" "coder" "B" (.int 0) := (F_coder_x.ext E3)
  have f10 : Fld Z h3 x "java/lang/String" "value" "[B" (.ref t) := (F_value_x.ext E3)
  have f11 : Arv Z h3 t kb .byte (1 : Int32) [(.int (c0.toInt8.toInt32))] (.int 0) := (V_t.ext E3)
  have f12 : Sta Z h3 "java/lang/String" "COMPACT_STRINGS" "Z" (.int zc) := (S_COMPACT.ext E3)
  refine own_virtual X6 hx hZ3 hown3 (own_w hw 69 rfl) (own_w hw 70 rfl) (notFace_of_selects (args := #[]) (mvT hZ3 (own_w hw 72 rfl))) (own_w hw 72 rfl) (own_w hw 71 rfl) (own_w hw 3 rfl) (own_w hw 73 rfl) (by decide) (strLen_1 l Z a0 hw [] x t kb zc ([(.int (c0.toInt8.toInt32))]) h3 n0 z7 f8 f9 f10 f11 f12 hz) 1 (Nat.le_of_eq rfl) (by decide) (by decide) (by rw [hml]; rfl) (argsL := []) (st := [(.int 0)]) f8 (lenOf pd_11 rfl) rfl rfl (by decide) (by decide) eh6 hby d14_19 ?_
  intro T13 v13 L13 X13 hQ13
  obtain ⟨rfl, Nq13, eh13⟩ := hQ13
  have N13 := Fr.app N6 Nq13
  refine own_sh (T := T13) 22 #[.val (.ref x), .val (.int 0), .val (.int 0), .val (.int 1), .val (.int 0), .unset] [(.int 1), (.int 0)] ?_
  refine own_icmpNo X13.here hx hby d14_22 (tlt (show (0 : Int32) < (1 : Int32) from (by decide))).2.1 ?_
  refine own_aloadN X13.here hx hby d14_25 rfl rfl ?_
  refine own_iload X13.here hx hby d14_26 rfl ?_
  have f14 : Sta Z h3 "jdk/internal/util/Preconditions" "SIOOBE_FORMATTER" "Ljava/util/function/BiFunction;" fm := (S_FM.ext E3)
  refine own_virtual X13 hx hZ3 hown3 (own_w hw 79 rfl) (own_w hw 80 rfl) (notFace_of_selects (args := #[]) (mvT hZ3 (own_w hw 82 rfl))) (own_w hw 82 rfl) (own_w hw 81 rfl) (own_w hw 3 rfl) (own_w hw 83 rfl) (by decide) (strChar_0_1 l Z a0 hw [] x t kb zc fm c0 h3 n0 z7 f8 f9 f10 f11 f12 hz f14 hfm h0_c0 h1_c0) 0 (Nat.le_of_eq rfl) (by decide) (by decide) (by rw [hml]; rfl) (argsL := [(.int 0)]) (st := []) f8 (lenOf pd_12 rfl) rfl rfl (by decide) (by decide) eh13 hby d14_28 ?_
  intro T15 v15 L15 X15 hQ15
  obtain ⟨rfl, Nq15, eh15⟩ := hQ15
  have N15 := Fr.app N13 Nq15
  refine own_sh (T := T15) 31 #[.val (.ref x), .val (.int 0), .val (.int 0), .val (.int 1), .val (.int 0), .unset] [(.int c0)] ?_
  refine own_istore X15.here hx hby d14_31 (l' := #[.val (.ref x), .val (.int 0), .val (.int 0), .val (.int 1), .val (.int 0), .val (.int c0)]) rfl ?_
  refine own_iload X15.here hx hby d14_33 rfl ?_
  refine own_bipush X15.here hx hby d14_35 (v := (46 : Int32)) (by decide) ?_
  refine own_icmpYes X15.here hx hby (pc' := 49) d14_37 (feq h46).2 (by decide) (by decide) ?_
  refine own_iloadN X15.here hx hby d14_49 rfl ?_
  refine own_iload X15.here hx hby d14_50 rfl ?_
  refine own_bipush X15.here hx hby d14_52 (v := (32 : Int32)) (by decide) ?_
  refine own_icmpNo X15.here hx hby d14_54 (tlt h32).2.2.2 ?_
  refine own_iload X15.here hx hby d14_57 rfl ?_
  refine own_bipush X15.here hx hby d14_59 (v := (126 : Int32)) (by decide) ?_
  refine own_icmpYes X15.here hx hby (pc' := 76) d14_61 (flt h126).2.2.2 (by decide) (by decide) ?_
  refine own_iconst X15.here hx hby d14_76 (v := (0 : Int32)) (by decide) ?_
  refine own_ior X15.here hx hby d14_77 (v := (0 : Int32)) (by decide) ?_
  refine own_istoreN X15.here hx hby d14_78 (l' := #[.val (.ref x), .val (.int 0), .val (.int 0), .val (.int 1), .val (.int 0), .val (.int c0)]) rfl ?_
  refine own_iconst X15.here hx hby d14_79 (v := (0 : Int32)) (by decide) ?_
  refine own_istoreN X15.here hx hby d14_80 (l' := #[.val (.ref x), .val (.int 0), .val (.int 0), .val (.int 0), .val (.int 0), .val (.int c0)]) rfl ?_
  refine own_iinc X15.here hx hby d14_81 rfl (v := (1 : Int32)) (by decide) (l' := #[.val (.ref x), .val (.int 0), .val (.int 0), .val (.int 0), .val (.int 1), .val (.int c0)]) rfl ?_
  refine own_goto X15.here hx hby (pc' := 16) d14_84 (by decide) (by decide) ?_
  refine own_iload X15.here hx hby d14_16 rfl ?_
  refine own_aloadN X15.here hx hby d14_18 rfl rfl ?_
  refine own_virtual X15 hx hZ3 hown3 (own_w hw 69 rfl) (own_w hw 70 rfl) (notFace_of_selects (args := #[]) (mvT hZ3 (own_w hw 72 rfl))) (own_w hw 72 rfl) (own_w hw 71 rfl) (own_w hw 3 rfl) (own_w hw 73 rfl) (by decide) (strLen_1 l Z a0 hw [] x t kb zc ([(.int (c0.toInt8.toInt32))]) h3 n0 z7 f8 f9 f10 f11 f12 hz) 1 (Nat.le_of_eq rfl) (by decide) (by decide) (by rw [hml]; rfl) (argsL := []) (st := [(.int 1)]) f8 (lenOf pd_11 rfl) rfl rfl (by decide) (by decide) eh15 hby d14_19 ?_
  intro T16 v16 L16 X16 hQ16
  obtain ⟨rfl, Nq16, eh16⟩ := hQ16
  have N16 := Fr.app N15 Nq16
  refine own_sh (T := T16) 22 #[.val (.ref x), .val (.int 0), .val (.int 0), .val (.int 0), .val (.int 1), .val (.int c0)] [(.int 1), (.int 1)] ?_
  refine own_icmpYes X16.here hx hby (pc' := 87) d14_22 (flt (show ¬ ((1 : Int32) < (1 : Int32)) from (by decide))).2.1 (by decide) (by decide) ?_
  refine own_iloadN X16.here hx hby d14_87 rfl ?_
  refine own_ifNo X16.here hx hby d14_88 ((if0 _ _).trans (teq (show (0 : Int32) = (0 : Int32) from (by decide))).2) ?_
  refine own_iloadN X16.here hx hby d14_91 rfl ?_
  refine own_ifYes X16.here hx hby (pc' := 102) d14_92 ((if0 _ _).trans (teq (show (0 : Int32) = (0 : Int32) from (by decide))).1) (by decide) (by decide) ?_
  refine own_iloadN X16.here hx hby d14_102 rfl ?_
  refine own_ifYes X16.here hx hby (pc' := 113) d14_103 ((if0 _ _).trans (teq (show (0 : Int32) = (0 : Int32) from (by decide))).1) (by decide) (by decide) ?_
  refine own_aloadN X16.here hx hby d14_113 rfl rfl ?_
  have K17 : Keep h0 h3 [] := ((Keep.refl h0 []).ext E3)
  obtain ⟨fs, hr, hrun, hended, hRW⟩ := X16.leaveW hS3 (by rw [eh16]; omega) (v := some (.ref x)) (fun h => by rw [Bd.returns] at h; cases h)
  have hCf : CHr Z consts_1 s.vm s.heap T16.vm T16.heap := by
    rw [hh, eh16]
    exact C5.trans (CHv.at X16 hZ3 hEL C5.1)
  refine own_ret (t := T16.setFrames fs) ?_ ⟨_, hrun, hended, _, _, rfl, ?_, hCf, hRW.1, hRW.2.1, hRW.2.2.1, hRW.2.2.2.mono (by decide) (by decide)⟩
  · exact retOut X16 hx Bd.returns rfl (Or.inr (Or.inr (Or.inr (Or.inr ⟨rfl, rfl, rfl⟩)))) (hb hby d14_114) hr
  · show Q_chkId Z x t kb zc fm c0 h0 n0 _ T16.heap _
    rw [eh16]
    exact ⟨rfl, N16, K17⟩
theorem ef_resInit4 (m : MethodId) (x0 : Nat) (x1 : Nat) (x2 : Nat) (x3 : Int32) : entryFrame m #[(.ref x0), (.ref x1), (.ref x2), (.int x3)] 4 = mkF m 0 #[.val (.ref x0), .val (.ref x1), .val (.ref x2), .val (.int x3)] [] := by first | (simp [entryFrame, mkF, argsToLocals, Value.category]; done) | rfl
theorem pn_13 : plainName "com/example/tiny_context/tinycontext/Resource" = true := by first | (simp [plainName, overriddenIn]; done) | decide +kernel
theorem d13_0 : decode prog_37_method_3_code 0 = .ok (.aload_n 0, 1) := by decide +kernel
theorem d13_1 : decode prog_37_method_3_code 1 = .ok (.invokespecial 10, 3) := by decide +kernel
theorem d13_4 : decode prog_37_method_3_code 4 = .ok (.aload_n 0, 1) := by decide +kernel
theorem d13_5 : decode prog_37_method_3_code 5 = .ok (.iload_n 3, 1) := by decide +kernel
theorem d13_6 : decode prog_37_method_3_code 6 = .ok (.ifCond .eq 7, 3) := by decide +kernel
theorem d13_13 : decode prog_37_method_3_code 13 = .ok (.aload_n 1, 1) := by decide +kernel
theorem d13_14 : decode prog_37_method_3_code 14 = .ok (.invokestatic 15, 3) := by decide +kernel
theorem pd_13 : parseMethodDescriptor "(Ljava/lang/String;)Ljava/lang/String;" = some ⟨[(.object "java/lang/String")], some (.object "java/lang/String")⟩ := by decide +kernel
theorem d13_17 : decode prog_37_method_3_code 17 = .ok (.putfield 19, 3) := by decide +kernel
theorem d13_20 : decode prog_37_method_3_code 20 = .ok (.aload_n 0, 1) := by decide +kernel
theorem d13_21 : decode prog_37_method_3_code 21 = .ok (.aload_n 2, 1) := by decide +kernel
theorem d13_22 : decode prog_37_method_3_code 22 = .ok (.putfield 23, 3) := by decide +kernel
theorem d13_25 : decode prog_37_method_3_code 25 = .ok (.return_, 1) := by decide +kernel
def Q_resInit4 (Z : State) (r : Nat) (v : Nat) (x : Nat) (t : Nat) (kb : ClassId) (zc : Int32) (fm : Value) (c0 : Int32) (h0 : Heap) (n0 : Nat) (vR : Option Value) (hR : Heap) (LR : List Loc) : Prop := vR = none ∧ Fr n0 LR ∧ Keep h0 hR [r] ∧ (Exa Z hR r "com/example/tiny_context/tinycontext/Resource") ∧ (Fld Z hR r "com/example/tiny_context/tinycontext/Resource" "id" "Ljava/lang/String;" (.ref x)) ∧ (Fld Z hR r "com/example/tiny_context/tinycontext/Resource" "value" "Ljava/lang/Object;" (.ref v))
set_option maxRecDepth 65536 in
set_option maxHeartbeats 40000000 in
theorem resInit4 (l : Launch) (Z : State) (a0 : Array Value) (hw : ∀ d ∈ tables_1, d.before a0 Z = true) (ws : List Jvm.Cond) (r : Nat) (v : Nat) (x : Nat) (t : Nat) (kb : ClassId) (zc : Int32) (fm : Value) (c0 : Int32) (h0 : Heap) (n0 : Nat) (Z0 : n0 ≤ h0.size) (E_r : Exa Z h0 r "com/example/tiny_context/tinycontext/Resource") (g_r : n0 ≤ r) (F_id_r : Fld Z h0 r "com/example/tiny_context/tinycontext/Resource" "id" "Ljava/lang/String;" .null) (F_value_r : Fld Z h0 r "com/example/tiny_context/tinycontext/Resource" "value" "Ljava/lang/Object;" .null) (E_x : Exa Z h0 x "java/lang/String") (F_coder_x : Fld Z h0 x "java/lang/String" "coder" "B" (.int 0)) (F_value_x : Fld Z h0 x "java/lang/String" "value" "[B" (.ref t)) (V_t : Arv Z h0 t kb .byte (1 : Int32) [(.int (c0.toInt8.toInt32))] (.int 0)) (S_COMPACT : Sta Z h0 "java/lang/String" "COMPACT_STRINGS" "Z" (.int zc)) (hz : ¬ (zc = (0 : Int32))) (S_FM : Sta Z h0 "jdk/internal/util/Preconditions" "SIOOBE_FORMATTER" "Ljava/util/function/BiFunction;" fm) (hfm : fm.isRef = true) (h0_c0 : ¬ (c0 < (0 : Int32))) (h1_c0 : ¬ ((255 : Int32) < c0)) (h46 : ¬ (c0 = (46 : Int32))) (h32 : (32 : Int32) < c0) (h126 : ¬ ((126 : Int32) < c0)) :
    own_MH l (⟨"com/example/tiny_context/tinycontext/Resource", "<init>", "(Ljava/lang/String;Ljava/lang/Object;Z)V"⟩ : MethodName) prog_37_method_3_code 4 none ws ({ frames := 5, cells := 2, slots := 48, locals := 71 } : Room) Z #[(.ref r), (.ref x), (.ref v), (.int 0)] h0 (Q_resInit4 Z r v x t kb zc fm c0 h0 n0) consts_1 := by
  refine own_bodyH (own := "com/example/tiny_context/tinycontext/Resource") rfl (plainFor_of_name pn_13) (fun m => ef_resInit4 m r x v (0 : Int32)) ?_
  intro p e s m below meth c s₁ Bd hml hZ hh hx hby hown X0 e0 hS0 CH0
  have N0 := Fr.nil n0
  have hk0 : h0.size ≤ h0.size := Nat.le_refl _
  have Y0 : Stand p l e ({ frames := 5, cells := 2, slots := 48, locals := 71 } : Room) (s.setVm s.vm) m #[(.ref r), (.ref x), (.ref v), (.int 0)] below meth c s₁ [] 0 0 := X0
  have hEL := own_EW hw
  have C0 := CHr.refl CH0
  have lt1 : h0.size > r := E_r.lt
  have lt2 : h0.size > x := E_x.lt
  have lt3 : h0.size > t := V_t.lt
  refine own_aloadN Y0.here hx hby d13_0 rfl rfl ?_
  refine own_initO Y0 hx hZ hown (own_w hw 58 rfl) (own_w hw 21 rfl) (own_w hw 22 rfl) e0 (by rw [hml]; rfl) hby d13_1 (by decide) 0 (Nat.le_of_eq rfl) (by decide) ?_
  intro T4 X4 e4
  refine own_aloadN X4.here hx hby d13_4 rfl rfl ?_
  refine own_iloadN X4.here hx hby d13_5 rfl ?_
  refine own_ifYes X4.here hx hby (pc' := 13) d13_6 ((if0 _ _).trans (teq (show (0 : Int32) = (0 : Int32) from (by decide))).1) (by decide) (by decide) ?_
  refine own_aloadN X4.here hx hby d13_13 rfl rfl ?_
  refine own_callSH X4 hx hZ hEL hown (own_w hw 59 rfl) (own_w hw 60 rfl) (own_w hw 51 rfl) (own_w hw 61 rfl) (by decide) (chkId l Z a0 hw [] x t kb zc fm c0 h0 n0 Z0 E_x F_coder_x F_value_x V_t S_COMPACT hz S_FM hfm h0_c0 h1_c0 h46 h32 h126) 1 (Nat.le_of_eq rfl) (by decide) (by decide) (by rw [hml]; rfl) (argsL := [(.ref x)]) (st := [(.ref r)]) (lenOf pd_13 rfl) rfl rfl (by decide) (by decide) e4 hby C0.1 hS0 (by omega) d13_14 ?_
  intro T5 v5 L5 vm5 X5 hS5 hZ5 hown5 hg5 Cn5 hQ5
  obtain ⟨rfl, Nq5, K5⟩ := hQ5
  have N5 := Fr.app N0 Nq5
  have z6 : h0.size ≤ T5.heap.size := K5.1
  have C7 := C0.trans Cn5
  refine own_sh (T := T5) 17 #[.val (.ref r), .val (.ref x), .val (.ref v), .val (.int 0)] [(.ref x), (.ref r)] ?_
  have f8 : Exa Z T5.heap r "com/example/tiny_context/tinycontext/Resource" := (E_r.keep K5)
  have f9 : Fld Z T5.heap r "com/example/tiny_context/tinycontext/Resource" "id" "Ljava/lang/String;" .null := (F_id_r.keep K5 nin0)
  refine own_putF X5 hx hZ5 (ty := (.object "java/lang/String")) hown5 (host := "") (Or.inl (own_w hw 100 rfl)) Via.refl rfl f9 f8 (Or.inr ⟨(own_w hw 101 rfl), rfl, (name_of_methodNamed Bd.named Bd.method).1⟩) (own_w hw 50 rfl) (by decide) rfl rfl hby d13_17 N5 g_r ?_
  intro T10 h10 lo10 X10 e10 N10 W10 F10 z10
  have C11 := C7.trans (CHr.wr W10 (Safe.exa hZ5.alike f8 (by decide) (by decide)) C7.1)
  refine own_aloadN X10.here hx hby d13_20 rfl rfl ?_
  refine own_aloadN X10.here hx hby d13_21 rfl rfl ?_
  have f12 : Exa Z h10 r "com/example/tiny_context/tinycontext/Resource" := (f8.wr W10)
  have f13 : Fld Z h10 r "com/example/tiny_context/tinycontext/Resource" "value" "Ljava/lang/Object;" .null := ((F_value_r.keep K5 nin0).other W10 (Or.inr (slot_ne (Or.inr (own_w hw 103 rfl)) (Or.inr (own_w hw 101 rfl)) (by decide) (t := (.object "java/lang/Object")) (t' := (.object "java/lang/String")) (by decide) (by decide))))
  refine own_putF X10 hx hZ5 (ty := (.object "java/lang/Object")) hown5 (host := "") (Or.inl (own_w hw 102 rfl)) Via.refl e10 f13 f12 (Or.inr ⟨(own_w hw 103 rfl), rfl, (name_of_methodNamed Bd.named Bd.method).1⟩) (own_w hw 50 rfl) (by decide) rfl rfl hby d13_22 N10 g_r ?_
  intro T14 h14 lo14 X14 e14 N14 W14 F14 z14
  have C15 := C11.trans (CHr.wr W14 (Safe.exa hZ5.alike f12 (by decide) (by decide)) C11.1)
  have K16 : Keep h0 h14 [r] := ((((Keep.refl h0 [r]).trans K5 all0).wr W10 (Or.inl (List.mem_of_getElem? (i := 0) rfl))).wr W14 (Or.inl (List.mem_of_getElem? (i := 0) rfl)))
  have f17 : Exa Z h14 r "com/example/tiny_context/tinycontext/Resource" := (f12.wr W14)
  have f18 : Fld Z h14 r "com/example/tiny_context/tinycontext/Resource" "id" "Ljava/lang/String;" (.ref x) := (F10.other W14 (Or.inr (slot_ne (Or.inr (own_w hw 101 rfl)) (Or.inr (own_w hw 103 rfl)) (by decide) (t := (.object "java/lang/String")) (t' := (.object "java/lang/Object")) (by decide) (by decide))))
  obtain ⟨fs, hr, hrun, hended, hRW⟩ := X14.leaveW hS5 (by rw [e14]; omega) (v := none) (fun _ => rfl)
  have hCf : CHr Z consts_1 s.vm s.heap T14.vm T14.heap := by
    rw [hh, e14]
    exact C15.trans (CHv.at X14 hZ5 hEL C15.1)
  refine own_ret (t := T14.setFrames fs) ?_ ⟨_, hrun, hended, _, _, rfl, ?_, hCf, hRW.1, hRW.2.1, hRW.2.2.1, hRW.2.2.2.mono (by decide) (by decide)⟩
  · exact X14.returnOut hx Bd.returns (hb hby d13_25) hr
  · show Q_resInit4 Z r v x t kb zc fm c0 h0 n0 _ T14.heap _
    rw [e14]
    exact ⟨rfl, N14, K16, f17, f18, F14⟩
theorem ef_resInit3 (m : MethodId) (x0 : Nat) (x1 : Nat) (x2 : Nat) : entryFrame m #[(.ref x0), (.ref x1), (.ref x2)] 3 = mkF m 0 #[.val (.ref x0), .val (.ref x1), .val (.ref x2)] [] := by first | (simp [entryFrame, mkF, argsToLocals, Value.category]; done) | rfl
theorem pn_12 : plainName "com/example/tiny_context/tinycontext/Resource" = true := by first | (simp [plainName, overriddenIn]; done) | decide +kernel
theorem d12_0 : decode prog_37_method_2_code 0 = .ok (.aload_n 0, 1) := by decide +kernel
theorem d12_1 : decode prog_37_method_2_code 1 = .ok (.aload_n 1, 1) := by decide +kernel
theorem d12_2 : decode prog_37_method_2_code 2 = .ok (.aload_n 2, 1) := by decide +kernel
theorem d12_3 : decode prog_37_method_2_code 3 = .ok (.iconst 0, 1) := by decide +kernel
theorem d12_4 : decode prog_37_method_2_code 4 = .ok (.invokespecial 7, 3) := by decide +kernel
theorem pd_14 : parseMethodDescriptor "(Ljava/lang/String;Ljava/lang/Object;Z)V" = some ⟨[(.object "java/lang/String"), (.object "java/lang/Object"), .boolean], none⟩ := by decide +kernel
theorem d12_7 : decode prog_37_method_2_code 7 = .ok (.return_, 1) := by decide +kernel
def Q_resInit3 (Z : State) (r : Nat) (v : Nat) (x : Nat) (t : Nat) (kb : ClassId) (zc : Int32) (fm : Value) (c0 : Int32) (h0 : Heap) (n0 : Nat) (vR : Option Value) (hR : Heap) (LR : List Loc) : Prop := vR = none ∧ Fr n0 LR ∧ Keep h0 hR [r] ∧ (Exa Z hR r "com/example/tiny_context/tinycontext/Resource") ∧ (Fld Z hR r "com/example/tiny_context/tinycontext/Resource" "id" "Ljava/lang/String;" (.ref x)) ∧ (Fld Z hR r "com/example/tiny_context/tinycontext/Resource" "value" "Ljava/lang/Object;" (.ref v))
set_option maxRecDepth 65536 in
set_option maxHeartbeats 40000000 in
theorem resInit3 (l : Launch) (Z : State) (a0 : Array Value) (hw : ∀ d ∈ tables_1, d.before a0 Z = true) (ws : List Jvm.Cond) (r : Nat) (v : Nat) (x : Nat) (t : Nat) (kb : ClassId) (zc : Int32) (fm : Value) (c0 : Int32) (h0 : Heap) (n0 : Nat) (Z0 : n0 ≤ h0.size) (E_r : Exa Z h0 r "com/example/tiny_context/tinycontext/Resource") (g_r : n0 ≤ r) (F_id_r : Fld Z h0 r "com/example/tiny_context/tinycontext/Resource" "id" "Ljava/lang/String;" .null) (F_value_r : Fld Z h0 r "com/example/tiny_context/tinycontext/Resource" "value" "Ljava/lang/Object;" .null) (E_x : Exa Z h0 x "java/lang/String") (F_coder_x : Fld Z h0 x "java/lang/String" "coder" "B" (.int 0)) (F_value_x : Fld Z h0 x "java/lang/String" "value" "[B" (.ref t)) (V_t : Arv Z h0 t kb .byte (1 : Int32) [(.int (c0.toInt8.toInt32))] (.int 0)) (S_COMPACT : Sta Z h0 "java/lang/String" "COMPACT_STRINGS" "Z" (.int zc)) (hz : ¬ (zc = (0 : Int32))) (S_FM : Sta Z h0 "jdk/internal/util/Preconditions" "SIOOBE_FORMATTER" "Ljava/util/function/BiFunction;" fm) (hfm : fm.isRef = true) (h0_c0 : ¬ (c0 < (0 : Int32))) (h1_c0 : ¬ ((255 : Int32) < c0)) (h46 : ¬ (c0 = (46 : Int32))) (h32 : (32 : Int32) < c0) (h126 : ¬ ((126 : Int32) < c0)) :
    own_MH l (⟨"com/example/tiny_context/tinycontext/Resource", "<init>", "(Ljava/lang/String;Ljava/lang/Object;)V"⟩ : MethodName) prog_37_method_2_code 3 none ws ({ frames := 6, cells := 2, slots := 48, locals := 86 } : Room) Z #[(.ref r), (.ref x), (.ref v)] h0 (Q_resInit3 Z r v x t kb zc fm c0 h0 n0) consts_1 := by
  refine own_bodyH (own := "com/example/tiny_context/tinycontext/Resource") rfl (plainFor_of_name pn_12) (fun m => ef_resInit3 m r x v) ?_
  intro p e s m below meth c s₁ Bd hml hZ hh hx hby hown X0 e0 hS0 CH0
  have N0 := Fr.nil n0
  have hk0 : h0.size ≤ h0.size := Nat.le_refl _
  have Y0 : Stand p l e ({ frames := 6, cells := 2, slots := 48, locals := 86 } : Room) (s.setVm s.vm) m #[(.ref r), (.ref x), (.ref v)] below meth c s₁ [] 0 0 := X0
  have hEL := own_EW hw
  have C0 := CHr.refl CH0
  have lt1 : h0.size > r := E_r.lt
  have lt2 : h0.size > x := E_x.lt
  have lt3 : h0.size > t := V_t.lt
  refine own_aloadN Y0.here hx hby d12_0 rfl rfl ?_
  refine own_aloadN Y0.here hx hby d12_1 rfl rfl ?_
  refine own_aloadN Y0.here hx hby d12_2 rfl rfl ?_
  refine own_iconst Y0.here hx hby d12_3 (v := (0 : Int32)) (by decide) ?_
  refine own_specialH Y0 hx hZ hEL rfl hown (own_w hw 55 rfl) (own_w hw 56 rfl) (own_w hw 51 rfl) (own_w hw 57 rfl) (by decide) (resInit4 l Z a0 hw [] r v x t kb zc fm c0 h0 n0 Z0 E_r g_r F_id_r F_value_r E_x F_coder_x F_value_x V_t S_COMPACT hz S_FM hfm h0_c0 h1_c0 h46 h32 h126) 0 (Nat.le_of_eq rfl) (by decide) (by decide) (by rw [hml]; rfl) (argsL := [(.ref x), (.ref v), (.int 0)]) (st := []) (a := r) (lenOf pd_14 rfl) rfl rfl (by decide) (by decide) e0 hby C0.1 hS0 (by omega) d12_4 ?_
  intro T4 v4 L4 vm4 X4 hS4 hZ4 hown4 hg4 Cn4 hQ4
  obtain ⟨rfl, Nq4, K4, P4_0, P4_1, P4_2⟩ := hQ4
  have N4 := Fr.app N0 Nq4
  have z5 : h0.size ≤ T4.heap.size := K4.1
  have C6 := C0.trans Cn4
  have lt7 : T4.heap.size > r := P4_0.lt
  refine own_sh (T := T4) 7 #[.val (.ref r), .val (.ref x), .val (.ref v)] [] ?_
  have K8 : Keep h0 T4.heap [r] := ((Keep.refl h0 [r]).trans K4 (allS (P := fun xq_ => xq_ ∈ [r] ∨ h0.size ≤ xq_) (Or.inl (List.mem_of_getElem? (i := 0) rfl)) all0))
  obtain ⟨fs, hr, hrun, hended, hRW⟩ := X4.leaveW hS4 (by omega) (v := none) (fun _ => rfl)
  have hCf : CHr Z consts_1 s.vm s.heap T4.vm T4.heap := by
    rw [hh]
    exact C6.trans (CHv.at X4 hZ4 hEL C6.1)
  refine own_ret (t := T4.setFrames fs) ?_ ⟨_, hrun, hended, _, _, rfl, ?_, hCf, hRW.1, hRW.2.1, hRW.2.2.1, hRW.2.2.2.mono (by decide) (by decide)⟩
  · exact X4.returnOut hx Bd.returns (hb hby d12_7) hr
  · show Q_resInit3 Z r v x t kb zc fm c0 h0 n0 _ T4.heap _
    exact ⟨rfl, N4, K8, P4_0, P4_1, P4_2⟩
theorem ef_resValue (m : MethodId) (x0 : Nat) : entryFrame m #[(.ref x0)] 1 = mkF m 0 #[.val (.ref x0)] [] := by first | (simp [entryFrame, mkF, argsToLocals, Value.category]; done) | rfl
theorem pn_24 : plainName "com/example/tiny_context/tinycontext/Resource" = true := by first | (simp [plainName, overriddenIn]; done) | decide +kernel
theorem d24_0 : decode prog_37_method_5_code 0 = .ok (.aload_n 0, 1) := by decide +kernel
theorem d24_1 : decode prog_37_method_5_code 1 = .ok (.getfield 23, 3) := by decide +kernel
theorem d24_4 : decode prog_37_method_5_code 4 = .ok (.areturn, 1) := by decide +kernel
def Q_resValue (Z : State) (r : Nat) (v : Nat) (h0 : Heap) (n0 : Nat) (vR : Option Value) (hR : Heap) (LR : List Loc) : Prop := vR = some (.ref v) ∧ Fr n0 LR ∧ hR = h0
set_option maxRecDepth 65536 in
set_option maxHeartbeats 40000000 in
theorem resValue (l : Launch) (Z : State) (a0 : Array Value) (hw : ∀ d ∈ tables_1, d.before a0 Z = true) (ws : List Jvm.Cond) (r : Nat) (v : Nat) (h0 : Heap) (n0 : Nat) (Z0 : n0 ≤ h0.size) (F_value_r : Fld Z h0 r "com/example/tiny_context/tinycontext/Resource" "value" "Ljava/lang/Object;" (.ref v)) :
    own_M l (⟨"com/example/tiny_context/tinycontext/Resource", "value", "()Ljava/lang/Object;"⟩ : MethodName) prog_37_method_5_code 1 (some (.object "java/lang/Object")) ws ({ frames := 0, cells := 0, slots := 0, locals := 0 } : Room) Z #[(.ref r)] h0 (Q_resValue Z r v h0 n0) := by
  refine own_body (own := "com/example/tiny_context/tinycontext/Resource") rfl (plainFor_of_name pn_24) (fun m => ef_resValue m r) ?_
  intro p e s m below meth c s₁ Bd hml hZ hh hx hby hown X0 e0
  have N0 := Fr.nil n0
  have lt1 : h0.size > r := F_value_r.lt
  refine own_aloadN X0.here hx hby d24_0 rfl rfl ?_
  refine own_getF X0 hx hZ hown (host := "") (Or.inl (own_w hw 102 rfl)) Via.refl e0 F_value_r hby d24_1 ?_
  intro T2 X2 e2
  obtain ⟨fs, hr, hrun, hended, hW, hsame⟩ := X2.leave (v := some (.ref v)) (fun h => by rw [Bd.returns] at h; cases h)
  refine own_ret (t := T2.setFrames fs) ?_ ⟨_, hrun, hended, _, _, rfl, ?_, ⟨_, rfl⟩, hW, hsame.mono (by decide) (by decide)⟩
  · exact retOut X2 hx Bd.returns rfl (Or.inr (Or.inr (Or.inr (Or.inr ⟨rfl, rfl, rfl⟩)))) (hb hby d24_4) hr
  · show Q_resValue Z r v h0 n0 _ T2.heap _
    rw [e2]
    exact ⟨rfl, N0, rfl⟩
theorem ef_accValue (m : MethodId) (x0 : Nat) (x1 : Nat) : entryFrame m #[(.ref x0), (.ref x1)] 4 = mkF m 0 #[.val (.ref x0), .val (.ref x1), .unset, .unset] [] := by first | (simp [entryFrame, mkF, argsToLocals, Value.category]; done) | rfl
theorem pn_23 : plainName "com/example/tiny_context/tinycontext/account/Accounts" = true := by first | (simp [plainName, overriddenIn]; done) | decide +kernel
theorem d23_0 : decode prog_51_method_3_code 0 = .ok (.aload_n 0, 1) := by decide +kernel
theorem d23_1 : decode prog_51_method_3_code 1 = .ok (.invokevirtual 15, 3) := by decide +kernel
theorem pd_15 : parseMethodDescriptor "()Ljava/lang/Object;" = some ⟨[], some (.object "java/lang/Object")⟩ := by decide +kernel
theorem d23_4 : decode prog_51_method_3_code 4 = .ok (.astore_n 3, 1) := by decide +kernel
theorem d23_5 : decode prog_51_method_3_code 5 = .ok (.aload_n 3, 1) := by decide +kernel
theorem d23_6 : decode prog_51_method_3_code 6 = .ok (.instanceof 21, 3) := by decide +kernel
theorem d23_9 : decode prog_51_method_3_code 9 = .ok (.ifCond .eq 10, 3) := by decide +kernel
theorem d23_12 : decode prog_51_method_3_code 12 = .ok (.aload_n 3, 1) := by decide +kernel
theorem d23_13 : decode prog_51_method_3_code 13 = .ok (.checkcast 21, 3) := by decide +kernel
theorem d23_16 : decode prog_51_method_3_code 16 = .ok (.astore_n 2, 1) := by decide +kernel
theorem d23_17 : decode prog_51_method_3_code 17 = .ok (.aload_n 2, 1) := by decide +kernel
theorem d23_18 : decode prog_51_method_3_code 18 = .ok (.areturn, 1) := by decide +kernel
def Q_accValue (Z : State) (r : Nat) (v : Nat) (o2 : Nat) (h0 : Heap) (n0 : Nat) (vR : Option Value) (hR : Heap) (LR : List Loc) : Prop := vR = some (.ref v) ∧ Fr n0 LR ∧ hR = h0
set_option maxRecDepth 65536 in
set_option maxHeartbeats 40000000 in
theorem accValue (l : Launch) (Z : State) (a0 : Array Value) (hw : ∀ d ∈ tables_1, d.before a0 Z = true) (ws : List Jvm.Cond) (r : Nat) (v : Nat) (o2 : Nat) (h0 : Heap) (n0 : Nat) (Z0 : n0 ≤ h0.size) (E_r : Exa Z h0 r "com/example/tiny_context/tinycontext/Resource") (F_value_r : Fld Z h0 r "com/example/tiny_context/tinycontext/Resource" "value" "Ljava/lang/Object;" (.ref v)) (E_v : Exa Z h0 v "java/lang/String") :
    own_M l (⟨"com/example/tiny_context/tinycontext/account/Accounts", "value", "(Lcom/example/tiny_context/tinycontext/Resource;Ljava/lang/String;)Ljava/lang/String;"⟩ : MethodName) prog_51_method_3_code 4 (some (.object "java/lang/String")) ws ({ frames := 1, cells := 0, slots := 0, locals := 12 } : Room) Z #[(.ref r), (.ref o2)] h0 (Q_accValue Z r v o2 h0 n0) := by
  refine own_body (own := "com/example/tiny_context/tinycontext/account/Accounts") rfl (plainFor_of_name pn_23) (fun m => ef_accValue m r o2) ?_
  intro p e s m below meth c s₁ Bd hml hZ hh hx hby hown X0 e0
  have N0 := Fr.nil n0
  have lt1 : h0.size > r := E_r.lt
  have lt3 : h0.size > v := E_v.lt
  refine own_aloadN X0.here hx hby d23_0 rfl rfl ?_
  refine own_virtual X0 hx hZ hown (own_w hw 108 rfl) (own_w hw 109 rfl) (notFace_of_selects (args := #[]) (mvT hZ (own_w hw 111 rfl))) (own_w hw 111 rfl) (own_w hw 110 rfl) (own_w hw 51 rfl) (own_w hw 112 rfl) (by decide) (resValue l Z a0 hw [] r v h0 n0 Z0 F_value_r) 0 (Nat.le_of_eq rfl) (by decide) (by decide) (by rw [hml]; rfl) (argsL := []) (st := []) E_r (lenOf pd_15 rfl) rfl rfl (by decide) (by decide) e0 hby d23_1 ?_
  intro T4 v4 L4 X4 hQ4
  obtain ⟨rfl, Nq4, eh4⟩ := hQ4
  have N4 := Fr.app N0 Nq4
  refine own_sh (T := T4) 4 #[.val (.ref r), .val (.ref o2), .unset, .unset] [(.ref v)] ?_
  refine own_astoreN X4.here hx hby d23_4 rfl (l' := #[.val (.ref r), .val (.ref o2), .unset, .val (.ref v)]) rfl ?_
  refine own_aloadN X4.here hx hby d23_5 rfl rfl ?_
  refine own_instY X4 hx hZ hown (own_w hw 113 rfl) eh4 (Ins.self E_v) hby d23_6 ?_
  intro T5 X5 e5
  refine own_ifNo X5.here hx hby d23_9 ((if0 _ _).trans (feq (show ¬ ((1 : Int32) = (0 : Int32)) from (by decide))).1) ?_
  refine own_aloadN X5.here hx hby d23_12 rfl rfl ?_
  refine own_castY X5 hx hZ hown (own_w hw 113 rfl) e5 (Ins.self E_v) hby d23_13 ?_
  intro T6 X6 e6
  refine own_astoreN X6.here hx hby d23_16 rfl (l' := #[.val (.ref r), .val (.ref o2), .val (.ref v), .val (.ref v)]) rfl ?_
  refine own_aloadN X6.here hx hby d23_17 rfl rfl ?_
  obtain ⟨fs, hr, hrun, hended, hW, hsame⟩ := X6.leave (v := some (.ref v)) (fun h => by rw [Bd.returns] at h; cases h)
  refine own_ret (t := T6.setFrames fs) ?_ ⟨_, hrun, hended, _, _, rfl, ?_, ⟨_, rfl⟩, hW, hsame.mono (by decide) (by decide)⟩
  · exact retOut X6 hx Bd.returns rfl (Or.inr (Or.inr (Or.inr (Or.inr ⟨rfl, rfl, rfl⟩)))) (hb hby d23_18) hr
  · show Q_accValue Z r v o2 h0 n0 _ T6.heap _
    rw [e6]
    exact ⟨rfl, N4, rfl⟩
def Q_strLen_0 (Z : State) (x : Nat) (t : Nat) (kb : ClassId) (zc : Int32) (vs_ : List Value) (h0 : Heap) (n0 : Nat) (vR : Option Value) (hR : Heap) (LR : List Loc) : Prop := vR = some (.int 0) ∧ Fr n0 LR ∧ hR = h0
set_option maxRecDepth 65536 in
set_option maxHeartbeats 40000000 in
theorem strLen_0 (l : Launch) (Z : State) (a0 : Array Value) (hw : ∀ d ∈ tables_1, d.before a0 Z = true) (ws : List Jvm.Cond) (x : Nat) (t : Nat) (kb : ClassId) (zc : Int32) (vs_ : List Value) (h0 : Heap) (n0 : Nat) (Z0 : n0 ≤ h0.size) (E_x : Exa Z h0 x "java/lang/String") (F_coder_x : Fld Z h0 x "java/lang/String" "coder" "B" (.int 0)) (F_value_x : Fld Z h0 x "java/lang/String" "value" "[B" (.ref t)) (V_t : Arv Z h0 t kb .byte (0 : Int32) vs_ (.int 0)) (S_COMPACT : Sta Z h0 "java/lang/String" "COMPACT_STRINGS" "Z" (.int zc)) (hz : ¬ (zc = (0 : Int32))) :
    own_M l (⟨"java/lang/String", "length", "()I"⟩ : MethodName) jdk_42_method_54_code 1 (some .int) ws ({ frames := 1, cells := 0, slots := 0, locals := 13 } : Room) Z #[(.ref x)] h0 (Q_strLen_0 Z x t kb zc vs_ h0 n0) := by
  refine own_body (own := "java/lang/String") rfl (plainFor_of_name pn_16) (fun m => ef_strLen_1 m x) ?_
  intro p e s m below meth c s₁ Bd hml hZ hh hx hby hown X0 e0
  have N0 := Fr.nil n0
  have lt1 : h0.size > x := E_x.lt
  have lt2 : h0.size > t := V_t.lt
  refine own_aloadN X0.here hx hby d16_0 rfl rfl ?_
  refine own_getF X0 hx hZ hown (host := "") (Or.inl (own_w hw 23 rfl)) Via.refl e0 F_value_x hby d16_1 ?_
  intro T3 X3 e3
  refine own_alen X3 hx hZ e3 V_t hby d16_4 ?_
  refine own_aloadN X3.here hx hby d16_5 rfl rfl ?_
  refine own_virtual X3 hx hZ hown (own_w hw 74 rfl) (own_w hw 75 rfl) (notFace_of_selects (args := #[]) (mvT hZ (own_w hw 77 rfl))) (own_w hw 77 rfl) (own_w hw 76 rfl) (own_w hw 3 rfl) (own_w hw 78 rfl) (by decide) (strCoder l Z a0 hw [] x zc h0 n0 Z0 F_coder_x S_COMPACT hz) 1 (Nat.le_of_eq rfl) (by decide) (by decide) (by rw [hml]; rfl) (argsL := []) (st := [(.int 0)]) E_x (lenOf pd_5 rfl) rfl rfl (by decide) (by decide) e3 hby d16_6 ?_
  intro T4 v4 L4 X4 hQ4
  obtain ⟨rfl, Nq4, eh4⟩ := hQ4
  have N4 := Fr.app N0 Nq4
  refine own_sh (T := T4) 9 #[.val (.ref x)] [(.int 0), (.int 0)] ?_
  refine own_ishr X4.here hx hby d16_9 (v := (0 : Int32)) (by decide) ?_
  obtain ⟨fs, hr, hrun, hended, hW, hsame⟩ := X4.leave (v := some (.int 0)) (fun h => by rw [Bd.returns] at h; cases h)
  refine own_ret (t := T4.setFrames fs) ?_ ⟨_, hrun, hended, _, _, rfl, ?_, ⟨_, rfl⟩, hW, hsame.mono (by decide) (by decide)⟩
  · exact retOut X4 hx Bd.returns rfl (Or.inl ⟨rfl, Or.inl rfl, _, rfl⟩) (hb hby d16_10) hr
  · show Q_strLen_0 Z x t kb zc vs_ h0 n0 _ T4.heap _
    rw [eh4]
    exact ⟨rfl, N4, rfl⟩
theorem ef_l1Eq_0 (m : MethodId) (x0 : Nat) (x1 : Nat) : entryFrame m #[(.ref x0), (.ref x1)] 3 = mkF m 0 #[.val (.ref x0), .val (.ref x1), .unset] [] := by first | (simp [entryFrame, mkF, argsToLocals, Value.category]; done) | rfl
theorem pn_26 : plainName "java/lang/StringLatin1" = true := by first | (simp [plainName, overriddenIn]; done) | decide +kernel
theorem d26_0 : decode jdk_43_method_13_code 0 = .ok (.aload_n 0, 1) := by decide +kernel
theorem d26_1 : decode jdk_43_method_13_code 1 = .ok (.arraylength, 1) := by decide +kernel
theorem d26_2 : decode jdk_43_method_13_code 2 = .ok (.aload_n 1, 1) := by decide +kernel
theorem d26_3 : decode jdk_43_method_13_code 3 = .ok (.arraylength, 1) := by decide +kernel
theorem d26_4 : decode jdk_43_method_13_code 4 = .ok (.if_icmp .ne 30, 3) := by decide +kernel
theorem d26_7 : decode jdk_43_method_13_code 7 = .ok (.iconst 0, 1) := by decide +kernel
theorem d26_8 : decode jdk_43_method_13_code 8 = .ok (.istore_n 2, 1) := by decide +kernel
theorem d26_9 : decode jdk_43_method_13_code 9 = .ok (.iload_n 2, 1) := by decide +kernel
theorem d26_10 : decode jdk_43_method_13_code 10 = .ok (.aload_n 0, 1) := by decide +kernel
theorem d26_11 : decode jdk_43_method_13_code 11 = .ok (.arraylength, 1) := by decide +kernel
theorem d26_12 : decode jdk_43_method_13_code 12 = .ok (.if_icmp .ge 20, 3) := by decide +kernel
theorem d26_32 : decode jdk_43_method_13_code 32 = .ok (.iconst 1, 1) := by decide +kernel
theorem d26_33 : decode jdk_43_method_13_code 33 = .ok (.ireturn, 1) := by decide +kernel
def Q_l1Eq_0 (Z : State) (t : Nat) (t2 : Nat) (kb : ClassId) (kc : ClassId) (h0 : Heap) (n0 : Nat) (vR : Option Value) (hR : Heap) (LR : List Loc) : Prop := vR = some (.int 1) ∧ Fr n0 LR ∧ hR = h0
set_option maxRecDepth 65536 in
set_option maxHeartbeats 40000000 in
theorem l1Eq_0 (l : Launch) (Z : State) (a0 : Array Value) (hw : ∀ d ∈ tables_1, d.before a0 Z = true) (ws : List Jvm.Cond) (t : Nat) (t2 : Nat) (kb : ClassId) (kc : ClassId) (h0 : Heap) (n0 : Nat) (Z0 : n0 ≤ h0.size) (V_t : Arv Z h0 t kb .byte (0 : Int32) [] (.int 0)) (V_t2 : Arv Z h0 t2 kc .byte (0 : Int32) [] (.int 0)) :
    own_M l (⟨"java/lang/StringLatin1", "equals", "([B[B)Z"⟩ : MethodName) jdk_43_method_13_code 3 (some .boolean) ws ({ frames := 0, cells := 0, slots := 0, locals := 0 } : Room) Z #[(.ref t), (.ref t2)] h0 (Q_l1Eq_0 Z t t2 kb kc h0 n0) := by
  refine own_body (own := "java/lang/StringLatin1") rfl (plainFor_of_name pn_26) (fun m => ef_l1Eq_0 m t t2) ?_
  intro p e s m below meth c s₁ Bd hml hZ hh hx hby hown X0 e0
  have N0 := Fr.nil n0
  have lt1 : h0.size > t := V_t.lt
  have lt3 : h0.size > t2 := V_t2.lt
  refine own_aloadN X0.here hx hby d26_0 rfl rfl ?_
  refine own_alen X0 hx hZ e0 V_t hby d26_1 ?_
  refine own_aloadN X0.here hx hby d26_2 rfl rfl ?_
  refine own_alen X0 hx hZ e0 V_t2 hby d26_3 ?_
  refine own_icmpNo X0.here hx hby d26_4 (teq (show (0 : Int32) = (0 : Int32) from (by decide))).2 ?_
  refine own_iconst X0.here hx hby d26_7 (v := (0 : Int32)) (by decide) ?_
  refine own_istoreN X0.here hx hby d26_8 (l' := #[.val (.ref t), .val (.ref t2), .val (.int 0)]) rfl ?_
  refine own_iloadN X0.here hx hby d26_9 rfl ?_
  refine own_aloadN X0.here hx hby d26_10 rfl rfl ?_
  refine own_alen X0 hx hZ e0 V_t hby d26_11 ?_
  refine own_icmpYes X0.here hx hby (pc' := 32) d26_12 (flt (show ¬ ((0 : Int32) < (0 : Int32)) from (by decide))).2.1 (by decide) (by decide) ?_
  refine own_iconst X0.here hx hby d26_32 (v := (1 : Int32)) (by decide) ?_
  obtain ⟨fs, hr, hrun, hended, hW, hsame⟩ := X0.leave (v := some (.int 1)) (fun h => by rw [Bd.returns] at h; cases h)
  refine own_ret (t := s₁.setFrames fs) ?_ ⟨_, hrun, hended, _, _, rfl, ?_, ⟨_, rfl⟩, hW, hsame.mono (by decide) (by decide)⟩
  · exact retN X0 hx (t := .boolean) Bd.returns (by simp) (hb hby d26_33) hr
  · show Q_l1Eq_0 Z t t2 kb kc h0 n0 _ s₁.heap _
    rw [e0]
    exact ⟨rfl, N0, rfl⟩
theorem ef_strEq_0 (m : MethodId) (x0 : Nat) (x1 : Nat) : entryFrame m #[(.ref x0), (.ref x1)] 3 = mkF m 0 #[.val (.ref x0), .val (.ref x1), .unset] [] := by first | (simp [entryFrame, mkF, argsToLocals, Value.category]; done) | rfl
theorem pn_25 : plainName "java/lang/String" = true := by first | (simp [plainName, overriddenIn]; done) | decide +kernel
theorem d25_0 : decode jdk_42_method_66_code 0 = .ok (.aload_n 0, 1) := by decide +kernel
theorem d25_1 : decode jdk_42_method_66_code 1 = .ok (.aload_n 1, 1) := by decide +kernel
theorem d25_2 : decode jdk_42_method_66_code 2 = .ok (.if_acmp .ne 5, 3) := by decide +kernel
theorem d25_7 : decode jdk_42_method_66_code 7 = .ok (.aload_n 1, 1) := by decide +kernel
theorem d25_8 : decode jdk_42_method_66_code 8 = .ok (.instanceof 10, 3) := by decide +kernel
theorem d25_11 : decode jdk_42_method_66_code 11 = .ok (.ifCond .eq 43, 3) := by decide +kernel
theorem d25_14 : decode jdk_42_method_66_code 14 = .ok (.aload_n 1, 1) := by decide +kernel
theorem d25_15 : decode jdk_42_method_66_code 15 = .ok (.checkcast 10, 3) := by decide +kernel
theorem d25_18 : decode jdk_42_method_66_code 18 = .ok (.astore_n 2, 1) := by decide +kernel
theorem d25_19 : decode jdk_42_method_66_code 19 = .ok (.getstatic 38, 3) := by decide +kernel
theorem d25_22 : decode jdk_42_method_66_code 22 = .ok (.ifCond .eq 14, 3) := by decide +kernel
theorem d25_25 : decode jdk_42_method_66_code 25 = .ok (.aload_n 0, 1) := by decide +kernel
theorem d25_26 : decode jdk_42_method_66_code 26 = .ok (.getfield 15, 3) := by decide +kernel
theorem d25_29 : decode jdk_42_method_66_code 29 = .ok (.aload_n 2, 1) := by decide +kernel
theorem d25_30 : decode jdk_42_method_66_code 30 = .ok (.getfield 15, 3) := by decide +kernel
theorem d25_33 : decode jdk_42_method_66_code 33 = .ok (.if_icmp .ne 21, 3) := by decide +kernel
theorem d25_36 : decode jdk_42_method_66_code 36 = .ok (.aload_n 0, 1) := by decide +kernel
theorem d25_37 : decode jdk_42_method_66_code 37 = .ok (.getfield 9, 3) := by decide +kernel
theorem d25_40 : decode jdk_42_method_66_code 40 = .ok (.aload_n 2, 1) := by decide +kernel
theorem d25_41 : decode jdk_42_method_66_code 41 = .ok (.getfield 9, 3) := by decide +kernel
theorem d25_44 : decode jdk_42_method_66_code 44 = .ok (.invokestatic 541, 3) := by decide +kernel
theorem pd_16 : parseMethodDescriptor "([B[B)Z" = some ⟨[(.array .byte), (.array .byte)], some .boolean⟩ := by decide +kernel
theorem d25_47 : decode jdk_42_method_66_code 47 = .ok (.ifCond .eq 7, 3) := by decide +kernel
theorem d25_50 : decode jdk_42_method_66_code 50 = .ok (.iconst 1, 1) := by decide +kernel
theorem d25_51 : decode jdk_42_method_66_code 51 = .ok (.goto 4, 3) := by decide +kernel
theorem d25_55 : decode jdk_42_method_66_code 55 = .ok (.ireturn, 1) := by decide +kernel
def Q_strEq_0 (Z : State) (x : Nat) (x2 : Nat) (t : Nat) (t2 : Nat) (kb : ClassId) (kc : ClassId) (zc : Int32) (h0 : Heap) (n0 : Nat) (vR : Option Value) (hR : Heap) (LR : List Loc) : Prop := vR = some (.int 1) ∧ Fr n0 LR ∧ hR = h0
set_option maxRecDepth 65536 in
set_option maxHeartbeats 40000000 in
theorem strEq_0 (l : Launch) (Z : State) (a0 : Array Value) (hw : ∀ d ∈ tables_1, d.before a0 Z = true) (ws : List Jvm.Cond) (x : Nat) (x2 : Nat) (t : Nat) (t2 : Nat) (kb : ClassId) (kc : ClassId) (zc : Int32) (h0 : Heap) (n0 : Nat) (Z0 : n0 ≤ h0.size) (E_x : Exa Z h0 x "java/lang/String") (E_x2 : Exa Z h0 x2 "java/lang/String") (hne : x ≠ x2) (F_coder_x : Fld Z h0 x "java/lang/String" "coder" "B" (.int 0)) (F_value_x : Fld Z h0 x "java/lang/String" "value" "[B" (.ref t)) (V_t : Arv Z h0 t kb .byte (0 : Int32) [] (.int 0)) (F_coder_x2 : Fld Z h0 x2 "java/lang/String" "coder" "B" (.int 0)) (F_value_x2 : Fld Z h0 x2 "java/lang/String" "value" "[B" (.ref t2)) (V_t2 : Arv Z h0 t2 kc .byte (0 : Int32) [] (.int 0)) (S_COMPACT : Sta Z h0 "java/lang/String" "COMPACT_STRINGS" "Z" (.int zc)) (hz : ¬ (zc = (0 : Int32))) :
    own_M l (⟨"java/lang/String", "equals", "(Ljava/lang/Object;)Z"⟩ : MethodName) jdk_42_method_66_code 3 (some .boolean) ws ({ frames := 1, cells := 0, slots := 0, locals := 14 } : Room) Z #[(.ref x), (.ref x2)] h0 (Q_strEq_0 Z x x2 t t2 kb kc zc h0 n0) := by
  refine own_body (own := "java/lang/String") rfl (plainFor_of_name pn_25) (fun m => ef_strEq_0 m x x2) ?_
  intro p e s m below meth c s₁ Bd hml hZ hh hx hby hown X0 e0
  have N0 := Fr.nil n0
  have lt1 : h0.size > x := E_x.lt
  have lt3 : h0.size > x2 := E_x2.lt
  have lt4 : h0.size > t := V_t.lt
  have lt5 : h0.size > t2 := V_t2.lt
  refine own_aloadN X0.here hx hby d25_0 rfl rfl ?_
  refine own_aloadN X0.here hx hby d25_1 rfl rfl ?_
  refine own_acmp X0 hx (same := false) (pc' := 7) hby d25_2 rfl rfl (decide_eq_false fun q => absurd (Value.ref.inj q) hne) (by decide) (by decide) ?_
  refine own_aloadN X0.here hx hby d25_7 rfl rfl ?_
  refine own_instY X0 hx hZ hown (own_w hw 10 rfl) e0 (Ins.self E_x2) hby d25_8 ?_
  intro T6 X6 e6
  refine own_ifNo X6.here hx hby d25_11 ((if0 _ _).trans (feq (show ¬ ((1 : Int32) = (0 : Int32)) from (by decide))).1) ?_
  refine own_aloadN X6.here hx hby d25_14 rfl rfl ?_
  refine own_castY X6 hx hZ hown (own_w hw 10 rfl) e6 (Ins.self E_x2) hby d25_15 ?_
  intro T7 X7 e7
  refine own_astoreN X7.here hx hby d25_18 rfl (l' := #[.val (.ref x), .val (.ref x2), .val (.ref x2)]) rfl ?_
  refine own_getS X7 hx hZ hown (host := "") (Or.inl (own_w hw 5 rfl)) Via.refl e7 S_COMPACT hby d25_19 ?_
  intro T8 X8 e8
  refine own_ifNo X8.here hx hby d25_22 ((if0 _ _).trans (feq hz).1) ?_
  refine own_aloadN X8.here hx hby d25_25 rfl rfl ?_
  refine own_getF X8 hx hZ hown (host := "") (Or.inl (own_w hw 25 rfl)) Via.refl e8 F_coder_x hby d25_26 ?_
  intro T9 X9 e9
  refine own_aloadN X9.here hx hby d25_29 rfl rfl ?_
  refine own_getF X9 hx hZ hown (host := "") (Or.inl (own_w hw 25 rfl)) Via.refl e9 F_coder_x2 hby d25_30 ?_
  intro T10 X10 e10
  refine own_icmpNo X10.here hx hby d25_33 (teq (show (0 : Int32) = (0 : Int32) from (by decide))).2 ?_
  refine own_aloadN X10.here hx hby d25_36 rfl rfl ?_
  refine own_getF X10 hx hZ hown (host := "") (Or.inl (own_w hw 23 rfl)) Via.refl e10 F_value_x hby d25_37 ?_
  intro T11 X11 e11
  refine own_aloadN X11.here hx hby d25_40 rfl rfl ?_
  refine own_getF X11 hx hZ hown (host := "") (Or.inl (own_w hw 23 rfl)) Via.refl e11 F_value_x2 hby d25_41 ?_
  intro T12 X12 e12
  refine own_callS X12 hx hZ hown (own_w hw 119 rfl) (own_w hw 120 rfl) (own_w hw 8 rfl) (own_w hw 121 rfl) (by decide) (l1Eq_0 l Z a0 hw [] t t2 kb kc h0 n0 Z0 V_t V_t2) 0 (Nat.le_of_eq rfl) (by decide) (by decide) (by rw [hml]; rfl) (argsL := [(.ref t), (.ref t2)]) (st := []) (lenOf pd_16 rfl) rfl rfl (by decide) (by decide) e12 hby d25_44 ?_
  intro T13 v13 L13 X13 hQ13
  obtain ⟨rfl, Nq13, eh13⟩ := hQ13
  have N13 := Fr.app N0 Nq13
  refine own_sh (T := T13) 47 #[.val (.ref x), .val (.ref x2), .val (.ref x2)] [(.int 1)] ?_
  refine own_ifNo X13.here hx hby d25_47 ((if0 _ _).trans (feq (show ¬ ((1 : Int32) = (0 : Int32)) from (by decide))).1) ?_
  refine own_iconst X13.here hx hby d25_50 (v := (1 : Int32)) (by decide) ?_
  refine own_goto X13.here hx hby (pc' := 55) d25_51 (by decide) (by decide) ?_
  obtain ⟨fs, hr, hrun, hended, hW, hsame⟩ := X13.leave (v := some (.int 1)) (fun h => by rw [Bd.returns] at h; cases h)
  refine own_ret (t := T13.setFrames fs) ?_ ⟨_, hrun, hended, _, _, rfl, ?_, ⟨_, rfl⟩, hW, hsame.mono (by decide) (by decide)⟩
  · exact retN X13 hx (t := .boolean) Bd.returns (by simp) (hb hby d25_55) hr
  · show Q_strEq_0 Z x x2 t t2 kb kc zc h0 n0 _ T13.heap _
    rw [eh13]
    exact ⟨rfl, N13, rfl⟩
theorem d26_15 : decode jdk_43_method_13_code 15 = .ok (.aload_n 0, 1) := by decide +kernel
theorem d26_16 : decode jdk_43_method_13_code 16 = .ok (.iload_n 2, 1) := by decide +kernel
theorem d26_17 : decode jdk_43_method_13_code 17 = .ok (.baload, 1) := by decide +kernel
theorem d26_18 : decode jdk_43_method_13_code 18 = .ok (.aload_n 1, 1) := by decide +kernel
theorem d26_19 : decode jdk_43_method_13_code 19 = .ok (.iload_n 2, 1) := by decide +kernel
theorem d26_20 : decode jdk_43_method_13_code 20 = .ok (.baload, 1) := by decide +kernel
theorem d26_21 : decode jdk_43_method_13_code 21 = .ok (.if_icmp .eq 5, 3) := by decide +kernel
theorem d26_26 : decode jdk_43_method_13_code 26 = .ok (.iinc 2 1, 3) := by decide +kernel
theorem d26_29 : decode jdk_43_method_13_code 29 = .ok (.goto (-20), 3) := by decide +kernel
def Q_l1Eq_1 (Z : State) (t : Nat) (t2 : Nat) (kb : ClassId) (kc : ClassId) (u0 : Int32) (h0 : Heap) (n0 : Nat) (vR : Option Value) (hR : Heap) (LR : List Loc) : Prop := vR = some (.int 1) ∧ Fr n0 LR ∧ hR = h0
set_option maxRecDepth 65536 in
set_option maxHeartbeats 40000000 in
theorem l1Eq_1 (l : Launch) (Z : State) (a0 : Array Value) (hw : ∀ d ∈ tables_1, d.before a0 Z = true) (ws : List Jvm.Cond) (t : Nat) (t2 : Nat) (kb : ClassId) (kc : ClassId) (u0 : Int32) (h0 : Heap) (n0 : Nat) (Z0 : n0 ≤ h0.size) (V_t : Arv Z h0 t kb .byte (1 : Int32) [(.int u0)] (.int 0)) (V_t2 : Arv Z h0 t2 kc .byte (1 : Int32) [(.int u0)] (.int 0)) :
    own_M l (⟨"java/lang/StringLatin1", "equals", "([B[B)Z"⟩ : MethodName) jdk_43_method_13_code 3 (some .boolean) ws ({ frames := 0, cells := 0, slots := 0, locals := 0 } : Room) Z #[(.ref t), (.ref t2)] h0 (Q_l1Eq_1 Z t t2 kb kc u0 h0 n0) := by
  refine own_body (own := "java/lang/StringLatin1") rfl (plainFor_of_name pn_26) (fun m => ef_l1Eq_0 m t t2) ?_
  intro p e s m below meth c s₁ Bd hml hZ hh hx hby hown X0 e0
  have N0 := Fr.nil n0
  have lt1 : h0.size > t := V_t.lt
  have lt3 : h0.size > t2 := V_t2.lt
  refine own_aloadN X0.here hx hby d26_0 rfl rfl ?_
  refine own_alen X0 hx hZ e0 V_t hby d26_1 ?_
  refine own_aloadN X0.here hx hby d26_2 rfl rfl ?_
  refine own_alen X0 hx hZ e0 V_t2 hby d26_3 ?_
  refine own_icmpNo X0.here hx hby d26_4 (teq (show (1 : Int32) = (1 : Int32) from (by decide))).2 ?_
  refine own_iconst X0.here hx hby d26_7 (v := (0 : Int32)) (by decide) ?_
  refine own_istoreN X0.here hx hby d26_8 (l' := #[.val (.ref t), .val (.ref t2), .val (.int 0)]) rfl ?_
  refine own_iloadN X0.here hx hby d26_9 rfl ?_
  refine own_aloadN X0.here hx hby d26_10 rfl rfl ?_
  refine own_alen X0 hx hZ e0 V_t hby d26_11 ?_
  refine own_icmpNo X0.here hx hby d26_12 (tlt (show (0 : Int32) < (1 : Int32) from (by decide))).2.1 ?_
  refine own_aloadN X0.here hx hby d26_15 rfl rfl ?_
  refine own_iloadN X0.here hx hby d26_16 rfl ?_
  refine own_baload X0 hx hZ e0 V_t ⟨by decide, by decide⟩ (v := (.int u0)) rfl hby d26_17 ?_
  refine own_aloadN X0.here hx hby d26_18 rfl rfl ?_
  refine own_iloadN X0.here hx hby d26_19 rfl ?_
  refine own_baload X0 hx hZ e0 V_t2 ⟨by decide, by decide⟩ (v := (.int u0)) rfl hby d26_20 ?_
  refine own_icmpYes X0.here hx hby (pc' := 26) d26_21 (teq (show u0 = u0 from rfl)).1 (by decide) (by decide) ?_
  refine own_iinc X0.here hx hby d26_26 rfl (v := (1 : Int32)) (by decide) (l' := #[.val (.ref t), .val (.ref t2), .val (.int 1)]) rfl ?_
  refine own_goto X0.here hx hby (pc' := 9) d26_29 (by decide) (by decide) ?_
  refine own_iloadN X0.here hx hby d26_9 rfl ?_
  refine own_aloadN X0.here hx hby d26_10 rfl rfl ?_
  refine own_alen X0 hx hZ e0 V_t hby d26_11 ?_
  refine own_icmpYes X0.here hx hby (pc' := 32) d26_12 (flt (show ¬ ((1 : Int32) < (1 : Int32)) from (by decide))).2.1 (by decide) (by decide) ?_
  refine own_iconst X0.here hx hby d26_32 (v := (1 : Int32)) (by decide) ?_
  obtain ⟨fs, hr, hrun, hended, hW, hsame⟩ := X0.leave (v := some (.int 1)) (fun h => by rw [Bd.returns] at h; cases h)
  refine own_ret (t := s₁.setFrames fs) ?_ ⟨_, hrun, hended, _, _, rfl, ?_, ⟨_, rfl⟩, hW, hsame.mono (by decide) (by decide)⟩
  · exact retN X0 hx (t := .boolean) Bd.returns (by simp) (hb hby d26_33) hr
  · show Q_l1Eq_1 Z t t2 kb kc u0 h0 n0 _ s₁.heap _
    rw [e0]
    exact ⟨rfl, N0, rfl⟩
def Q_strEq_1 (Z : State) (x : Nat) (x2 : Nat) (t : Nat) (t2 : Nat) (kb : ClassId) (kc : ClassId) (zc : Int32) (u0 : Int32) (h0 : Heap) (n0 : Nat) (vR : Option Value) (hR : Heap) (LR : List Loc) : Prop := vR = some (.int 1) ∧ Fr n0 LR ∧ hR = h0
set_option maxRecDepth 65536 in
set_option maxHeartbeats 40000000 in
theorem strEq_1 (l : Launch) (Z : State) (a0 : Array Value) (hw : ∀ d ∈ tables_1, d.before a0 Z = true) (ws : List Jvm.Cond) (x : Nat) (x2 : Nat) (t : Nat) (t2 : Nat) (kb : ClassId) (kc : ClassId) (zc : Int32) (u0 : Int32) (h0 : Heap) (n0 : Nat) (Z0 : n0 ≤ h0.size) (E_x : Exa Z h0 x "java/lang/String") (E_x2 : Exa Z h0 x2 "java/lang/String") (hne : x ≠ x2) (F_coder_x : Fld Z h0 x "java/lang/String" "coder" "B" (.int 0)) (F_value_x : Fld Z h0 x "java/lang/String" "value" "[B" (.ref t)) (V_t : Arv Z h0 t kb .byte (1 : Int32) [(.int u0)] (.int 0)) (F_coder_x2 : Fld Z h0 x2 "java/lang/String" "coder" "B" (.int 0)) (F_value_x2 : Fld Z h0 x2 "java/lang/String" "value" "[B" (.ref t2)) (V_t2 : Arv Z h0 t2 kc .byte (1 : Int32) [(.int u0)] (.int 0)) (S_COMPACT : Sta Z h0 "java/lang/String" "COMPACT_STRINGS" "Z" (.int zc)) (hz : ¬ (zc = (0 : Int32))) :
    own_M l (⟨"java/lang/String", "equals", "(Ljava/lang/Object;)Z"⟩ : MethodName) jdk_42_method_66_code 3 (some .boolean) ws ({ frames := 1, cells := 0, slots := 0, locals := 14 } : Room) Z #[(.ref x), (.ref x2)] h0 (Q_strEq_1 Z x x2 t t2 kb kc zc u0 h0 n0) := by
  refine own_body (own := "java/lang/String") rfl (plainFor_of_name pn_25) (fun m => ef_strEq_0 m x x2) ?_
  intro p e s m below meth c s₁ Bd hml hZ hh hx hby hown X0 e0
  have N0 := Fr.nil n0
  have lt1 : h0.size > x := E_x.lt
  have lt3 : h0.size > x2 := E_x2.lt
  have lt4 : h0.size > t := V_t.lt
  have lt5 : h0.size > t2 := V_t2.lt
  refine own_aloadN X0.here hx hby d25_0 rfl rfl ?_
  refine own_aloadN X0.here hx hby d25_1 rfl rfl ?_
  refine own_acmp X0 hx (same := false) (pc' := 7) hby d25_2 rfl rfl (decide_eq_false fun q => absurd (Value.ref.inj q) hne) (by decide) (by decide) ?_
  refine own_aloadN X0.here hx hby d25_7 rfl rfl ?_
  refine own_instY X0 hx hZ hown (own_w hw 10 rfl) e0 (Ins.self E_x2) hby d25_8 ?_
  intro T6 X6 e6
  refine own_ifNo X6.here hx hby d25_11 ((if0 _ _).trans (feq (show ¬ ((1 : Int32) = (0 : Int32)) from (by decide))).1) ?_
  refine own_aloadN X6.here hx hby d25_14 rfl rfl ?_
  refine own_castY X6 hx hZ hown (own_w hw 10 rfl) e6 (Ins.self E_x2) hby d25_15 ?_
  intro T7 X7 e7
  refine own_astoreN X7.here hx hby d25_18 rfl (l' := #[.val (.ref x), .val (.ref x2), .val (.ref x2)]) rfl ?_
  refine own_getS X7 hx hZ hown (host := "") (Or.inl (own_w hw 5 rfl)) Via.refl e7 S_COMPACT hby d25_19 ?_
  intro T8 X8 e8
  refine own_ifNo X8.here hx hby d25_22 ((if0 _ _).trans (feq hz).1) ?_
  refine own_aloadN X8.here hx hby d25_25 rfl rfl ?_
  refine own_getF X8 hx hZ hown (host := "") (Or.inl (own_w hw 25 rfl)) Via.refl e8 F_coder_x hby d25_26 ?_
  intro T9 X9 e9
  refine own_aloadN X9.here hx hby d25_29 rfl rfl ?_
  refine own_getF X9 hx hZ hown (host := "") (Or.inl (own_w hw 25 rfl)) Via.refl e9 F_coder_x2 hby d25_30 ?_
  intro T10 X10 e10
  refine own_icmpNo X10.here hx hby d25_33 (teq (show (0 : Int32) = (0 : Int32) from (by decide))).2 ?_
  refine own_aloadN X10.here hx hby d25_36 rfl rfl ?_
  refine own_getF X10 hx hZ hown (host := "") (Or.inl (own_w hw 23 rfl)) Via.refl e10 F_value_x hby d25_37 ?_
  intro T11 X11 e11
  refine own_aloadN X11.here hx hby d25_40 rfl rfl ?_
  refine own_getF X11 hx hZ hown (host := "") (Or.inl (own_w hw 23 rfl)) Via.refl e11 F_value_x2 hby d25_41 ?_
  intro T12 X12 e12
  refine own_callS X12 hx hZ hown (own_w hw 119 rfl) (own_w hw 120 rfl) (own_w hw 8 rfl) (own_w hw 121 rfl) (by decide) (l1Eq_1 l Z a0 hw [] t t2 kb kc u0 h0 n0 Z0 V_t V_t2) 0 (Nat.le_of_eq rfl) (by decide) (by decide) (by rw [hml]; rfl) (argsL := [(.ref t), (.ref t2)]) (st := []) (lenOf pd_16 rfl) rfl rfl (by decide) (by decide) e12 hby d25_44 ?_
  intro T13 v13 L13 X13 hQ13
  obtain ⟨rfl, Nq13, eh13⟩ := hQ13
  have N13 := Fr.app N0 Nq13
  refine own_sh (T := T13) 47 #[.val (.ref x), .val (.ref x2), .val (.ref x2)] [(.int 1)] ?_
  refine own_ifNo X13.here hx hby d25_47 ((if0 _ _).trans (feq (show ¬ ((1 : Int32) = (0 : Int32)) from (by decide))).1) ?_
  refine own_iconst X13.here hx hby d25_50 (v := (1 : Int32)) (by decide) ?_
  refine own_goto X13.here hx hby (pc' := 55) d25_51 (by decide) (by decide) ?_
  obtain ⟨fs, hr, hrun, hended, hW, hsame⟩ := X13.leave (v := some (.int 1)) (fun h => by rw [Bd.returns] at h; cases h)
  refine own_ret (t := T13.setFrames fs) ?_ ⟨_, hrun, hended, _, _, rfl, ?_, ⟨_, rfl⟩, hW, hsame.mono (by decide) (by decide)⟩
  · exact retN X13 hx (t := .boolean) Bd.returns (by simp) (hb hby d25_55) hr
  · show Q_strEq_1 Z x x2 t t2 kb kc zc u0 h0 n0 _ T13.heap _
    rw [eh13]
    exact ⟨rfl, N13, rfl⟩
def Q_strLen_2 (Z : State) (x : Nat) (t : Nat) (kb : ClassId) (zc : Int32) (vs_ : List Value) (h0 : Heap) (n0 : Nat) (vR : Option Value) (hR : Heap) (LR : List Loc) : Prop := vR = some (.int 2) ∧ Fr n0 LR ∧ hR = h0
set_option maxRecDepth 65536 in
set_option maxHeartbeats 40000000 in
theorem strLen_2 (l : Launch) (Z : State) (a0 : Array Value) (hw : ∀ d ∈ tables_1, d.before a0 Z = true) (ws : List Jvm.Cond) (x : Nat) (t : Nat) (kb : ClassId) (zc : Int32) (vs_ : List Value) (h0 : Heap) (n0 : Nat) (Z0 : n0 ≤ h0.size) (E_x : Exa Z h0 x "java/lang/String") (F_coder_x : Fld Z h0 x "java/lang/String" "coder" "B" (.int 0)) (F_value_x : Fld Z h0 x "java/lang/String" "value" "[B" (.ref t)) (V_t : Arv Z h0 t kb .byte (2 : Int32) vs_ (.int 0)) (S_COMPACT : Sta Z h0 "java/lang/String" "COMPACT_STRINGS" "Z" (.int zc)) (hz : ¬ (zc = (0 : Int32))) :
    own_M l (⟨"java/lang/String", "length", "()I"⟩ : MethodName) jdk_42_method_54_code 1 (some .int) ws ({ frames := 1, cells := 0, slots := 0, locals := 13 } : Room) Z #[(.ref x)] h0 (Q_strLen_2 Z x t kb zc vs_ h0 n0) := by
  refine own_body (own := "java/lang/String") rfl (plainFor_of_name pn_16) (fun m => ef_strLen_1 m x) ?_
  intro p e s m below meth c s₁ Bd hml hZ hh hx hby hown X0 e0
  have N0 := Fr.nil n0
  have lt1 : h0.size > x := E_x.lt
  have lt2 : h0.size > t := V_t.lt
  refine own_aloadN X0.here hx hby d16_0 rfl rfl ?_
  refine own_getF X0 hx hZ hown (host := "") (Or.inl (own_w hw 23 rfl)) Via.refl e0 F_value_x hby d16_1 ?_
  intro T3 X3 e3
  refine own_alen X3 hx hZ e3 V_t hby d16_4 ?_
  refine own_aloadN X3.here hx hby d16_5 rfl rfl ?_
  refine own_virtual X3 hx hZ hown (own_w hw 74 rfl) (own_w hw 75 rfl) (notFace_of_selects (args := #[]) (mvT hZ (own_w hw 77 rfl))) (own_w hw 77 rfl) (own_w hw 76 rfl) (own_w hw 3 rfl) (own_w hw 78 rfl) (by decide) (strCoder l Z a0 hw [] x zc h0 n0 Z0 F_coder_x S_COMPACT hz) 1 (Nat.le_of_eq rfl) (by decide) (by decide) (by rw [hml]; rfl) (argsL := []) (st := [(.int 2)]) E_x (lenOf pd_5 rfl) rfl rfl (by decide) (by decide) e3 hby d16_6 ?_
  intro T4 v4 L4 X4 hQ4
  obtain ⟨rfl, Nq4, eh4⟩ := hQ4
  have N4 := Fr.app N0 Nq4
  refine own_sh (T := T4) 9 #[.val (.ref x)] [(.int 0), (.int 2)] ?_
  refine own_ishr X4.here hx hby d16_9 (v := (2 : Int32)) (by decide) ?_
  obtain ⟨fs, hr, hrun, hended, hW, hsame⟩ := X4.leave (v := some (.int 2)) (fun h => by rw [Bd.returns] at h; cases h)
  refine own_ret (t := T4.setFrames fs) ?_ ⟨_, hrun, hended, _, _, rfl, ?_, ⟨_, rfl⟩, hW, hsame.mono (by decide) (by decide)⟩
  · exact retOut X4 hx Bd.returns rfl (Or.inl ⟨rfl, Or.inl rfl, _, rfl⟩) (hb hby d16_10) hr
  · show Q_strLen_2 Z x t kb zc vs_ h0 n0 _ T4.heap _
    rw [eh4]
    exact ⟨rfl, N4, rfl⟩
def Q_l1Eq_2 (Z : State) (t : Nat) (t2 : Nat) (kb : ClassId) (kc : ClassId) (u0 : Int32) (u1 : Int32) (h0 : Heap) (n0 : Nat) (vR : Option Value) (hR : Heap) (LR : List Loc) : Prop := vR = some (.int 1) ∧ Fr n0 LR ∧ hR = h0
set_option maxRecDepth 65536 in
set_option maxHeartbeats 40000000 in
theorem l1Eq_2 (l : Launch) (Z : State) (a0 : Array Value) (hw : ∀ d ∈ tables_1, d.before a0 Z = true) (ws : List Jvm.Cond) (t : Nat) (t2 : Nat) (kb : ClassId) (kc : ClassId) (u0 : Int32) (u1 : Int32) (h0 : Heap) (n0 : Nat) (Z0 : n0 ≤ h0.size) (V_t : Arv Z h0 t kb .byte (2 : Int32) [(.int u0), (.int u1)] (.int 0)) (V_t2 : Arv Z h0 t2 kc .byte (2 : Int32) [(.int u0), (.int u1)] (.int 0)) :
    own_M l (⟨"java/lang/StringLatin1", "equals", "([B[B)Z"⟩ : MethodName) jdk_43_method_13_code 3 (some .boolean) ws ({ frames := 0, cells := 0, slots := 0, locals := 0 } : Room) Z #[(.ref t), (.ref t2)] h0 (Q_l1Eq_2 Z t t2 kb kc u0 u1 h0 n0) := by
  refine own_body (own := "java/lang/StringLatin1") rfl (plainFor_of_name pn_26) (fun m => ef_l1Eq_0 m t t2) ?_
  intro p e s m below meth c s₁ Bd hml hZ hh hx hby hown X0 e0
  have N0 := Fr.nil n0
  have lt3 : h0.size > t := V_t.lt
  have lt4 : h0.size > t2 := V_t2.lt
  refine own_aloadN X0.here hx hby d26_0 rfl rfl ?_
  refine own_alen X0 hx hZ e0 V_t hby d26_1 ?_
  refine own_aloadN X0.here hx hby d26_2 rfl rfl ?_
  refine own_alen X0 hx hZ e0 V_t2 hby d26_3 ?_
  refine own_icmpNo X0.here hx hby d26_4 (teq (show (2 : Int32) = (2 : Int32) from (by decide))).2 ?_
  refine own_iconst X0.here hx hby d26_7 (v := (0 : Int32)) (by decide) ?_
  refine own_istoreN X0.here hx hby d26_8 (l' := #[.val (.ref t), .val (.ref t2), .val (.int 0)]) rfl ?_
  refine own_iloadN X0.here hx hby d26_9 rfl ?_
  refine own_aloadN X0.here hx hby d26_10 rfl rfl ?_
  refine own_alen X0 hx hZ e0 V_t hby d26_11 ?_
  refine own_icmpNo X0.here hx hby d26_12 (tlt (show (0 : Int32) < (2 : Int32) from (by decide))).2.1 ?_
  refine own_aloadN X0.here hx hby d26_15 rfl rfl ?_
  refine own_iloadN X0.here hx hby d26_16 rfl ?_
  refine own_baload X0 hx hZ e0 V_t ⟨by decide, by decide⟩ (v := (.int u0)) rfl hby d26_17 ?_
  refine own_aloadN X0.here hx hby d26_18 rfl rfl ?_
  refine own_iloadN X0.here hx hby d26_19 rfl ?_
  refine own_baload X0 hx hZ e0 V_t2 ⟨by decide, by decide⟩ (v := (.int u0)) rfl hby d26_20 ?_
  refine own_icmpYes X0.here hx hby (pc' := 26) d26_21 (teq (show u0 = u0 from rfl)).1 (by decide) (by decide) ?_
  refine own_iinc X0.here hx hby d26_26 rfl (v := (1 : Int32)) (by decide) (l' := #[.val (.ref t), .val (.ref t2), .val (.int 1)]) rfl ?_
  refine own_goto X0.here hx hby (pc' := 9) d26_29 (by decide) (by decide) ?_
  refine own_iloadN X0.here hx hby d26_9 rfl ?_
  refine own_aloadN X0.here hx hby d26_10 rfl rfl ?_
  refine own_alen X0 hx hZ e0 V_t hby d26_11 ?_
  refine own_icmpNo X0.here hx hby d26_12 (tlt (show (1 : Int32) < (2 : Int32) from (by decide))).2.1 ?_
  refine own_aloadN X0.here hx hby d26_15 rfl rfl ?_
  refine own_iloadN X0.here hx hby d26_16 rfl ?_
  refine own_baload X0 hx hZ e0 V_t ⟨by decide, by decide⟩ (v := (.int u1)) rfl hby d26_17 ?_
  refine own_aloadN X0.here hx hby d26_18 rfl rfl ?_
  refine own_iloadN X0.here hx hby d26_19 rfl ?_
  refine own_baload X0 hx hZ e0 V_t2 ⟨by decide, by decide⟩ (v := (.int u1)) rfl hby d26_20 ?_
  refine own_icmpYes X0.here hx hby (pc' := 26) d26_21 (teq (show u1 = u1 from rfl)).1 (by decide) (by decide) ?_
  refine own_iinc X0.here hx hby d26_26 rfl (v := (2 : Int32)) (by decide) (l' := #[.val (.ref t), .val (.ref t2), .val (.int 2)]) rfl ?_
  refine own_goto X0.here hx hby (pc' := 9) d26_29 (by decide) (by decide) ?_
  refine own_iloadN X0.here hx hby d26_9 rfl ?_
  refine own_aloadN X0.here hx hby d26_10 rfl rfl ?_
  refine own_alen X0 hx hZ e0 V_t hby d26_11 ?_
  refine own_icmpYes X0.here hx hby (pc' := 32) d26_12 (flt (show ¬ ((2 : Int32) < (2 : Int32)) from (by decide))).2.1 (by decide) (by decide) ?_
  refine own_iconst X0.here hx hby d26_32 (v := (1 : Int32)) (by decide) ?_
  obtain ⟨fs, hr, hrun, hended, hW, hsame⟩ := X0.leave (v := some (.int 1)) (fun h => by rw [Bd.returns] at h; cases h)
  refine own_ret (t := s₁.setFrames fs) ?_ ⟨_, hrun, hended, _, _, rfl, ?_, ⟨_, rfl⟩, hW, hsame.mono (by decide) (by decide)⟩
  · exact retN X0 hx (t := .boolean) Bd.returns (by simp) (hb hby d26_33) hr
  · show Q_l1Eq_2 Z t t2 kb kc u0 u1 h0 n0 _ s₁.heap _
    rw [e0]
    exact ⟨rfl, N0, rfl⟩
def Q_strEq_2 (Z : State) (x : Nat) (x2 : Nat) (t : Nat) (t2 : Nat) (kb : ClassId) (kc : ClassId) (zc : Int32) (u0 : Int32) (u1 : Int32) (h0 : Heap) (n0 : Nat) (vR : Option Value) (hR : Heap) (LR : List Loc) : Prop := vR = some (.int 1) ∧ Fr n0 LR ∧ hR = h0
set_option maxRecDepth 65536 in
set_option maxHeartbeats 40000000 in
theorem strEq_2 (l : Launch) (Z : State) (a0 : Array Value) (hw : ∀ d ∈ tables_1, d.before a0 Z = true) (ws : List Jvm.Cond) (x : Nat) (x2 : Nat) (t : Nat) (t2 : Nat) (kb : ClassId) (kc : ClassId) (zc : Int32) (u0 : Int32) (u1 : Int32) (h0 : Heap) (n0 : Nat) (Z0 : n0 ≤ h0.size) (E_x : Exa Z h0 x "java/lang/String") (E_x2 : Exa Z h0 x2 "java/lang/String") (hne : x ≠ x2) (F_coder_x : Fld Z h0 x "java/lang/String" "coder" "B" (.int 0)) (F_value_x : Fld Z h0 x "java/lang/String" "value" "[B" (.ref t)) (V_t : Arv Z h0 t kb .byte (2 : Int32) [(.int u0), (.int u1)] (.int 0)) (F_coder_x2 : Fld Z h0 x2 "java/lang/String" "coder" "B" (.int 0)) (F_value_x2 : Fld Z h0 x2 "java/lang/String" "value" "[B" (.ref t2)) (V_t2 : Arv Z h0 t2 kc .byte (2 : Int32) [(.int u0), (.int u1)] (.int 0)) (S_COMPACT : Sta Z h0 "java/lang/String" "COMPACT_STRINGS" "Z" (.int zc)) (hz : ¬ (zc = (0 : Int32))) :
    own_M l (⟨"java/lang/String", "equals", "(Ljava/lang/Object;)Z"⟩ : MethodName) jdk_42_method_66_code 3 (some .boolean) ws ({ frames := 1, cells := 0, slots := 0, locals := 14 } : Room) Z #[(.ref x), (.ref x2)] h0 (Q_strEq_2 Z x x2 t t2 kb kc zc u0 u1 h0 n0) := by
  refine own_body (own := "java/lang/String") rfl (plainFor_of_name pn_25) (fun m => ef_strEq_0 m x x2) ?_
  intro p e s m below meth c s₁ Bd hml hZ hh hx hby hown X0 e0
  have N0 := Fr.nil n0
  have lt3 : h0.size > x := E_x.lt
  have lt4 : h0.size > x2 := E_x2.lt
  have lt5 : h0.size > t := V_t.lt
  have lt6 : h0.size > t2 := V_t2.lt
  refine own_aloadN X0.here hx hby d25_0 rfl rfl ?_
  refine own_aloadN X0.here hx hby d25_1 rfl rfl ?_
  refine own_acmp X0 hx (same := false) (pc' := 7) hby d25_2 rfl rfl (decide_eq_false fun q => absurd (Value.ref.inj q) hne) (by decide) (by decide) ?_
  refine own_aloadN X0.here hx hby d25_7 rfl rfl ?_
  refine own_instY X0 hx hZ hown (own_w hw 10 rfl) e0 (Ins.self E_x2) hby d25_8 ?_
  intro T7 X7 e7
  refine own_ifNo X7.here hx hby d25_11 ((if0 _ _).trans (feq (show ¬ ((1 : Int32) = (0 : Int32)) from (by decide))).1) ?_
  refine own_aloadN X7.here hx hby d25_14 rfl rfl ?_
  refine own_castY X7 hx hZ hown (own_w hw 10 rfl) e7 (Ins.self E_x2) hby d25_15 ?_
  intro T8 X8 e8
  refine own_astoreN X8.here hx hby d25_18 rfl (l' := #[.val (.ref x), .val (.ref x2), .val (.ref x2)]) rfl ?_
  refine own_getS X8 hx hZ hown (host := "") (Or.inl (own_w hw 5 rfl)) Via.refl e8 S_COMPACT hby d25_19 ?_
  intro T9 X9 e9
  refine own_ifNo X9.here hx hby d25_22 ((if0 _ _).trans (feq hz).1) ?_
  refine own_aloadN X9.here hx hby d25_25 rfl rfl ?_
  refine own_getF X9 hx hZ hown (host := "") (Or.inl (own_w hw 25 rfl)) Via.refl e9 F_coder_x hby d25_26 ?_
  intro T10 X10 e10
  refine own_aloadN X10.here hx hby d25_29 rfl rfl ?_
  refine own_getF X10 hx hZ hown (host := "") (Or.inl (own_w hw 25 rfl)) Via.refl e10 F_coder_x2 hby d25_30 ?_
  intro T11 X11 e11
  refine own_icmpNo X11.here hx hby d25_33 (teq (show (0 : Int32) = (0 : Int32) from (by decide))).2 ?_
  refine own_aloadN X11.here hx hby d25_36 rfl rfl ?_
  refine own_getF X11 hx hZ hown (host := "") (Or.inl (own_w hw 23 rfl)) Via.refl e11 F_value_x hby d25_37 ?_
  intro T12 X12 e12
  refine own_aloadN X12.here hx hby d25_40 rfl rfl ?_
  refine own_getF X12 hx hZ hown (host := "") (Or.inl (own_w hw 23 rfl)) Via.refl e12 F_value_x2 hby d25_41 ?_
  intro T13 X13 e13
  refine own_callS X13 hx hZ hown (own_w hw 119 rfl) (own_w hw 120 rfl) (own_w hw 8 rfl) (own_w hw 121 rfl) (by decide) (l1Eq_2 l Z a0 hw [] t t2 kb kc u0 u1 h0 n0 Z0 V_t V_t2) 0 (Nat.le_of_eq rfl) (by decide) (by decide) (by rw [hml]; rfl) (argsL := [(.ref t), (.ref t2)]) (st := []) (lenOf pd_16 rfl) rfl rfl (by decide) (by decide) e13 hby d25_44 ?_
  intro T14 v14 L14 X14 hQ14
  obtain ⟨rfl, Nq14, eh14⟩ := hQ14
  have N14 := Fr.app N0 Nq14
  refine own_sh (T := T14) 47 #[.val (.ref x), .val (.ref x2), .val (.ref x2)] [(.int 1)] ?_
  refine own_ifNo X14.here hx hby d25_47 ((if0 _ _).trans (feq (show ¬ ((1 : Int32) = (0 : Int32)) from (by decide))).1) ?_
  refine own_iconst X14.here hx hby d25_50 (v := (1 : Int32)) (by decide) ?_
  refine own_goto X14.here hx hby (pc' := 55) d25_51 (by decide) (by decide) ?_
  obtain ⟨fs, hr, hrun, hended, hW, hsame⟩ := X14.leave (v := some (.int 1)) (fun h => by rw [Bd.returns] at h; cases h)
  refine own_ret (t := T14.setFrames fs) ?_ ⟨_, hrun, hended, _, _, rfl, ?_, ⟨_, rfl⟩, hW, hsame.mono (by decide) (by decide)⟩
  · exact retN X14 hx (t := .boolean) Bd.returns (by simp) (hb hby d25_55) hr
  · show Q_strEq_2 Z x x2 t t2 kb kc zc u0 u1 h0 n0 _ T14.heap _
    rw [eh14]
    exact ⟨rfl, N14, rfl⟩
def Q_strLen_3 (Z : State) (x : Nat) (t : Nat) (kb : ClassId) (zc : Int32) (vs_ : List Value) (h0 : Heap) (n0 : Nat) (vR : Option Value) (hR : Heap) (LR : List Loc) : Prop := vR = some (.int 3) ∧ Fr n0 LR ∧ hR = h0
set_option maxRecDepth 65536 in
set_option maxHeartbeats 40000000 in
theorem strLen_3 (l : Launch) (Z : State) (a0 : Array Value) (hw : ∀ d ∈ tables_1, d.before a0 Z = true) (ws : List Jvm.Cond) (x : Nat) (t : Nat) (kb : ClassId) (zc : Int32) (vs_ : List Value) (h0 : Heap) (n0 : Nat) (Z0 : n0 ≤ h0.size) (E_x : Exa Z h0 x "java/lang/String") (F_coder_x : Fld Z h0 x "java/lang/String" "coder" "B" (.int 0)) (F_value_x : Fld Z h0 x "java/lang/String" "value" "[B" (.ref t)) (V_t : Arv Z h0 t kb .byte (3 : Int32) vs_ (.int 0)) (S_COMPACT : Sta Z h0 "java/lang/String" "COMPACT_STRINGS" "Z" (.int zc)) (hz : ¬ (zc = (0 : Int32))) :
    own_M l (⟨"java/lang/String", "length", "()I"⟩ : MethodName) jdk_42_method_54_code 1 (some .int) ws ({ frames := 1, cells := 0, slots := 0, locals := 13 } : Room) Z #[(.ref x)] h0 (Q_strLen_3 Z x t kb zc vs_ h0 n0) := by
  refine own_body (own := "java/lang/String") rfl (plainFor_of_name pn_16) (fun m => ef_strLen_1 m x) ?_
  intro p e s m below meth c s₁ Bd hml hZ hh hx hby hown X0 e0
  have N0 := Fr.nil n0
  have lt1 : h0.size > x := E_x.lt
  have lt2 : h0.size > t := V_t.lt
  refine own_aloadN X0.here hx hby d16_0 rfl rfl ?_
  refine own_getF X0 hx hZ hown (host := "") (Or.inl (own_w hw 23 rfl)) Via.refl e0 F_value_x hby d16_1 ?_
  intro T3 X3 e3
  refine own_alen X3 hx hZ e3 V_t hby d16_4 ?_
  refine own_aloadN X3.here hx hby d16_5 rfl rfl ?_
  refine own_virtual X3 hx hZ hown (own_w hw 74 rfl) (own_w hw 75 rfl) (notFace_of_selects (args := #[]) (mvT hZ (own_w hw 77 rfl))) (own_w hw 77 rfl) (own_w hw 76 rfl) (own_w hw 3 rfl) (own_w hw 78 rfl) (by decide) (strCoder l Z a0 hw [] x zc h0 n0 Z0 F_coder_x S_COMPACT hz) 1 (Nat.le_of_eq rfl) (by decide) (by decide) (by rw [hml]; rfl) (argsL := []) (st := [(.int 3)]) E_x (lenOf pd_5 rfl) rfl rfl (by decide) (by decide) e3 hby d16_6 ?_
  intro T4 v4 L4 X4 hQ4
  obtain ⟨rfl, Nq4, eh4⟩ := hQ4
  have N4 := Fr.app N0 Nq4
  refine own_sh (T := T4) 9 #[.val (.ref x)] [(.int 0), (.int 3)] ?_
  refine own_ishr X4.here hx hby d16_9 (v := (3 : Int32)) (by decide) ?_
  obtain ⟨fs, hr, hrun, hended, hW, hsame⟩ := X4.leave (v := some (.int 3)) (fun h => by rw [Bd.returns] at h; cases h)
  refine own_ret (t := T4.setFrames fs) ?_ ⟨_, hrun, hended, _, _, rfl, ?_, ⟨_, rfl⟩, hW, hsame.mono (by decide) (by decide)⟩
  · exact retOut X4 hx Bd.returns rfl (Or.inl ⟨rfl, Or.inl rfl, _, rfl⟩) (hb hby d16_10) hr
  · show Q_strLen_3 Z x t kb zc vs_ h0 n0 _ T4.heap _
    rw [eh4]
    exact ⟨rfl, N4, rfl⟩
def Q_l1Eq_3 (Z : State) (t : Nat) (t2 : Nat) (kb : ClassId) (kc : ClassId) (u0 : Int32) (u1 : Int32) (u2 : Int32) (h0 : Heap) (n0 : Nat) (vR : Option Value) (hR : Heap) (LR : List Loc) : Prop := vR = some (.int 1) ∧ Fr n0 LR ∧ hR = h0
set_option maxRecDepth 65536 in
set_option maxHeartbeats 40000000 in
theorem l1Eq_3 (l : Launch) (Z : State) (a0 : Array Value) (hw : ∀ d ∈ tables_1, d.before a0 Z = true) (ws : List Jvm.Cond) (t : Nat) (t2 : Nat) (kb : ClassId) (kc : ClassId) (u0 : Int32) (u1 : Int32) (u2 : Int32) (h0 : Heap) (n0 : Nat) (Z0 : n0 ≤ h0.size) (V_t : Arv Z h0 t kb .byte (3 : Int32) [(.int u0), (.int u1), (.int u2)] (.int 0)) (V_t2 : Arv Z h0 t2 kc .byte (3 : Int32) [(.int u0), (.int u1), (.int u2)] (.int 0)) :
    own_M l (⟨"java/lang/StringLatin1", "equals", "([B[B)Z"⟩ : MethodName) jdk_43_method_13_code 3 (some .boolean) ws ({ frames := 0, cells := 0, slots := 0, locals := 0 } : Room) Z #[(.ref t), (.ref t2)] h0 (Q_l1Eq_3 Z t t2 kb kc u0 u1 u2 h0 n0) := by
  refine own_body (own := "java/lang/StringLatin1") rfl (plainFor_of_name pn_26) (fun m => ef_l1Eq_0 m t t2) ?_
  intro p e s m below meth c s₁ Bd hml hZ hh hx hby hown X0 e0
  have N0 := Fr.nil n0
  have lt3 : h0.size > t := V_t.lt
  have lt4 : h0.size > t2 := V_t2.lt
  refine own_aloadN X0.here hx hby d26_0 rfl rfl ?_
  refine own_alen X0 hx hZ e0 V_t hby d26_1 ?_
  refine own_aloadN X0.here hx hby d26_2 rfl rfl ?_
  refine own_alen X0 hx hZ e0 V_t2 hby d26_3 ?_
  refine own_icmpNo X0.here hx hby d26_4 (teq (show (3 : Int32) = (3 : Int32) from (by decide))).2 ?_
  refine own_iconst X0.here hx hby d26_7 (v := (0 : Int32)) (by decide) ?_
  refine own_istoreN X0.here hx hby d26_8 (l' := #[.val (.ref t), .val (.ref t2), .val (.int 0)]) rfl ?_
  refine own_iloadN X0.here hx hby d26_9 rfl ?_
  refine own_aloadN X0.here hx hby d26_10 rfl rfl ?_
  refine own_alen X0 hx hZ e0 V_t hby d26_11 ?_
  refine own_icmpNo X0.here hx hby d26_12 (tlt (show (0 : Int32) < (3 : Int32) from (by decide))).2.1 ?_
  refine own_aloadN X0.here hx hby d26_15 rfl rfl ?_
  refine own_iloadN X0.here hx hby d26_16 rfl ?_
  refine own_baload X0 hx hZ e0 V_t ⟨by decide, by decide⟩ (v := (.int u0)) rfl hby d26_17 ?_
  refine own_aloadN X0.here hx hby d26_18 rfl rfl ?_
  refine own_iloadN X0.here hx hby d26_19 rfl ?_
  refine own_baload X0 hx hZ e0 V_t2 ⟨by decide, by decide⟩ (v := (.int u0)) rfl hby d26_20 ?_
  refine own_icmpYes X0.here hx hby (pc' := 26) d26_21 (teq (show u0 = u0 from rfl)).1 (by decide) (by decide) ?_
  refine own_iinc X0.here hx hby d26_26 rfl (v := (1 : Int32)) (by decide) (l' := #[.val (.ref t), .val (.ref t2), .val (.int 1)]) rfl ?_
  refine own_goto X0.here hx hby (pc' := 9) d26_29 (by decide) (by decide) ?_
  refine own_iloadN X0.here hx hby d26_9 rfl ?_
  refine own_aloadN X0.here hx hby d26_10 rfl rfl ?_
  refine own_alen X0 hx hZ e0 V_t hby d26_11 ?_
  refine own_icmpNo X0.here hx hby d26_12 (tlt (show (1 : Int32) < (3 : Int32) from (by decide))).2.1 ?_
  refine own_aloadN X0.here hx hby d26_15 rfl rfl ?_
  refine own_iloadN X0.here hx hby d26_16 rfl ?_
  refine own_baload X0 hx hZ e0 V_t ⟨by decide, by decide⟩ (v := (.int u1)) rfl hby d26_17 ?_
  refine own_aloadN X0.here hx hby d26_18 rfl rfl ?_
  refine own_iloadN X0.here hx hby d26_19 rfl ?_
  refine own_baload X0 hx hZ e0 V_t2 ⟨by decide, by decide⟩ (v := (.int u1)) rfl hby d26_20 ?_
  refine own_icmpYes X0.here hx hby (pc' := 26) d26_21 (teq (show u1 = u1 from rfl)).1 (by decide) (by decide) ?_
  refine own_iinc X0.here hx hby d26_26 rfl (v := (2 : Int32)) (by decide) (l' := #[.val (.ref t), .val (.ref t2), .val (.int 2)]) rfl ?_
  refine own_goto X0.here hx hby (pc' := 9) d26_29 (by decide) (by decide) ?_
  refine own_iloadN X0.here hx hby d26_9 rfl ?_
  refine own_aloadN X0.here hx hby d26_10 rfl rfl ?_
  refine own_alen X0 hx hZ e0 V_t hby d26_11 ?_
  refine own_icmpNo X0.here hx hby d26_12 (tlt (show (2 : Int32) < (3 : Int32) from (by decide))).2.1 ?_
  refine own_aloadN X0.here hx hby d26_15 rfl rfl ?_
  refine own_iloadN X0.here hx hby d26_16 rfl ?_
  refine own_baload X0 hx hZ e0 V_t ⟨by decide, by decide⟩ (v := (.int u2)) rfl hby d26_17 ?_
  refine own_aloadN X0.here hx hby d26_18 rfl rfl ?_
  refine own_iloadN X0.here hx hby d26_19 rfl ?_
  refine own_baload X0 hx hZ e0 V_t2 ⟨by decide, by decide⟩ (v := (.int u2)) rfl hby d26_20 ?_
  refine own_icmpYes X0.here hx hby (pc' := 26) d26_21 (teq (show u2 = u2 from rfl)).1 (by decide) (by decide) ?_
  refine own_iinc X0.here hx hby d26_26 rfl (v := (3 : Int32)) (by decide) (l' := #[.val (.ref t), .val (.ref t2), .val (.int 3)]) rfl ?_
  refine own_goto X0.here hx hby (pc' := 9) d26_29 (by decide) (by decide) ?_
  refine own_iloadN X0.here hx hby d26_9 rfl ?_
  refine own_aloadN X0.here hx hby d26_10 rfl rfl ?_
  refine own_alen X0 hx hZ e0 V_t hby d26_11 ?_
  refine own_icmpYes X0.here hx hby (pc' := 32) d26_12 (flt (show ¬ ((3 : Int32) < (3 : Int32)) from (by decide))).2.1 (by decide) (by decide) ?_
  refine own_iconst X0.here hx hby d26_32 (v := (1 : Int32)) (by decide) ?_
  obtain ⟨fs, hr, hrun, hended, hW, hsame⟩ := X0.leave (v := some (.int 1)) (fun h => by rw [Bd.returns] at h; cases h)
  refine own_ret (t := s₁.setFrames fs) ?_ ⟨_, hrun, hended, _, _, rfl, ?_, ⟨_, rfl⟩, hW, hsame.mono (by decide) (by decide)⟩
  · exact retN X0 hx (t := .boolean) Bd.returns (by simp) (hb hby d26_33) hr
  · show Q_l1Eq_3 Z t t2 kb kc u0 u1 u2 h0 n0 _ s₁.heap _
    rw [e0]
    exact ⟨rfl, N0, rfl⟩
def Q_strEq_3 (Z : State) (x : Nat) (x2 : Nat) (t : Nat) (t2 : Nat) (kb : ClassId) (kc : ClassId) (zc : Int32) (u0 : Int32) (u1 : Int32) (u2 : Int32) (h0 : Heap) (n0 : Nat) (vR : Option Value) (hR : Heap) (LR : List Loc) : Prop := vR = some (.int 1) ∧ Fr n0 LR ∧ hR = h0
set_option maxRecDepth 65536 in
set_option maxHeartbeats 40000000 in
theorem strEq_3 (l : Launch) (Z : State) (a0 : Array Value) (hw : ∀ d ∈ tables_1, d.before a0 Z = true) (ws : List Jvm.Cond) (x : Nat) (x2 : Nat) (t : Nat) (t2 : Nat) (kb : ClassId) (kc : ClassId) (zc : Int32) (u0 : Int32) (u1 : Int32) (u2 : Int32) (h0 : Heap) (n0 : Nat) (Z0 : n0 ≤ h0.size) (E_x : Exa Z h0 x "java/lang/String") (E_x2 : Exa Z h0 x2 "java/lang/String") (hne : x ≠ x2) (F_coder_x : Fld Z h0 x "java/lang/String" "coder" "B" (.int 0)) (F_value_x : Fld Z h0 x "java/lang/String" "value" "[B" (.ref t)) (V_t : Arv Z h0 t kb .byte (3 : Int32) [(.int u0), (.int u1), (.int u2)] (.int 0)) (F_coder_x2 : Fld Z h0 x2 "java/lang/String" "coder" "B" (.int 0)) (F_value_x2 : Fld Z h0 x2 "java/lang/String" "value" "[B" (.ref t2)) (V_t2 : Arv Z h0 t2 kc .byte (3 : Int32) [(.int u0), (.int u1), (.int u2)] (.int 0)) (S_COMPACT : Sta Z h0 "java/lang/String" "COMPACT_STRINGS" "Z" (.int zc)) (hz : ¬ (zc = (0 : Int32))) :
    own_M l (⟨"java/lang/String", "equals", "(Ljava/lang/Object;)Z"⟩ : MethodName) jdk_42_method_66_code 3 (some .boolean) ws ({ frames := 1, cells := 0, slots := 0, locals := 14 } : Room) Z #[(.ref x), (.ref x2)] h0 (Q_strEq_3 Z x x2 t t2 kb kc zc u0 u1 u2 h0 n0) := by
  refine own_body (own := "java/lang/String") rfl (plainFor_of_name pn_25) (fun m => ef_strEq_0 m x x2) ?_
  intro p e s m below meth c s₁ Bd hml hZ hh hx hby hown X0 e0
  have N0 := Fr.nil n0
  have lt3 : h0.size > x := E_x.lt
  have lt4 : h0.size > x2 := E_x2.lt
  have lt5 : h0.size > t := V_t.lt
  have lt6 : h0.size > t2 := V_t2.lt
  refine own_aloadN X0.here hx hby d25_0 rfl rfl ?_
  refine own_aloadN X0.here hx hby d25_1 rfl rfl ?_
  refine own_acmp X0 hx (same := false) (pc' := 7) hby d25_2 rfl rfl (decide_eq_false fun q => absurd (Value.ref.inj q) hne) (by decide) (by decide) ?_
  refine own_aloadN X0.here hx hby d25_7 rfl rfl ?_
  refine own_instY X0 hx hZ hown (own_w hw 10 rfl) e0 (Ins.self E_x2) hby d25_8 ?_
  intro T7 X7 e7
  refine own_ifNo X7.here hx hby d25_11 ((if0 _ _).trans (feq (show ¬ ((1 : Int32) = (0 : Int32)) from (by decide))).1) ?_
  refine own_aloadN X7.here hx hby d25_14 rfl rfl ?_
  refine own_castY X7 hx hZ hown (own_w hw 10 rfl) e7 (Ins.self E_x2) hby d25_15 ?_
  intro T8 X8 e8
  refine own_astoreN X8.here hx hby d25_18 rfl (l' := #[.val (.ref x), .val (.ref x2), .val (.ref x2)]) rfl ?_
  refine own_getS X8 hx hZ hown (host := "") (Or.inl (own_w hw 5 rfl)) Via.refl e8 S_COMPACT hby d25_19 ?_
  intro T9 X9 e9
  refine own_ifNo X9.here hx hby d25_22 ((if0 _ _).trans (feq hz).1) ?_
  refine own_aloadN X9.here hx hby d25_25 rfl rfl ?_
  refine own_getF X9 hx hZ hown (host := "") (Or.inl (own_w hw 25 rfl)) Via.refl e9 F_coder_x hby d25_26 ?_
  intro T10 X10 e10
  refine own_aloadN X10.here hx hby d25_29 rfl rfl ?_
  refine own_getF X10 hx hZ hown (host := "") (Or.inl (own_w hw 25 rfl)) Via.refl e10 F_coder_x2 hby d25_30 ?_
  intro T11 X11 e11
  refine own_icmpNo X11.here hx hby d25_33 (teq (show (0 : Int32) = (0 : Int32) from (by decide))).2 ?_
  refine own_aloadN X11.here hx hby d25_36 rfl rfl ?_
  refine own_getF X11 hx hZ hown (host := "") (Or.inl (own_w hw 23 rfl)) Via.refl e11 F_value_x hby d25_37 ?_
  intro T12 X12 e12
  refine own_aloadN X12.here hx hby d25_40 rfl rfl ?_
  refine own_getF X12 hx hZ hown (host := "") (Or.inl (own_w hw 23 rfl)) Via.refl e12 F_value_x2 hby d25_41 ?_
  intro T13 X13 e13
  refine own_callS X13 hx hZ hown (own_w hw 119 rfl) (own_w hw 120 rfl) (own_w hw 8 rfl) (own_w hw 121 rfl) (by decide) (l1Eq_3 l Z a0 hw [] t t2 kb kc u0 u1 u2 h0 n0 Z0 V_t V_t2) 0 (Nat.le_of_eq rfl) (by decide) (by decide) (by rw [hml]; rfl) (argsL := [(.ref t), (.ref t2)]) (st := []) (lenOf pd_16 rfl) rfl rfl (by decide) (by decide) e13 hby d25_44 ?_
  intro T14 v14 L14 X14 hQ14
  obtain ⟨rfl, Nq14, eh14⟩ := hQ14
  have N14 := Fr.app N0 Nq14
  refine own_sh (T := T14) 47 #[.val (.ref x), .val (.ref x2), .val (.ref x2)] [(.int 1)] ?_
  refine own_ifNo X14.here hx hby d25_47 ((if0 _ _).trans (feq (show ¬ ((1 : Int32) = (0 : Int32)) from (by decide))).1) ?_
  refine own_iconst X14.here hx hby d25_50 (v := (1 : Int32)) (by decide) ?_
  refine own_goto X14.here hx hby (pc' := 55) d25_51 (by decide) (by decide) ?_
  obtain ⟨fs, hr, hrun, hended, hW, hsame⟩ := X14.leave (v := some (.int 1)) (fun h => by rw [Bd.returns] at h; cases h)
  refine own_ret (t := T14.setFrames fs) ?_ ⟨_, hrun, hended, _, _, rfl, ?_, ⟨_, rfl⟩, hW, hsame.mono (by decide) (by decide)⟩
  · exact retN X14 hx (t := .boolean) Bd.returns (by simp) (hb hby d25_55) hr
  · show Q_strEq_3 Z x x2 t t2 kb kc zc u0 u1 u2 h0 n0 _ T14.heap _
    rw [eh14]
    exact ⟨rfl, N14, rfl⟩
theorem ef_rm0 (m : MethodId) (x0 : Int32) (x1 : Int32) (x2 : Int32) (x3 : Int32) (x4 : Int32) (x5 : Int32) : entryFrame m #[(.int x0), (.int x1), (.int x2), (.int x3), (.int x4), (.int x5)] maxLocals = mkF m 0 #[.val (.int x0), .val (.int x1), .val (.int x2), .val (.int x3), .val (.int x4), .val (.int x5), .unset, .unset, .unset, .unset, .unset, .unset, .unset, .unset, .unset, .unset, .unset, .unset] [] := by first | (simp [entryFrame, mkF, argsToLocals, Value.category, maxLocals]; done) | rfl
theorem pn_0 : plainName "com/example/tiny_context/tinycontext/account/AccountsValuePinLaw" = true := by first | (simp [plainName, overriddenIn]; done) | decide +kernel
theorem pd_17 : parseMethodDescriptor "(C)Ljava/lang/String;" = some ⟨[.char], some (.object "java/lang/String")⟩ := by decide +kernel
theorem pd_18 : parseMethodDescriptor "(ICCC)Ljava/lang/String;" = some ⟨[.int, .char, .char, .char], some (.object "java/lang/String")⟩ := by decide +kernel
theorem pd_19 : parseMethodDescriptor "(Ljava/lang/String;Ljava/lang/Object;)V" = some ⟨[(.object "java/lang/String"), (.object "java/lang/Object")], none⟩ := by decide +kernel
theorem pd_20 : parseMethodDescriptor "(Lcom/example/tiny_context/tinycontext/Resource;Ljava/lang/String;)Ljava/lang/String;" = some ⟨[(.object "com/example/tiny_context/tinycontext/Resource"), (.object "java/lang/String")], some (.object "java/lang/String")⟩ := by decide +kernel
theorem pd_21 : parseMethodDescriptor "(Ljava/lang/Object;)Z" = some ⟨[(.object "java/lang/Object")], some .boolean⟩ := by decide +kernel
def Q_rm0 (Z : State) (p1 : Int32) (p2 : Int32) (p3 : Int32) (p4 : Int32) (p5 : Int32) (p6 : Int32) (zc : Int32) (fm : Value) (h0 : Heap) (n0 : Nat) (vR : Option Value) (hR : Heap) (LR : List Loc) : Prop := vR = some (.int 1) ∧ Fr n0 LR ∧ True
set_option maxRecDepth 65536 in
set_option maxHeartbeats 40000000 in
theorem rm0 (l : Launch) (Z : State) (a0 : Array Value) (hw : ∀ d ∈ tables_1, d.before a0 Z = true) (ws : List Jvm.Cond) (p1 : Int32) (p2 : Int32) (p3 : Int32) (p4 : Int32) (p5 : Int32) (p6 : Int32) (zc : Int32) (fm : Value) (h0 : Heap) (n0 : Nat) (Z0 : n0 ≤ h0.size) (S_COMPACT : Sta Z h0 "java/lang/String" "COMPACT_STRINGS" "Z" (.int zc)) (hz : ¬ (zc = (0 : Int32))) (S_FM : Sta Z h0 "jdk/internal/util/Preconditions" "SIOOBE_FORMATTER" "Ljava/util/function/BiFunction;" fm) (hfm : fm.isRef = true) :
    own_MH l x code maxLocals ret ws room_1 Z #[(.int p1), (.int p2), (.int p3), (.int p4), (.int p5), (.int p6)] h0 (Q_rm0 Z p1 p2 p3 p4 p5 p6 zc fm h0 n0) consts_1 := by
  refine own_bodyH (own := "com/example/tiny_context/tinycontext/account/AccountsValuePinLaw") rfl (plainFor_of_name pn_0) (fun m => ef_rm0 m p1 p2 p3 p4 p5 p6) ?_
  intro p e s m below meth c s₁ Bd hml hZ hh hx hby hown X0 e0 hS0 CH0
  have N0 := Fr.nil n0
  have hk0 : h0.size ≤ h0.size := Nat.le_refl _
  have Y0 : Stand p l e room_1 (s.setVm s.vm) m #[(.int p1), (.int p2), (.int p3), (.int p4), (.int p5), (.int p6)] below meth c s₁ [] 0 0 := X0
  have hEL := own_EW hw
  have C0 := CHr.refl CH0
  refine own_iloadN Y0.here hx hby at_0 rfl ?_
  refine own_ldcInt Y0 hx hZ hown (own_w hw 0 rfl) hby at_1 ?_
  refine own_iand Y0.here hx hby at_3 rfl ?_
  refine own_bipush Y0.here hx hby at_4 (v := (93 : Int32)) (by decide) ?_
  refine own_irem Y0.here hx hby at_6 (by decide) rfl ?_
  refine own_istore Y0.here hx hby at_7 (l' := #[.val (.int p1), .val (.int p2), .val (.int p3), .val (.int p4), .val (.int p5), .val (.int p6), .val (.int ((p1 &&& (2147483647 : Int32)) % (93 : Int32))), .unset, .unset, .unset, .unset, .unset, .unset, .unset, .unset, .unset, .unset, .unset]) rfl ?_
  refine own_bipush Y0.here hx hby at_9 (v := (33 : Int32)) (by decide) ?_
  refine own_iload Y0.here hx hby at_11 rfl ?_
  refine own_iadd Y0.here hx hby at_13 rfl ?_
  refine own_i2c Y0.here hx hby at_14 rfl ?_
  refine own_sh (T := s₁) 15 #[.val (.int p1), .val (.int p2), .val (.int p3), .val (.int p4), .val (.int p5), .val (.int p6), .val (.int ((p1 &&& (2147483647 : Int32)) % (93 : Int32))), .unset, .unset, .unset, .unset, .unset, .unset, .unset, .unset, .unset, .unset, .unset] [(.int (((33 : Int32) + ((p1 &&& (2147483647 : Int32)) % (93 : Int32))).toUInt32.toUInt16.toUInt32.toInt32))] ?_
  rw [show (((33 : Int32) + ((p1 &&& (2147483647 : Int32)) % (93 : Int32))).toUInt32.toUInt16.toUInt32.toInt32) = (own_ic p1) from (own_icE p1)]
  refine own_istore Y0.here hx hby at_15 (l' := #[.val (.int p1), .val (.int p2), .val (.int p3), .val (.int p4), .val (.int p5), .val (.int p6), .val (.int ((p1 &&& (2147483647 : Int32)) % (93 : Int32))), .val (.int (own_ic p1)), .unset, .unset, .unset, .unset, .unset, .unset, .unset, .unset, .unset, .unset]) rfl ?_
  refine own_iload Y0.here hx hby at_17 rfl ?_
  refine own_bipush Y0.here hx hby at_19 (v := (46 : Int32)) (by decide) ?_
  by_cases hc21_7 : (own_ic p1) = (46 : Int32)
  · refine own_icmpNo Y0.here hx hby at_21 (teq hc21_7).2 ?_
    refine own_bipush Y0.here hx hby at_24 (v := (126 : Int32)) (by decide) ?_
    refine own_istore Y0.here hx hby at_26 (l' := #[.val (.int p1), .val (.int p2), .val (.int p3), .val (.int p4), .val (.int p5), .val (.int p6), .val (.int ((p1 &&& (2147483647 : Int32)) % (93 : Int32))), .val (.int 126), .unset, .unset, .unset, .unset, .unset, .unset, .unset, .unset, .unset, .unset]) rfl ?_
    refine own_iload Y0.here hx hby at_28 rfl ?_
    refine own_callS Y0 hx hZ hown (own_w hw 1 rfl) (own_w hw 2 rfl) (own_w hw 3 rfl) (own_w hw 4 rfl) (by decide) (valOf l Z a0 hw [] (126 : Int32) zc h0 n0 Z0 S_COMPACT hz (by decide)) 0 (Nat.le_of_eq rfl) (by decide) (by decide) (by rw [hml]; rfl) (argsL := [(.int 126)]) (st := []) (lenOf pd_17 rfl) rfl rfl (by decide) (by decide) e0 hby at_30 ?_
    intro T8 v8 L8 X8 hQ8
    obtain ⟨x_8, t_8, kb_8, rfl, Nq8, K8, P8_0, P8_1, P8_2, P8_3, P8_4, P8_5, P8_6⟩ := hQ8
    have N8 := Fr.app N0 Nq8
    have z9 : h0.size ≤ T8.heap.size := K8.1
    have C10 := C0.trans (CHr.keep K8 sf0 C0.1)
    have lt11 : T8.heap.size > x_8 := P8_3.lt
    have lt12 : T8.heap.size > t_8 := P8_6.lt
    refine own_sh (T := T8) 33 #[.val (.int p1), .val (.int p2), .val (.int p3), .val (.int p4), .val (.int p5), .val (.int p6), .val (.int ((p1 &&& (2147483647 : Int32)) % (93 : Int32))), .val (.int 126), .unset, .unset, .unset, .unset, .unset, .unset, .unset, .unset, .unset, .unset] [(.ref x_8)] ?_
    refine own_astore X8.here hx hby at_33 rfl (l' := #[.val (.int p1), .val (.int p2), .val (.int p3), .val (.int p4), .val (.int p5), .val (.int p6), .val (.int ((p1 &&& (2147483647 : Int32)) % (93 : Int32))), .val (.int 126), .val (.ref x_8), .unset, .unset, .unset, .unset, .unset, .unset, .unset, .unset, .unset]) rfl ?_
    refine own_iloadN X8.here hx hby at_35 rfl ?_
    refine own_iconst X8.here hx hby at_36 (v := (3 : Int32)) (by decide) ?_
    refine own_iand X8.here hx hby at_37 rfl ?_
    refine own_sh (T := T8) 38 #[.val (.int p1), .val (.int p2), .val (.int p3), .val (.int p4), .val (.int p5), .val (.int p6), .val (.int ((p1 &&& (2147483647 : Int32)) % (93 : Int32))), .val (.int 126), .val (.ref x_8), .unset, .unset, .unset, .unset, .unset, .unset, .unset, .unset, .unset] [(.int (p2 &&& (3 : Int32)))] ?_
    rcases own_and3 p2 with hk | hk | hk | hk
    · rw [hk]
      refine own_istore X8.here hx hby at_38 (l' := #[.val (.int p1), .val (.int p2), .val (.int p3), .val (.int p4), .val (.int p5), .val (.int p6), .val (.int ((p1 &&& (2147483647 : Int32)) % (93 : Int32))), .val (.int 126), .val (.ref x_8), .val (.int 0), .unset, .unset, .unset, .unset, .unset, .unset, .unset, .unset]) rfl ?_
      refine own_iloadN X8.here hx hby at_40 rfl ?_
      refine own_sipush X8.here hx hby at_41 (v := (255 : Int32)) (by decide) ?_
      refine own_iand X8.here hx hby at_44 rfl ?_
      refine own_i2c X8.here hx hby at_45 rfl ?_
      refine own_sh (T := T8) 46 #[.val (.int p1), .val (.int p2), .val (.int p3), .val (.int p4), .val (.int p5), .val (.int p6), .val (.int ((p1 &&& (2147483647 : Int32)) % (93 : Int32))), .val (.int 126), .val (.ref x_8), .val (.int 0), .unset, .unset, .unset, .unset, .unset, .unset, .unset, .unset] [(.int ((p3 &&& (255 : Int32)).toUInt32.toUInt16.toUInt32.toInt32))] ?_
      rw [show ((p3 &&& (255 : Int32)).toUInt32.toUInt16.toUInt32.toInt32) = (p3 &&& (255 : Int32)) from (i2c_mask p3)]
      refine own_istore X8.here hx hby at_46 (l' := #[.val (.int p1), .val (.int p2), .val (.int p3), .val (.int p4), .val (.int p5), .val (.int p6), .val (.int ((p1 &&& (2147483647 : Int32)) % (93 : Int32))), .val (.int 126), .val (.ref x_8), .val (.int 0), .val (.int (p3 &&& (255 : Int32))), .unset, .unset, .unset, .unset, .unset, .unset, .unset]) rfl ?_
      refine own_iloadN X8.here hx hby at_48 rfl ?_
      refine own_sipush X8.here hx hby at_49 (v := (255 : Int32)) (by decide) ?_
      refine own_iand X8.here hx hby at_52 rfl ?_
      refine own_i2c X8.here hx hby at_53 rfl ?_
      refine own_sh (T := T8) 54 #[.val (.int p1), .val (.int p2), .val (.int p3), .val (.int p4), .val (.int p5), .val (.int p6), .val (.int ((p1 &&& (2147483647 : Int32)) % (93 : Int32))), .val (.int 126), .val (.ref x_8), .val (.int 0), .val (.int (p3 &&& (255 : Int32))), .unset, .unset, .unset, .unset, .unset, .unset, .unset] [(.int ((p4 &&& (255 : Int32)).toUInt32.toUInt16.toUInt32.toInt32))] ?_
      rw [show ((p4 &&& (255 : Int32)).toUInt32.toUInt16.toUInt32.toInt32) = (p4 &&& (255 : Int32)) from (i2c_mask p4)]
      refine own_istore X8.here hx hby at_54 (l' := #[.val (.int p1), .val (.int p2), .val (.int p3), .val (.int p4), .val (.int p5), .val (.int p6), .val (.int ((p1 &&& (2147483647 : Int32)) % (93 : Int32))), .val (.int 126), .val (.ref x_8), .val (.int 0), .val (.int (p3 &&& (255 : Int32))), .val (.int (p4 &&& (255 : Int32))), .unset, .unset, .unset, .unset, .unset, .unset]) rfl ?_
      refine own_iload X8.here hx hby at_56 rfl ?_
      refine own_sipush X8.here hx hby at_58 (v := (255 : Int32)) (by decide) ?_
      refine own_iand X8.here hx hby at_61 rfl ?_
      refine own_i2c X8.here hx hby at_62 rfl ?_
      refine own_sh (T := T8) 63 #[.val (.int p1), .val (.int p2), .val (.int p3), .val (.int p4), .val (.int p5), .val (.int p6), .val (.int ((p1 &&& (2147483647 : Int32)) % (93 : Int32))), .val (.int 126), .val (.ref x_8), .val (.int 0), .val (.int (p3 &&& (255 : Int32))), .val (.int (p4 &&& (255 : Int32))), .unset, .unset, .unset, .unset, .unset, .unset] [(.int ((p5 &&& (255 : Int32)).toUInt32.toUInt16.toUInt32.toInt32))] ?_
      rw [show ((p5 &&& (255 : Int32)).toUInt32.toUInt16.toUInt32.toInt32) = (p5 &&& (255 : Int32)) from (i2c_mask p5)]
      refine own_istore X8.here hx hby at_63 (l' := #[.val (.int p1), .val (.int p2), .val (.int p3), .val (.int p4), .val (.int p5), .val (.int p6), .val (.int ((p1 &&& (2147483647 : Int32)) % (93 : Int32))), .val (.int 126), .val (.ref x_8), .val (.int 0), .val (.int (p3 &&& (255 : Int32))), .val (.int (p4 &&& (255 : Int32))), .val (.int (p5 &&& (255 : Int32))), .unset, .unset, .unset, .unset, .unset]) rfl ?_
      refine own_iload X8.here hx hby at_65 rfl ?_
      refine own_iload X8.here hx hby at_67 rfl ?_
      refine own_iload X8.here hx hby at_69 rfl ?_
      refine own_iload X8.here hx hby at_71 rfl ?_
      have f13 : Sta Z T8.heap "java/lang/String" "COMPACT_STRINGS" "Z" (.int zc) := (own_sta_keep S_COMPACT K8 all0)
      have z15 : n0 ≤ T8.heap.size := by omega
      refine own_callSH X8 hx hZ hEL hown (own_w hw 27 rfl) (own_w hw 28 rfl) (own_w hw 29 rfl) (own_w hw 30 rfl) (by decide) (str_0 l Z a0 hw [] (p3 &&& (255 : Int32)) (p4 &&& (255 : Int32)) (p5 &&& (255 : Int32)) zc T8.heap n0 z15 (own_c255 p3).1 (own_c255 p3).2 (own_c255 p4).1 (own_c255 p4).2 (own_c255 p5).1 (own_c255 p5).2 f13 hz) 0 (Nat.le_of_eq rfl) (by decide) (by decide) (by rw [hml]; rfl) (argsL := [(.int 0), (.int (p3 &&& (255 : Int32))), (.int (p4 &&& (255 : Int32))), (.int (p5 &&& (255 : Int32)))]) (st := []) (lenOf pd_18 rfl) rfl rfl (by decide) (by decide) rfl hby C10.1 hS0 (by omega) at_73 ?_
      intro T14 v14 L14 vm14 X14 hS14 hZ14 hown14 hg14 Cn14 hQ14
      obtain ⟨x_14, t_14, kb_14, rfl, Nq14, K14, P14_0, P14_1, P14_2, P14_3, P14_4⟩ := hQ14
      have N14 := Fr.app N8 Nq14
      have z16 : T8.heap.size ≤ T14.heap.size := K14.1
      have C17 := C10.trans Cn14
      have lt18 : T14.heap.size > x_14 := P14_1.lt
      have lt19 : T14.heap.size > t_14 := P14_4.lt
      refine own_sh (T := T14) 76 #[.val (.int p1), .val (.int p2), .val (.int p3), .val (.int p4), .val (.int p5), .val (.int p6), .val (.int ((p1 &&& (2147483647 : Int32)) % (93 : Int32))), .val (.int 126), .val (.ref x_8), .val (.int 0), .val (.int (p3 &&& (255 : Int32))), .val (.int (p4 &&& (255 : Int32))), .val (.int (p5 &&& (255 : Int32))), .unset, .unset, .unset, .unset, .unset] [(.ref x_14)] ?_
      refine own_astore X14.here hx hby at_76 rfl (l' := #[.val (.int p1), .val (.int p2), .val (.int p3), .val (.int p4), .val (.int p5), .val (.int p6), .val (.int ((p1 &&& (2147483647 : Int32)) % (93 : Int32))), .val (.int 126), .val (.ref x_8), .val (.int 0), .val (.int (p3 &&& (255 : Int32))), .val (.int (p4 &&& (255 : Int32))), .val (.int (p5 &&& (255 : Int32))), .val (.ref x_14), .unset, .unset, .unset, .unset]) rfl ?_
      refine own_iload X14.here hx hby at_78 rfl ?_
      refine own_iload X14.here hx hby at_80 rfl ?_
      refine own_iload X14.here hx hby at_82 rfl ?_
      refine own_iload X14.here hx hby at_84 rfl ?_
      have f20 : Sta Z T14.heap "java/lang/String" "COMPACT_STRINGS" "Z" (.int zc) := (own_sta_keep f13 K14 all0)
      have z22 : n0 ≤ T14.heap.size := by omega
      refine own_callSH X14 hx hZ14 hEL hown14 (own_w hw 27 rfl) (own_w hw 28 rfl) (own_w hw 29 rfl) (own_w hw 30 rfl) (by decide) (str_0 l Z a0 hw [] (p3 &&& (255 : Int32)) (p4 &&& (255 : Int32)) (p5 &&& (255 : Int32)) zc T14.heap n0 z22 (own_c255 p3).1 (own_c255 p3).2 (own_c255 p4).1 (own_c255 p4).2 (own_c255 p5).1 (own_c255 p5).2 f20 hz) 0 (Nat.le_of_eq rfl) (by decide) (by decide) (by rw [hml]; rfl) (argsL := [(.int 0), (.int (p3 &&& (255 : Int32))), (.int (p4 &&& (255 : Int32))), (.int (p5 &&& (255 : Int32)))]) (st := []) (lenOf pd_18 rfl) rfl rfl (by decide) (by decide) rfl hby C17.1 hS14 (by omega) at_86 ?_
      intro T21 v21 L21 vm21 X21 hS21 hZ21 hown21 hg21 Cn21 hQ21
      obtain ⟨x_21, t_21, kb_21, rfl, Nq21, K21, P21_0, P21_1, P21_2, P21_3, P21_4⟩ := hQ21
      have N21 := Fr.app N14 Nq21
      have z23 : T14.heap.size ≤ T21.heap.size := K21.1
      have C24 := C17.trans Cn21
      have lt25 : T21.heap.size > x_21 := P21_1.lt
      have lt26 : T21.heap.size > t_21 := P21_4.lt
      refine own_sh (T := T21) 89 #[.val (.int p1), .val (.int p2), .val (.int p3), .val (.int p4), .val (.int p5), .val (.int p6), .val (.int ((p1 &&& (2147483647 : Int32)) % (93 : Int32))), .val (.int 126), .val (.ref x_8), .val (.int 0), .val (.int (p3 &&& (255 : Int32))), .val (.int (p4 &&& (255 : Int32))), .val (.int (p5 &&& (255 : Int32))), .val (.ref x_14), .unset, .unset, .unset, .unset] [(.ref x_21)] ?_
      refine own_astore X21.here hx hby at_89 rfl (l' := #[.val (.int p1), .val (.int p2), .val (.int p3), .val (.int p4), .val (.int p5), .val (.int p6), .val (.int ((p1 &&& (2147483647 : Int32)) % (93 : Int32))), .val (.int 126), .val (.ref x_8), .val (.int 0), .val (.int (p3 &&& (255 : Int32))), .val (.int (p4 &&& (255 : Int32))), .val (.int (p5 &&& (255 : Int32))), .val (.ref x_14), .val (.ref x_21), .unset, .unset, .unset]) rfl ?_
      refine own_iload X21.here hx hby at_91 rfl ?_
      refine own_sipush X21.here hx hby at_93 (v := (255 : Int32)) (by decide) ?_
      refine own_iand X21.here hx hby at_96 rfl ?_
      refine own_i2c X21.here hx hby at_97 rfl ?_
      refine own_sh (T := T21) 98 #[.val (.int p1), .val (.int p2), .val (.int p3), .val (.int p4), .val (.int p5), .val (.int p6), .val (.int ((p1 &&& (2147483647 : Int32)) % (93 : Int32))), .val (.int 126), .val (.ref x_8), .val (.int 0), .val (.int (p3 &&& (255 : Int32))), .val (.int (p4 &&& (255 : Int32))), .val (.int (p5 &&& (255 : Int32))), .val (.ref x_14), .val (.ref x_21), .unset, .unset, .unset] [(.int ((p6 &&& (255 : Int32)).toUInt32.toUInt16.toUInt32.toInt32))] ?_
      rw [show ((p6 &&& (255 : Int32)).toUInt32.toUInt16.toUInt32.toInt32) = (p6 &&& (255 : Int32)) from (i2c_mask p6)]
      have f27 : Sta Z T21.heap "java/lang/String" "COMPACT_STRINGS" "Z" (.int zc) := (own_sta_keep f20 K21 all0)
      have z29 : n0 ≤ T21.heap.size := by omega
      refine own_callS X21 hx hZ21 hown21 (own_w hw 1 rfl) (own_w hw 2 rfl) (own_w hw 3 rfl) (own_w hw 4 rfl) (by decide) (valOf l Z a0 hw [] (p6 &&& (255 : Int32)) zc T21.heap n0 z29 f27 hz (own_c255 p6).2) 0 (Nat.le_of_eq rfl) (by decide) (by decide) (by rw [hml]; rfl) (argsL := [(.int (p6 &&& (255 : Int32)))]) (st := []) (lenOf pd_17 rfl) rfl rfl (by decide) (by decide) rfl hby at_98 ?_
      intro T28 v28 L28 X28 hQ28
      obtain ⟨x_28, t_28, kb_28, rfl, Nq28, K28, P28_0, P28_1, P28_2, P28_3, P28_4, P28_5, P28_6⟩ := hQ28
      have N28 := Fr.app N21 Nq28
      have z30 : T21.heap.size ≤ T28.heap.size := K28.1
      have C31 := C24.trans (CHr.keep K28 sf0 C24.1)
      have lt32 : T28.heap.size > x_28 := P28_3.lt
      have lt33 : T28.heap.size > t_28 := P28_6.lt
      refine own_sh (T := T28) 101 #[.val (.int p1), .val (.int p2), .val (.int p3), .val (.int p4), .val (.int p5), .val (.int p6), .val (.int ((p1 &&& (2147483647 : Int32)) % (93 : Int32))), .val (.int 126), .val (.ref x_8), .val (.int 0), .val (.int (p3 &&& (255 : Int32))), .val (.int (p4 &&& (255 : Int32))), .val (.int (p5 &&& (255 : Int32))), .val (.ref x_14), .val (.ref x_21), .unset, .unset, .unset] [(.ref x_28)] ?_
      refine own_astore X28.here hx hby at_101 rfl (l' := #[.val (.int p1), .val (.int p2), .val (.int p3), .val (.int p4), .val (.int p5), .val (.int p6), .val (.int ((p1 &&& (2147483647 : Int32)) % (93 : Int32))), .val (.int 126), .val (.ref x_8), .val (.int 0), .val (.int (p3 &&& (255 : Int32))), .val (.int (p4 &&& (255 : Int32))), .val (.int (p5 &&& (255 : Int32))), .val (.ref x_14), .val (.ref x_21), .val (.ref x_28), .unset, .unset]) rfl ?_
      refine own_newO X28 hx hZ21 hown21 (own_w hw 49 rfl) (own_w hw 50 rfl) (own_w hw 51 rfl) rfl hby at_103 (by decide) (by decide) ?_
      intro T34 h34 b34 X34 e34 E34 g34 A34 D34 lt34
      have z35 : T28.heap.size ≤ h34.size := E34.1
      have C36 := C31.trans (CHr.ext E34 C31.1)
      have F37 : Fld Z h34 b34 "com/example/tiny_context/tinycontext/Resource" "id" "Ljava/lang/String;" .null := D34 (Or.inr (own_w hw 101 rfl)) (ty := (.object "java/lang/String")) (by decide)
      have F38 : Fld Z h34 b34 "com/example/tiny_context/tinycontext/Resource" "value" "Ljava/lang/Object;" .null := D34 (Or.inr (own_w hw 103 rfl)) (ty := (.object "java/lang/Object")) (by decide)
      refine own_dup X34.here hx hby at_106 rfl ?_
      refine own_aload X34.here hx hby at_107 rfl rfl ?_
      refine own_aload X34.here hx hby at_109 rfl rfl ?_
      have f39 : Exa Z h34 x_8 "java/lang/String" := ((((P8_3.keep K14).keep K21).keep K28).ext E34)
      have f40 : Fld Z h34 x_8 "java/lang/String" "coder" "B" (.int 0) := ((((P8_4.keep K14 nin0).keep K21 nin0).keep K28 nin0).ext E34)
      have f41 : Fld Z h34 x_8 "java/lang/String" "value" "[B" (.ref t_8) := ((((P8_5.keep K14 nin0).keep K21 nin0).keep K28 nin0).ext E34)
      have f42 : Arv Z h34 t_8 kb_8 .byte (1 : Int32) [(.int ((126 : Int32).toInt8.toInt32))] (.int 0) := ((((P8_6.keep K14 nin0).keep K21 nin0).keep K28 nin0).ext E34)
      have f43 : Sta Z h34 "java/lang/String" "COMPACT_STRINGS" "Z" (.int zc) := ((own_sta_keep f27 K28 all0).ext E34)
      have f44 : Sta Z h34 "jdk/internal/util/Preconditions" "SIOOBE_FORMATTER" "Ljava/util/function/BiFunction;" fm := ((own_sta_keep (own_sta_keep (own_sta_keep (own_sta_keep S_FM K8 all0) K14 all0) K21 all0) K28 all0).ext E34)
      have z46 : n0 ≤ h34.size := by omega
      refine own_specialH X34 hx hZ21 hEL rfl hown21 (own_w hw 52 rfl) (own_w hw 53 rfl) (own_w hw 51 rfl) (own_w hw 54 rfl) (by decide) (resInit3 l Z a0 hw [] b34 x_14 x_8 t_8 kb_8 zc fm (126 : Int32) h34 n0 z46 A34 (by omega) F37 F38 f39 f40 f41 f42 f43 hz f44 hfm (by decide) (by decide) (by decide) (by decide) (by decide)) 1 (Nat.le_of_eq rfl) (by decide) (by decide) (by rw [hml]; rfl) (argsL := [(.ref x_8), (.ref x_14)]) (st := [(.ref b34)]) (a := b34) (lenOf pd_19 rfl) rfl rfl (by decide) (by decide) e34 hby C36.1 hS21 (by omega) at_111 ?_
      intro T45 v45 L45 vm45 X45 hS45 hZ45 hown45 hg45 Cn45 hQ45
      obtain ⟨rfl, Nq45, K45, P45_0, P45_1, P45_2⟩ := hQ45
      have N45 := Fr.app N28 Nq45
      have z47 : h34.size ≤ T45.heap.size := K45.1
      have C48 := C36.trans Cn45
      have lt49 : T45.heap.size > b34 := P45_0.lt
      refine own_sh (T := T45) 114 #[.val (.int p1), .val (.int p2), .val (.int p3), .val (.int p4), .val (.int p5), .val (.int p6), .val (.int ((p1 &&& (2147483647 : Int32)) % (93 : Int32))), .val (.int 126), .val (.ref x_8), .val (.int 0), .val (.int (p3 &&& (255 : Int32))), .val (.int (p4 &&& (255 : Int32))), .val (.int (p5 &&& (255 : Int32))), .val (.ref x_14), .val (.ref x_21), .val (.ref x_28), .unset, .unset] [(.ref b34)] ?_
      refine own_astore X45.here hx hby at_114 rfl (l' := #[.val (.int p1), .val (.int p2), .val (.int p3), .val (.int p4), .val (.int p5), .val (.int p6), .val (.int ((p1 &&& (2147483647 : Int32)) % (93 : Int32))), .val (.int 126), .val (.ref x_8), .val (.int 0), .val (.int (p3 &&& (255 : Int32))), .val (.int (p4 &&& (255 : Int32))), .val (.int (p5 &&& (255 : Int32))), .val (.ref x_14), .val (.ref x_21), .val (.ref x_28), .val (.ref b34), .unset]) rfl ?_
      refine own_aload X45.here hx hby at_116 rfl rfl ?_
      refine own_aload X45.here hx hby at_118 rfl rfl ?_
      have f50 : Exa Z T45.heap x_14 "java/lang/String" := ((((P14_1.keep K21).keep K28).ext E34).keep K45)
      have z52 : n0 ≤ T45.heap.size := by omega
      refine own_callS X45 hx hZ45 hown45 (own_w hw 104 rfl) (own_w hw 105 rfl) (own_w hw 106 rfl) (own_w hw 107 rfl) (by decide) (accValue l Z a0 hw [] b34 x_14 x_28 T45.heap n0 z52 P45_0 P45_2 f50) 0 (Nat.le_of_eq rfl) (by decide) (by decide) (by rw [hml]; rfl) (argsL := [(.ref b34), (.ref x_28)]) (st := []) (lenOf pd_20 rfl) rfl rfl (by decide) (by decide) rfl hby at_120 ?_
      intro T51 v51 L51 X51 hQ51
      obtain ⟨rfl, Nq51, eh51⟩ := hQ51
      have N51 := Fr.app N45 Nq51
      refine own_sh (T := T51) 123 #[.val (.int p1), .val (.int p2), .val (.int p3), .val (.int p4), .val (.int p5), .val (.int p6), .val (.int ((p1 &&& (2147483647 : Int32)) % (93 : Int32))), .val (.int 126), .val (.ref x_8), .val (.int 0), .val (.int (p3 &&& (255 : Int32))), .val (.int (p4 &&& (255 : Int32))), .val (.int (p5 &&& (255 : Int32))), .val (.ref x_14), .val (.ref x_21), .val (.ref x_28), .val (.ref b34), .unset] [(.ref x_14)] ?_
      refine own_astore X51.here hx hby at_123 rfl (l' := #[.val (.int p1), .val (.int p2), .val (.int p3), .val (.int p4), .val (.int p5), .val (.int p6), .val (.int ((p1 &&& (2147483647 : Int32)) % (93 : Int32))), .val (.int 126), .val (.ref x_8), .val (.int 0), .val (.int (p3 &&& (255 : Int32))), .val (.int (p4 &&& (255 : Int32))), .val (.int (p5 &&& (255 : Int32))), .val (.ref x_14), .val (.ref x_21), .val (.ref x_28), .val (.ref b34), .val (.ref x_14)]) rfl ?_
      refine own_aload X51.here hx hby at_125 rfl rfl ?_
      refine own_aload X51.here hx hby at_127 rfl rfl ?_
      refine own_acmp X51 hx (same := true) (pc' := 132) hby at_129 rfl rfl (decide_eq_true rfl) (by decide) (by decide) ?_
      refine own_aload X51.here hx hby at_132 rfl rfl ?_
      refine own_aload X51.here hx hby at_134 rfl rfl ?_
      have f53 : Exa Z T45.heap x_21 "java/lang/String" := (((P21_1.keep K28).ext E34).keep K45)
      have f54 : Fld Z T45.heap x_14 "java/lang/String" "coder" "B" (.int 0) := ((((P14_2.keep K21 nin0).keep K28 nin0).ext E34).keep K45 (ninS (own_nn (by omega)) nin0))
      have f55 : Fld Z T45.heap x_14 "java/lang/String" "value" "[B" (.ref t_14) := ((((P14_3.keep K21 nin0).keep K28 nin0).ext E34).keep K45 (ninS (own_nn (by omega)) nin0))
      have f56 : Arv Z T45.heap t_14 kb_14 .byte (0 : Int32) [] (.int 0) := ((((P14_4.keep K21 nin0).keep K28 nin0).ext E34).keep K45 (ninS (own_nn (by omega)) nin0))
      have f57 : Fld Z T45.heap x_21 "java/lang/String" "coder" "B" (.int 0) := (((P21_2.keep K28 nin0).ext E34).keep K45 (ninS (own_nn (by omega)) nin0))
      have f58 : Fld Z T45.heap x_21 "java/lang/String" "value" "[B" (.ref t_21) := (((P21_3.keep K28 nin0).ext E34).keep K45 (ninS (own_nn (by omega)) nin0))
      have f59 : Arv Z T45.heap t_21 kb_21 .byte (0 : Int32) [] (.int 0) := (((P21_4.keep K28 nin0).ext E34).keep K45 (ninS (own_nn (by omega)) nin0))
      have f60 : Sta Z T45.heap "java/lang/String" "COMPACT_STRINGS" "Z" (.int zc) := (own_sta_keep f43 K45 (allS (own_exa_plain A34) all0))
      refine own_virtual X51 hx hZ45 hown45 (own_w hw 114 rfl) (own_w hw 115 rfl) (notFace_of_selects (args := #[]) (mvT hZ45 (own_w hw 117 rfl))) (own_w hw 117 rfl) (own_w hw 116 rfl) (own_w hw 3 rfl) (own_w hw 118 rfl) (by decide) (strEq_0 l Z a0 hw [] x_14 x_21 t_14 t_21 kb_14 kb_21 zc T45.heap n0 z52 f50 f53 (own_nn (by omega)) f54 f55 f56 f57 f58 f59 f60 hz) 0 (Nat.le_of_eq rfl) (by decide) (by decide) (by rw [hml]; rfl) (argsL := [(.ref x_21)]) (st := []) f50 (lenOf pd_21 rfl) rfl rfl (by decide) (by decide) eh51 hby at_136 ?_
      intro T61 v61 L61 X61 hQ61
      obtain ⟨rfl, Nq61, eh61⟩ := hQ61
      have N61 := Fr.app N51 Nq61
      refine own_sh (T := T61) 139 #[.val (.int p1), .val (.int p2), .val (.int p3), .val (.int p4), .val (.int p5), .val (.int p6), .val (.int ((p1 &&& (2147483647 : Int32)) % (93 : Int32))), .val (.int 126), .val (.ref x_8), .val (.int 0), .val (.int (p3 &&& (255 : Int32))), .val (.int (p4 &&& (255 : Int32))), .val (.int (p5 &&& (255 : Int32))), .val (.ref x_14), .val (.ref x_21), .val (.ref x_28), .val (.ref b34), .val (.ref x_14)] [(.int 1)] ?_
      refine own_ifNo X61.here hx hby at_139 ((if0 _ _).trans (feq (show ¬ ((1 : Int32) = (0 : Int32)) from (by decide))).1) ?_
      refine own_aload X61.here hx hby at_142 rfl rfl ?_
      refine own_virtual X61 hx hZ45 hown45 (own_w hw 122 rfl) (own_w hw 70 rfl) (notFace_of_selects (args := #[]) (mvT hZ45 (own_w hw 72 rfl))) (own_w hw 72 rfl) (own_w hw 71 rfl) (own_w hw 3 rfl) (own_w hw 73 rfl) (by decide) (strLen_0 l Z a0 hw [] x_14 t_14 kb_14 zc ([]) T45.heap n0 z52 f50 f54 f55 f56 f60 hz) 0 (Nat.le_of_eq rfl) (by decide) (by decide) (by rw [hml]; rfl) (argsL := []) (st := []) f50 (lenOf pd_11 rfl) rfl rfl (by decide) (by decide) eh61 hby at_144 ?_
      intro T62 v62 L62 X62 hQ62
      obtain ⟨rfl, Nq62, eh62⟩ := hQ62
      have N62 := Fr.app N61 Nq62
      refine own_sh (T := T62) 147 #[.val (.int p1), .val (.int p2), .val (.int p3), .val (.int p4), .val (.int p5), .val (.int p6), .val (.int ((p1 &&& (2147483647 : Int32)) % (93 : Int32))), .val (.int 126), .val (.ref x_8), .val (.int 0), .val (.int (p3 &&& (255 : Int32))), .val (.int (p4 &&& (255 : Int32))), .val (.int (p5 &&& (255 : Int32))), .val (.ref x_14), .val (.ref x_21), .val (.ref x_28), .val (.ref b34), .val (.ref x_14)] [(.int 0)] ?_
      refine own_iload X62.here hx hby at_147 rfl ?_
      refine own_icmpNo X62.here hx hby at_149 (teq (show (0 : Int32) = (0 : Int32) from (by decide))).2 ?_
      refine own_aload X62.here hx hby at_152 rfl rfl ?_
      refine own_virtual X62 hx hZ45 hown45 (own_w hw 123 rfl) (own_w hw 109 rfl) (notFace_of_selects (args := #[]) (mvT hZ45 (own_w hw 111 rfl))) (own_w hw 111 rfl) (own_w hw 110 rfl) (own_w hw 51 rfl) (own_w hw 112 rfl) (by decide) (resValue l Z a0 hw [] b34 x_14 T45.heap n0 z52 P45_2) 0 (Nat.le_of_eq rfl) (by decide) (by decide) (by rw [hml]; rfl) (argsL := []) (st := []) P45_0 (lenOf pd_15 rfl) rfl rfl (by decide) (by decide) eh62 hby at_154 ?_
      intro T63 v63 L63 X63 hQ63
      obtain ⟨rfl, Nq63, eh63⟩ := hQ63
      have N63 := Fr.app N62 Nq63
      refine own_sh (T := T63) 157 #[.val (.int p1), .val (.int p2), .val (.int p3), .val (.int p4), .val (.int p5), .val (.int p6), .val (.int ((p1 &&& (2147483647 : Int32)) % (93 : Int32))), .val (.int 126), .val (.ref x_8), .val (.int 0), .val (.int (p3 &&& (255 : Int32))), .val (.int (p4 &&& (255 : Int32))), .val (.int (p5 &&& (255 : Int32))), .val (.ref x_14), .val (.ref x_21), .val (.ref x_28), .val (.ref b34), .val (.ref x_14)] [(.ref x_14)] ?_
      refine own_aload X63.here hx hby at_157 rfl rfl ?_
      refine own_acmp X63 hx (same := true) (pc' := 162) hby at_159 rfl rfl (decide_eq_true rfl) (by decide) (by decide) ?_
      refine own_iconst X63.here hx hby at_162 (v := (1 : Int32)) (by decide) ?_
      refine own_goto X63.here hx hby (pc' := 167) at_163 (by decide) (by decide) ?_
      obtain ⟨fs, hr, hrun, hended, hRW⟩ := X63.leaveW hS45 (by rw [eh63]; omega) (v := some (.int 1)) (fun h => by rw [Bd.returns] at h; cases h)
      have hCf : CHr Z consts_1 s.vm s.heap T63.vm T63.heap := by
        rw [hh, eh63]
        exact C48.trans (CHv.at X63 hZ45 hEL C48.1)
      refine own_ret (t := T63.setFrames fs) ?_ ⟨_, hrun, hended, _, _, rfl, ?_, hCf, hRW.1, hRW.2.1, hRW.2.2.1, hRW.2.2.2.mono (by decide) (by decide)⟩
      · exact retN X63 hx (t := .boolean) Bd.returns (by simp) (hb hby at_167) hr
      · show Q_rm0 Z p1 p2 p3 p4 p5 p6 zc fm h0 n0 _ T63.heap _
        rw [eh63]
        exact ⟨rfl, N63, trivial⟩
    · rw [hk]
      refine own_istore X8.here hx hby at_38 (l' := #[.val (.int p1), .val (.int p2), .val (.int p3), .val (.int p4), .val (.int p5), .val (.int p6), .val (.int ((p1 &&& (2147483647 : Int32)) % (93 : Int32))), .val (.int 126), .val (.ref x_8), .val (.int 1), .unset, .unset, .unset, .unset, .unset, .unset, .unset, .unset]) rfl ?_
      refine own_iloadN X8.here hx hby at_40 rfl ?_
      refine own_sipush X8.here hx hby at_41 (v := (255 : Int32)) (by decide) ?_
      refine own_iand X8.here hx hby at_44 rfl ?_
      refine own_i2c X8.here hx hby at_45 rfl ?_
      refine own_sh (T := T8) 46 #[.val (.int p1), .val (.int p2), .val (.int p3), .val (.int p4), .val (.int p5), .val (.int p6), .val (.int ((p1 &&& (2147483647 : Int32)) % (93 : Int32))), .val (.int 126), .val (.ref x_8), .val (.int 1), .unset, .unset, .unset, .unset, .unset, .unset, .unset, .unset] [(.int ((p3 &&& (255 : Int32)).toUInt32.toUInt16.toUInt32.toInt32))] ?_
      rw [show ((p3 &&& (255 : Int32)).toUInt32.toUInt16.toUInt32.toInt32) = (p3 &&& (255 : Int32)) from (i2c_mask p3)]
      refine own_istore X8.here hx hby at_46 (l' := #[.val (.int p1), .val (.int p2), .val (.int p3), .val (.int p4), .val (.int p5), .val (.int p6), .val (.int ((p1 &&& (2147483647 : Int32)) % (93 : Int32))), .val (.int 126), .val (.ref x_8), .val (.int 1), .val (.int (p3 &&& (255 : Int32))), .unset, .unset, .unset, .unset, .unset, .unset, .unset]) rfl ?_
      refine own_iloadN X8.here hx hby at_48 rfl ?_
      refine own_sipush X8.here hx hby at_49 (v := (255 : Int32)) (by decide) ?_
      refine own_iand X8.here hx hby at_52 rfl ?_
      refine own_i2c X8.here hx hby at_53 rfl ?_
      refine own_sh (T := T8) 54 #[.val (.int p1), .val (.int p2), .val (.int p3), .val (.int p4), .val (.int p5), .val (.int p6), .val (.int ((p1 &&& (2147483647 : Int32)) % (93 : Int32))), .val (.int 126), .val (.ref x_8), .val (.int 1), .val (.int (p3 &&& (255 : Int32))), .unset, .unset, .unset, .unset, .unset, .unset, .unset] [(.int ((p4 &&& (255 : Int32)).toUInt32.toUInt16.toUInt32.toInt32))] ?_
      rw [show ((p4 &&& (255 : Int32)).toUInt32.toUInt16.toUInt32.toInt32) = (p4 &&& (255 : Int32)) from (i2c_mask p4)]
      refine own_istore X8.here hx hby at_54 (l' := #[.val (.int p1), .val (.int p2), .val (.int p3), .val (.int p4), .val (.int p5), .val (.int p6), .val (.int ((p1 &&& (2147483647 : Int32)) % (93 : Int32))), .val (.int 126), .val (.ref x_8), .val (.int 1), .val (.int (p3 &&& (255 : Int32))), .val (.int (p4 &&& (255 : Int32))), .unset, .unset, .unset, .unset, .unset, .unset]) rfl ?_
      refine own_iload X8.here hx hby at_56 rfl ?_
      refine own_sipush X8.here hx hby at_58 (v := (255 : Int32)) (by decide) ?_
      refine own_iand X8.here hx hby at_61 rfl ?_
      refine own_i2c X8.here hx hby at_62 rfl ?_
      refine own_sh (T := T8) 63 #[.val (.int p1), .val (.int p2), .val (.int p3), .val (.int p4), .val (.int p5), .val (.int p6), .val (.int ((p1 &&& (2147483647 : Int32)) % (93 : Int32))), .val (.int 126), .val (.ref x_8), .val (.int 1), .val (.int (p3 &&& (255 : Int32))), .val (.int (p4 &&& (255 : Int32))), .unset, .unset, .unset, .unset, .unset, .unset] [(.int ((p5 &&& (255 : Int32)).toUInt32.toUInt16.toUInt32.toInt32))] ?_
      rw [show ((p5 &&& (255 : Int32)).toUInt32.toUInt16.toUInt32.toInt32) = (p5 &&& (255 : Int32)) from (i2c_mask p5)]
      refine own_istore X8.here hx hby at_63 (l' := #[.val (.int p1), .val (.int p2), .val (.int p3), .val (.int p4), .val (.int p5), .val (.int p6), .val (.int ((p1 &&& (2147483647 : Int32)) % (93 : Int32))), .val (.int 126), .val (.ref x_8), .val (.int 1), .val (.int (p3 &&& (255 : Int32))), .val (.int (p4 &&& (255 : Int32))), .val (.int (p5 &&& (255 : Int32))), .unset, .unset, .unset, .unset, .unset]) rfl ?_
      refine own_iload X8.here hx hby at_65 rfl ?_
      refine own_iload X8.here hx hby at_67 rfl ?_
      refine own_iload X8.here hx hby at_69 rfl ?_
      refine own_iload X8.here hx hby at_71 rfl ?_
      have f64 : Sta Z T8.heap "java/lang/String" "COMPACT_STRINGS" "Z" (.int zc) := (own_sta_keep S_COMPACT K8 all0)
      have z66 : n0 ≤ T8.heap.size := by omega
      refine own_callS X8 hx hZ hown (own_w hw 27 rfl) (own_w hw 28 rfl) (own_w hw 29 rfl) (own_w hw 30 rfl) (by decide) (str_1 l Z a0 hw [] (p3 &&& (255 : Int32)) (p4 &&& (255 : Int32)) (p5 &&& (255 : Int32)) zc T8.heap n0 z66 (own_c255 p3).1 (own_c255 p3).2 (own_c255 p4).1 (own_c255 p4).2 (own_c255 p5).1 (own_c255 p5).2 f64 hz) 0 (Nat.le_of_eq rfl) (by decide) (by decide) (by rw [hml]; rfl) (argsL := [(.int 1), (.int (p3 &&& (255 : Int32))), (.int (p4 &&& (255 : Int32))), (.int (p5 &&& (255 : Int32)))]) (st := []) (lenOf pd_18 rfl) rfl rfl (by decide) (by decide) rfl hby at_73 ?_
      intro T65 v65 L65 X65 hQ65
      obtain ⟨x_65, t_65, kb_65, rfl, Nq65, K65, P65_0, P65_1, P65_2, P65_3, P65_4⟩ := hQ65
      have N65 := Fr.app N8 Nq65
      have z67 : T8.heap.size ≤ T65.heap.size := K65.1
      have C68 := C10.trans (CHr.keep K65 sf0 C10.1)
      have lt69 : T65.heap.size > x_65 := P65_1.lt
      have lt70 : T65.heap.size > t_65 := P65_4.lt
      refine own_sh (T := T65) 76 #[.val (.int p1), .val (.int p2), .val (.int p3), .val (.int p4), .val (.int p5), .val (.int p6), .val (.int ((p1 &&& (2147483647 : Int32)) % (93 : Int32))), .val (.int 126), .val (.ref x_8), .val (.int 1), .val (.int (p3 &&& (255 : Int32))), .val (.int (p4 &&& (255 : Int32))), .val (.int (p5 &&& (255 : Int32))), .unset, .unset, .unset, .unset, .unset] [(.ref x_65)] ?_
      refine own_astore X65.here hx hby at_76 rfl (l' := #[.val (.int p1), .val (.int p2), .val (.int p3), .val (.int p4), .val (.int p5), .val (.int p6), .val (.int ((p1 &&& (2147483647 : Int32)) % (93 : Int32))), .val (.int 126), .val (.ref x_8), .val (.int 1), .val (.int (p3 &&& (255 : Int32))), .val (.int (p4 &&& (255 : Int32))), .val (.int (p5 &&& (255 : Int32))), .val (.ref x_65), .unset, .unset, .unset, .unset]) rfl ?_
      refine own_iload X65.here hx hby at_78 rfl ?_
      refine own_iload X65.here hx hby at_80 rfl ?_
      refine own_iload X65.here hx hby at_82 rfl ?_
      refine own_iload X65.here hx hby at_84 rfl ?_
      have f71 : Sta Z T65.heap "java/lang/String" "COMPACT_STRINGS" "Z" (.int zc) := (own_sta_keep f64 K65 all0)
      have z73 : n0 ≤ T65.heap.size := by omega
      refine own_callS X65 hx hZ hown (own_w hw 27 rfl) (own_w hw 28 rfl) (own_w hw 29 rfl) (own_w hw 30 rfl) (by decide) (str_1 l Z a0 hw [] (p3 &&& (255 : Int32)) (p4 &&& (255 : Int32)) (p5 &&& (255 : Int32)) zc T65.heap n0 z73 (own_c255 p3).1 (own_c255 p3).2 (own_c255 p4).1 (own_c255 p4).2 (own_c255 p5).1 (own_c255 p5).2 f71 hz) 0 (Nat.le_of_eq rfl) (by decide) (by decide) (by rw [hml]; rfl) (argsL := [(.int 1), (.int (p3 &&& (255 : Int32))), (.int (p4 &&& (255 : Int32))), (.int (p5 &&& (255 : Int32)))]) (st := []) (lenOf pd_18 rfl) rfl rfl (by decide) (by decide) rfl hby at_86 ?_
      intro T72 v72 L72 X72 hQ72
      obtain ⟨x_72, t_72, kb_72, rfl, Nq72, K72, P72_0, P72_1, P72_2, P72_3, P72_4⟩ := hQ72
      have N72 := Fr.app N65 Nq72
      have z74 : T65.heap.size ≤ T72.heap.size := K72.1
      have C75 := C68.trans (CHr.keep K72 sf0 C68.1)
      have lt76 : T72.heap.size > x_72 := P72_1.lt
      have lt77 : T72.heap.size > t_72 := P72_4.lt
      refine own_sh (T := T72) 89 #[.val (.int p1), .val (.int p2), .val (.int p3), .val (.int p4), .val (.int p5), .val (.int p6), .val (.int ((p1 &&& (2147483647 : Int32)) % (93 : Int32))), .val (.int 126), .val (.ref x_8), .val (.int 1), .val (.int (p3 &&& (255 : Int32))), .val (.int (p4 &&& (255 : Int32))), .val (.int (p5 &&& (255 : Int32))), .val (.ref x_65), .unset, .unset, .unset, .unset] [(.ref x_72)] ?_
      refine own_astore X72.here hx hby at_89 rfl (l' := #[.val (.int p1), .val (.int p2), .val (.int p3), .val (.int p4), .val (.int p5), .val (.int p6), .val (.int ((p1 &&& (2147483647 : Int32)) % (93 : Int32))), .val (.int 126), .val (.ref x_8), .val (.int 1), .val (.int (p3 &&& (255 : Int32))), .val (.int (p4 &&& (255 : Int32))), .val (.int (p5 &&& (255 : Int32))), .val (.ref x_65), .val (.ref x_72), .unset, .unset, .unset]) rfl ?_
      refine own_iload X72.here hx hby at_91 rfl ?_
      refine own_sipush X72.here hx hby at_93 (v := (255 : Int32)) (by decide) ?_
      refine own_iand X72.here hx hby at_96 rfl ?_
      refine own_i2c X72.here hx hby at_97 rfl ?_
      refine own_sh (T := T72) 98 #[.val (.int p1), .val (.int p2), .val (.int p3), .val (.int p4), .val (.int p5), .val (.int p6), .val (.int ((p1 &&& (2147483647 : Int32)) % (93 : Int32))), .val (.int 126), .val (.ref x_8), .val (.int 1), .val (.int (p3 &&& (255 : Int32))), .val (.int (p4 &&& (255 : Int32))), .val (.int (p5 &&& (255 : Int32))), .val (.ref x_65), .val (.ref x_72), .unset, .unset, .unset] [(.int ((p6 &&& (255 : Int32)).toUInt32.toUInt16.toUInt32.toInt32))] ?_
      rw [show ((p6 &&& (255 : Int32)).toUInt32.toUInt16.toUInt32.toInt32) = (p6 &&& (255 : Int32)) from (i2c_mask p6)]
      have f78 : Sta Z T72.heap "java/lang/String" "COMPACT_STRINGS" "Z" (.int zc) := (own_sta_keep f71 K72 all0)
      have z80 : n0 ≤ T72.heap.size := by omega
      refine own_callS X72 hx hZ hown (own_w hw 1 rfl) (own_w hw 2 rfl) (own_w hw 3 rfl) (own_w hw 4 rfl) (by decide) (valOf l Z a0 hw [] (p6 &&& (255 : Int32)) zc T72.heap n0 z80 f78 hz (own_c255 p6).2) 0 (Nat.le_of_eq rfl) (by decide) (by decide) (by rw [hml]; rfl) (argsL := [(.int (p6 &&& (255 : Int32)))]) (st := []) (lenOf pd_17 rfl) rfl rfl (by decide) (by decide) rfl hby at_98 ?_
      intro T79 v79 L79 X79 hQ79
      obtain ⟨x_79, t_79, kb_79, rfl, Nq79, K79, P79_0, P79_1, P79_2, P79_3, P79_4, P79_5, P79_6⟩ := hQ79
      have N79 := Fr.app N72 Nq79
      have z81 : T72.heap.size ≤ T79.heap.size := K79.1
      have C82 := C75.trans (CHr.keep K79 sf0 C75.1)
      have lt83 : T79.heap.size > x_79 := P79_3.lt
      have lt84 : T79.heap.size > t_79 := P79_6.lt
      refine own_sh (T := T79) 101 #[.val (.int p1), .val (.int p2), .val (.int p3), .val (.int p4), .val (.int p5), .val (.int p6), .val (.int ((p1 &&& (2147483647 : Int32)) % (93 : Int32))), .val (.int 126), .val (.ref x_8), .val (.int 1), .val (.int (p3 &&& (255 : Int32))), .val (.int (p4 &&& (255 : Int32))), .val (.int (p5 &&& (255 : Int32))), .val (.ref x_65), .val (.ref x_72), .unset, .unset, .unset] [(.ref x_79)] ?_
      refine own_astore X79.here hx hby at_101 rfl (l' := #[.val (.int p1), .val (.int p2), .val (.int p3), .val (.int p4), .val (.int p5), .val (.int p6), .val (.int ((p1 &&& (2147483647 : Int32)) % (93 : Int32))), .val (.int 126), .val (.ref x_8), .val (.int 1), .val (.int (p3 &&& (255 : Int32))), .val (.int (p4 &&& (255 : Int32))), .val (.int (p5 &&& (255 : Int32))), .val (.ref x_65), .val (.ref x_72), .val (.ref x_79), .unset, .unset]) rfl ?_
      refine own_newO X79 hx hZ hown (own_w hw 49 rfl) (own_w hw 50 rfl) (own_w hw 51 rfl) rfl hby at_103 (by decide) (by decide) ?_
      intro T85 h85 b85 X85 e85 E85 g85 A85 D85 lt85
      have z86 : T79.heap.size ≤ h85.size := E85.1
      have C87 := C82.trans (CHr.ext E85 C82.1)
      have F88 : Fld Z h85 b85 "com/example/tiny_context/tinycontext/Resource" "id" "Ljava/lang/String;" .null := D85 (Or.inr (own_w hw 101 rfl)) (ty := (.object "java/lang/String")) (by decide)
      have F89 : Fld Z h85 b85 "com/example/tiny_context/tinycontext/Resource" "value" "Ljava/lang/Object;" .null := D85 (Or.inr (own_w hw 103 rfl)) (ty := (.object "java/lang/Object")) (by decide)
      refine own_dup X85.here hx hby at_106 rfl ?_
      refine own_aload X85.here hx hby at_107 rfl rfl ?_
      refine own_aload X85.here hx hby at_109 rfl rfl ?_
      have f90 : Exa Z h85 x_8 "java/lang/String" := ((((P8_3.keep K65).keep K72).keep K79).ext E85)
      have f91 : Fld Z h85 x_8 "java/lang/String" "coder" "B" (.int 0) := ((((P8_4.keep K65 nin0).keep K72 nin0).keep K79 nin0).ext E85)
      have f92 : Fld Z h85 x_8 "java/lang/String" "value" "[B" (.ref t_8) := ((((P8_5.keep K65 nin0).keep K72 nin0).keep K79 nin0).ext E85)
      have f93 : Arv Z h85 t_8 kb_8 .byte (1 : Int32) [(.int ((126 : Int32).toInt8.toInt32))] (.int 0) := ((((P8_6.keep K65 nin0).keep K72 nin0).keep K79 nin0).ext E85)
      have f94 : Sta Z h85 "java/lang/String" "COMPACT_STRINGS" "Z" (.int zc) := ((own_sta_keep f78 K79 all0).ext E85)
      have f95 : Sta Z h85 "jdk/internal/util/Preconditions" "SIOOBE_FORMATTER" "Ljava/util/function/BiFunction;" fm := ((own_sta_keep (own_sta_keep (own_sta_keep (own_sta_keep S_FM K8 all0) K65 all0) K72 all0) K79 all0).ext E85)
      have z97 : n0 ≤ h85.size := by omega
      refine own_specialH X85 hx hZ hEL rfl hown (own_w hw 52 rfl) (own_w hw 53 rfl) (own_w hw 51 rfl) (own_w hw 54 rfl) (by decide) (resInit3 l Z a0 hw [] b85 x_65 x_8 t_8 kb_8 zc fm (126 : Int32) h85 n0 z97 A85 (by omega) F88 F89 f90 f91 f92 f93 f94 hz f95 hfm (by decide) (by decide) (by decide) (by decide) (by decide)) 1 (Nat.le_of_eq rfl) (by decide) (by decide) (by rw [hml]; rfl) (argsL := [(.ref x_8), (.ref x_65)]) (st := [(.ref b85)]) (a := b85) (lenOf pd_19 rfl) rfl rfl (by decide) (by decide) e85 hby C87.1 hS0 (by omega) at_111 ?_
      intro T96 v96 L96 vm96 X96 hS96 hZ96 hown96 hg96 Cn96 hQ96
      obtain ⟨rfl, Nq96, K96, P96_0, P96_1, P96_2⟩ := hQ96
      have N96 := Fr.app N79 Nq96
      have z98 : h85.size ≤ T96.heap.size := K96.1
      have C99 := C87.trans Cn96
      have lt100 : T96.heap.size > b85 := P96_0.lt
      refine own_sh (T := T96) 114 #[.val (.int p1), .val (.int p2), .val (.int p3), .val (.int p4), .val (.int p5), .val (.int p6), .val (.int ((p1 &&& (2147483647 : Int32)) % (93 : Int32))), .val (.int 126), .val (.ref x_8), .val (.int 1), .val (.int (p3 &&& (255 : Int32))), .val (.int (p4 &&& (255 : Int32))), .val (.int (p5 &&& (255 : Int32))), .val (.ref x_65), .val (.ref x_72), .val (.ref x_79), .unset, .unset] [(.ref b85)] ?_
      refine own_astore X96.here hx hby at_114 rfl (l' := #[.val (.int p1), .val (.int p2), .val (.int p3), .val (.int p4), .val (.int p5), .val (.int p6), .val (.int ((p1 &&& (2147483647 : Int32)) % (93 : Int32))), .val (.int 126), .val (.ref x_8), .val (.int 1), .val (.int (p3 &&& (255 : Int32))), .val (.int (p4 &&& (255 : Int32))), .val (.int (p5 &&& (255 : Int32))), .val (.ref x_65), .val (.ref x_72), .val (.ref x_79), .val (.ref b85), .unset]) rfl ?_
      refine own_aload X96.here hx hby at_116 rfl rfl ?_
      refine own_aload X96.here hx hby at_118 rfl rfl ?_
      have f101 : Exa Z T96.heap x_65 "java/lang/String" := ((((P65_1.keep K72).keep K79).ext E85).keep K96)
      have z103 : n0 ≤ T96.heap.size := by omega
      refine own_callS X96 hx hZ96 hown96 (own_w hw 104 rfl) (own_w hw 105 rfl) (own_w hw 106 rfl) (own_w hw 107 rfl) (by decide) (accValue l Z a0 hw [] b85 x_65 x_79 T96.heap n0 z103 P96_0 P96_2 f101) 0 (Nat.le_of_eq rfl) (by decide) (by decide) (by rw [hml]; rfl) (argsL := [(.ref b85), (.ref x_79)]) (st := []) (lenOf pd_20 rfl) rfl rfl (by decide) (by decide) rfl hby at_120 ?_
      intro T102 v102 L102 X102 hQ102
      obtain ⟨rfl, Nq102, eh102⟩ := hQ102
      have N102 := Fr.app N96 Nq102
      refine own_sh (T := T102) 123 #[.val (.int p1), .val (.int p2), .val (.int p3), .val (.int p4), .val (.int p5), .val (.int p6), .val (.int ((p1 &&& (2147483647 : Int32)) % (93 : Int32))), .val (.int 126), .val (.ref x_8), .val (.int 1), .val (.int (p3 &&& (255 : Int32))), .val (.int (p4 &&& (255 : Int32))), .val (.int (p5 &&& (255 : Int32))), .val (.ref x_65), .val (.ref x_72), .val (.ref x_79), .val (.ref b85), .unset] [(.ref x_65)] ?_
      refine own_astore X102.here hx hby at_123 rfl (l' := #[.val (.int p1), .val (.int p2), .val (.int p3), .val (.int p4), .val (.int p5), .val (.int p6), .val (.int ((p1 &&& (2147483647 : Int32)) % (93 : Int32))), .val (.int 126), .val (.ref x_8), .val (.int 1), .val (.int (p3 &&& (255 : Int32))), .val (.int (p4 &&& (255 : Int32))), .val (.int (p5 &&& (255 : Int32))), .val (.ref x_65), .val (.ref x_72), .val (.ref x_79), .val (.ref b85), .val (.ref x_65)]) rfl ?_
      refine own_aload X102.here hx hby at_125 rfl rfl ?_
      refine own_aload X102.here hx hby at_127 rfl rfl ?_
      refine own_acmp X102 hx (same := true) (pc' := 132) hby at_129 rfl rfl (decide_eq_true rfl) (by decide) (by decide) ?_
      refine own_aload X102.here hx hby at_132 rfl rfl ?_
      refine own_aload X102.here hx hby at_134 rfl rfl ?_
      have f104 : Exa Z T96.heap x_72 "java/lang/String" := (((P72_1.keep K79).ext E85).keep K96)
      have f105 : Fld Z T96.heap x_65 "java/lang/String" "coder" "B" (.int 0) := ((((P65_2.keep K72 nin0).keep K79 nin0).ext E85).keep K96 (ninS (own_nn (by omega)) nin0))
      have f106 : Fld Z T96.heap x_65 "java/lang/String" "value" "[B" (.ref t_65) := ((((P65_3.keep K72 nin0).keep K79 nin0).ext E85).keep K96 (ninS (own_nn (by omega)) nin0))
      have f107 : Arv Z T96.heap t_65 kb_65 .byte (1 : Int32) [(.int ((p3 &&& (255 : Int32)).toInt8.toInt32))] (.int 0) := ((((P65_4.keep K72 nin0).keep K79 nin0).ext E85).keep K96 (ninS (own_nn (by omega)) nin0))
      have f108 : Fld Z T96.heap x_72 "java/lang/String" "coder" "B" (.int 0) := (((P72_2.keep K79 nin0).ext E85).keep K96 (ninS (own_nn (by omega)) nin0))
      have f109 : Fld Z T96.heap x_72 "java/lang/String" "value" "[B" (.ref t_72) := (((P72_3.keep K79 nin0).ext E85).keep K96 (ninS (own_nn (by omega)) nin0))
      have f110 : Arv Z T96.heap t_72 kb_72 .byte (1 : Int32) [(.int ((p3 &&& (255 : Int32)).toInt8.toInt32))] (.int 0) := (((P72_4.keep K79 nin0).ext E85).keep K96 (ninS (own_nn (by omega)) nin0))
      have f111 : Sta Z T96.heap "java/lang/String" "COMPACT_STRINGS" "Z" (.int zc) := (own_sta_keep f94 K96 (allS (own_exa_plain A85) all0))
      refine own_virtual X102 hx hZ96 hown96 (own_w hw 114 rfl) (own_w hw 115 rfl) (notFace_of_selects (args := #[]) (mvT hZ96 (own_w hw 117 rfl))) (own_w hw 117 rfl) (own_w hw 116 rfl) (own_w hw 3 rfl) (own_w hw 118 rfl) (by decide) (strEq_1 l Z a0 hw [] x_65 x_72 t_65 t_72 kb_65 kb_72 zc ((p3 &&& (255 : Int32)).toInt8.toInt32) T96.heap n0 z103 f101 f104 (own_nn (by omega)) f105 f106 f107 f108 f109 f110 f111 hz) 0 (Nat.le_of_eq rfl) (by decide) (by decide) (by rw [hml]; rfl) (argsL := [(.ref x_72)]) (st := []) f101 (lenOf pd_21 rfl) rfl rfl (by decide) (by decide) eh102 hby at_136 ?_
      intro T112 v112 L112 X112 hQ112
      obtain ⟨rfl, Nq112, eh112⟩ := hQ112
      have N112 := Fr.app N102 Nq112
      refine own_sh (T := T112) 139 #[.val (.int p1), .val (.int p2), .val (.int p3), .val (.int p4), .val (.int p5), .val (.int p6), .val (.int ((p1 &&& (2147483647 : Int32)) % (93 : Int32))), .val (.int 126), .val (.ref x_8), .val (.int 1), .val (.int (p3 &&& (255 : Int32))), .val (.int (p4 &&& (255 : Int32))), .val (.int (p5 &&& (255 : Int32))), .val (.ref x_65), .val (.ref x_72), .val (.ref x_79), .val (.ref b85), .val (.ref x_65)] [(.int 1)] ?_
      refine own_ifNo X112.here hx hby at_139 ((if0 _ _).trans (feq (show ¬ ((1 : Int32) = (0 : Int32)) from (by decide))).1) ?_
      refine own_aload X112.here hx hby at_142 rfl rfl ?_
      refine own_virtual X112 hx hZ96 hown96 (own_w hw 122 rfl) (own_w hw 70 rfl) (notFace_of_selects (args := #[]) (mvT hZ96 (own_w hw 72 rfl))) (own_w hw 72 rfl) (own_w hw 71 rfl) (own_w hw 3 rfl) (own_w hw 73 rfl) (by decide) (strLen_1 l Z a0 hw [] x_65 t_65 kb_65 zc ([(.int ((p3 &&& (255 : Int32)).toInt8.toInt32))]) T96.heap n0 z103 f101 f105 f106 f107 f111 hz) 0 (Nat.le_of_eq rfl) (by decide) (by decide) (by rw [hml]; rfl) (argsL := []) (st := []) f101 (lenOf pd_11 rfl) rfl rfl (by decide) (by decide) eh112 hby at_144 ?_
      intro T113 v113 L113 X113 hQ113
      obtain ⟨rfl, Nq113, eh113⟩ := hQ113
      have N113 := Fr.app N112 Nq113
      refine own_sh (T := T113) 147 #[.val (.int p1), .val (.int p2), .val (.int p3), .val (.int p4), .val (.int p5), .val (.int p6), .val (.int ((p1 &&& (2147483647 : Int32)) % (93 : Int32))), .val (.int 126), .val (.ref x_8), .val (.int 1), .val (.int (p3 &&& (255 : Int32))), .val (.int (p4 &&& (255 : Int32))), .val (.int (p5 &&& (255 : Int32))), .val (.ref x_65), .val (.ref x_72), .val (.ref x_79), .val (.ref b85), .val (.ref x_65)] [(.int 1)] ?_
      refine own_iload X113.here hx hby at_147 rfl ?_
      refine own_icmpNo X113.here hx hby at_149 (teq (show (1 : Int32) = (1 : Int32) from (by decide))).2 ?_
      refine own_aload X113.here hx hby at_152 rfl rfl ?_
      refine own_virtual X113 hx hZ96 hown96 (own_w hw 123 rfl) (own_w hw 109 rfl) (notFace_of_selects (args := #[]) (mvT hZ96 (own_w hw 111 rfl))) (own_w hw 111 rfl) (own_w hw 110 rfl) (own_w hw 51 rfl) (own_w hw 112 rfl) (by decide) (resValue l Z a0 hw [] b85 x_65 T96.heap n0 z103 P96_2) 0 (Nat.le_of_eq rfl) (by decide) (by decide) (by rw [hml]; rfl) (argsL := []) (st := []) P96_0 (lenOf pd_15 rfl) rfl rfl (by decide) (by decide) eh113 hby at_154 ?_
      intro T114 v114 L114 X114 hQ114
      obtain ⟨rfl, Nq114, eh114⟩ := hQ114
      have N114 := Fr.app N113 Nq114
      refine own_sh (T := T114) 157 #[.val (.int p1), .val (.int p2), .val (.int p3), .val (.int p4), .val (.int p5), .val (.int p6), .val (.int ((p1 &&& (2147483647 : Int32)) % (93 : Int32))), .val (.int 126), .val (.ref x_8), .val (.int 1), .val (.int (p3 &&& (255 : Int32))), .val (.int (p4 &&& (255 : Int32))), .val (.int (p5 &&& (255 : Int32))), .val (.ref x_65), .val (.ref x_72), .val (.ref x_79), .val (.ref b85), .val (.ref x_65)] [(.ref x_65)] ?_
      refine own_aload X114.here hx hby at_157 rfl rfl ?_
      refine own_acmp X114 hx (same := true) (pc' := 162) hby at_159 rfl rfl (decide_eq_true rfl) (by decide) (by decide) ?_
      refine own_iconst X114.here hx hby at_162 (v := (1 : Int32)) (by decide) ?_
      refine own_goto X114.here hx hby (pc' := 167) at_163 (by decide) (by decide) ?_
      obtain ⟨fs, hr, hrun, hended, hRW⟩ := X114.leaveW hS96 (by rw [eh114]; omega) (v := some (.int 1)) (fun h => by rw [Bd.returns] at h; cases h)
      have hCf : CHr Z consts_1 s.vm s.heap T114.vm T114.heap := by
        rw [hh, eh114]
        exact C99.trans (CHv.at X114 hZ96 hEL C99.1)
      refine own_ret (t := T114.setFrames fs) ?_ ⟨_, hrun, hended, _, _, rfl, ?_, hCf, hRW.1, hRW.2.1, hRW.2.2.1, hRW.2.2.2.mono (by decide) (by decide)⟩
      · exact retN X114 hx (t := .boolean) Bd.returns (by simp) (hb hby at_167) hr
      · show Q_rm0 Z p1 p2 p3 p4 p5 p6 zc fm h0 n0 _ T114.heap _
        rw [eh114]
        exact ⟨rfl, N114, trivial⟩
    · rw [hk]
      refine own_istore X8.here hx hby at_38 (l' := #[.val (.int p1), .val (.int p2), .val (.int p3), .val (.int p4), .val (.int p5), .val (.int p6), .val (.int ((p1 &&& (2147483647 : Int32)) % (93 : Int32))), .val (.int 126), .val (.ref x_8), .val (.int 2), .unset, .unset, .unset, .unset, .unset, .unset, .unset, .unset]) rfl ?_
      refine own_iloadN X8.here hx hby at_40 rfl ?_
      refine own_sipush X8.here hx hby at_41 (v := (255 : Int32)) (by decide) ?_
      refine own_iand X8.here hx hby at_44 rfl ?_
      refine own_i2c X8.here hx hby at_45 rfl ?_
      refine own_sh (T := T8) 46 #[.val (.int p1), .val (.int p2), .val (.int p3), .val (.int p4), .val (.int p5), .val (.int p6), .val (.int ((p1 &&& (2147483647 : Int32)) % (93 : Int32))), .val (.int 126), .val (.ref x_8), .val (.int 2), .unset, .unset, .unset, .unset, .unset, .unset, .unset, .unset] [(.int ((p3 &&& (255 : Int32)).toUInt32.toUInt16.toUInt32.toInt32))] ?_
      rw [show ((p3 &&& (255 : Int32)).toUInt32.toUInt16.toUInt32.toInt32) = (p3 &&& (255 : Int32)) from (i2c_mask p3)]
      refine own_istore X8.here hx hby at_46 (l' := #[.val (.int p1), .val (.int p2), .val (.int p3), .val (.int p4), .val (.int p5), .val (.int p6), .val (.int ((p1 &&& (2147483647 : Int32)) % (93 : Int32))), .val (.int 126), .val (.ref x_8), .val (.int 2), .val (.int (p3 &&& (255 : Int32))), .unset, .unset, .unset, .unset, .unset, .unset, .unset]) rfl ?_
      refine own_iloadN X8.here hx hby at_48 rfl ?_
      refine own_sipush X8.here hx hby at_49 (v := (255 : Int32)) (by decide) ?_
      refine own_iand X8.here hx hby at_52 rfl ?_
      refine own_i2c X8.here hx hby at_53 rfl ?_
      refine own_sh (T := T8) 54 #[.val (.int p1), .val (.int p2), .val (.int p3), .val (.int p4), .val (.int p5), .val (.int p6), .val (.int ((p1 &&& (2147483647 : Int32)) % (93 : Int32))), .val (.int 126), .val (.ref x_8), .val (.int 2), .val (.int (p3 &&& (255 : Int32))), .unset, .unset, .unset, .unset, .unset, .unset, .unset] [(.int ((p4 &&& (255 : Int32)).toUInt32.toUInt16.toUInt32.toInt32))] ?_
      rw [show ((p4 &&& (255 : Int32)).toUInt32.toUInt16.toUInt32.toInt32) = (p4 &&& (255 : Int32)) from (i2c_mask p4)]
      refine own_istore X8.here hx hby at_54 (l' := #[.val (.int p1), .val (.int p2), .val (.int p3), .val (.int p4), .val (.int p5), .val (.int p6), .val (.int ((p1 &&& (2147483647 : Int32)) % (93 : Int32))), .val (.int 126), .val (.ref x_8), .val (.int 2), .val (.int (p3 &&& (255 : Int32))), .val (.int (p4 &&& (255 : Int32))), .unset, .unset, .unset, .unset, .unset, .unset]) rfl ?_
      refine own_iload X8.here hx hby at_56 rfl ?_
      refine own_sipush X8.here hx hby at_58 (v := (255 : Int32)) (by decide) ?_
      refine own_iand X8.here hx hby at_61 rfl ?_
      refine own_i2c X8.here hx hby at_62 rfl ?_
      refine own_sh (T := T8) 63 #[.val (.int p1), .val (.int p2), .val (.int p3), .val (.int p4), .val (.int p5), .val (.int p6), .val (.int ((p1 &&& (2147483647 : Int32)) % (93 : Int32))), .val (.int 126), .val (.ref x_8), .val (.int 2), .val (.int (p3 &&& (255 : Int32))), .val (.int (p4 &&& (255 : Int32))), .unset, .unset, .unset, .unset, .unset, .unset] [(.int ((p5 &&& (255 : Int32)).toUInt32.toUInt16.toUInt32.toInt32))] ?_
      rw [show ((p5 &&& (255 : Int32)).toUInt32.toUInt16.toUInt32.toInt32) = (p5 &&& (255 : Int32)) from (i2c_mask p5)]
      refine own_istore X8.here hx hby at_63 (l' := #[.val (.int p1), .val (.int p2), .val (.int p3), .val (.int p4), .val (.int p5), .val (.int p6), .val (.int ((p1 &&& (2147483647 : Int32)) % (93 : Int32))), .val (.int 126), .val (.ref x_8), .val (.int 2), .val (.int (p3 &&& (255 : Int32))), .val (.int (p4 &&& (255 : Int32))), .val (.int (p5 &&& (255 : Int32))), .unset, .unset, .unset, .unset, .unset]) rfl ?_
      refine own_iload X8.here hx hby at_65 rfl ?_
      refine own_iload X8.here hx hby at_67 rfl ?_
      refine own_iload X8.here hx hby at_69 rfl ?_
      refine own_iload X8.here hx hby at_71 rfl ?_
      have f115 : Sta Z T8.heap "java/lang/String" "COMPACT_STRINGS" "Z" (.int zc) := (own_sta_keep S_COMPACT K8 all0)
      have z117 : n0 ≤ T8.heap.size := by omega
      refine own_callS X8 hx hZ hown (own_w hw 27 rfl) (own_w hw 28 rfl) (own_w hw 29 rfl) (own_w hw 30 rfl) (by decide) (str_2 l Z a0 hw [] (p3 &&& (255 : Int32)) (p4 &&& (255 : Int32)) (p5 &&& (255 : Int32)) zc T8.heap n0 z117 (own_c255 p3).1 (own_c255 p3).2 (own_c255 p4).1 (own_c255 p4).2 (own_c255 p5).1 (own_c255 p5).2 f115 hz) 0 (Nat.le_of_eq rfl) (by decide) (by decide) (by rw [hml]; rfl) (argsL := [(.int 2), (.int (p3 &&& (255 : Int32))), (.int (p4 &&& (255 : Int32))), (.int (p5 &&& (255 : Int32)))]) (st := []) (lenOf pd_18 rfl) rfl rfl (by decide) (by decide) rfl hby at_73 ?_
      intro T116 v116 L116 X116 hQ116
      obtain ⟨x_116, t_116, kb_116, rfl, Nq116, K116, P116_0, P116_1, P116_2, P116_3, P116_4⟩ := hQ116
      have N116 := Fr.app N8 Nq116
      have z118 : T8.heap.size ≤ T116.heap.size := K116.1
      have C119 := C10.trans (CHr.keep K116 sf0 C10.1)
      have lt120 : T116.heap.size > x_116 := P116_1.lt
      have lt121 : T116.heap.size > t_116 := P116_4.lt
      refine own_sh (T := T116) 76 #[.val (.int p1), .val (.int p2), .val (.int p3), .val (.int p4), .val (.int p5), .val (.int p6), .val (.int ((p1 &&& (2147483647 : Int32)) % (93 : Int32))), .val (.int 126), .val (.ref x_8), .val (.int 2), .val (.int (p3 &&& (255 : Int32))), .val (.int (p4 &&& (255 : Int32))), .val (.int (p5 &&& (255 : Int32))), .unset, .unset, .unset, .unset, .unset] [(.ref x_116)] ?_
      refine own_astore X116.here hx hby at_76 rfl (l' := #[.val (.int p1), .val (.int p2), .val (.int p3), .val (.int p4), .val (.int p5), .val (.int p6), .val (.int ((p1 &&& (2147483647 : Int32)) % (93 : Int32))), .val (.int 126), .val (.ref x_8), .val (.int 2), .val (.int (p3 &&& (255 : Int32))), .val (.int (p4 &&& (255 : Int32))), .val (.int (p5 &&& (255 : Int32))), .val (.ref x_116), .unset, .unset, .unset, .unset]) rfl ?_
      refine own_iload X116.here hx hby at_78 rfl ?_
      refine own_iload X116.here hx hby at_80 rfl ?_
      refine own_iload X116.here hx hby at_82 rfl ?_
      refine own_iload X116.here hx hby at_84 rfl ?_
      have f122 : Sta Z T116.heap "java/lang/String" "COMPACT_STRINGS" "Z" (.int zc) := (own_sta_keep f115 K116 all0)
      have z124 : n0 ≤ T116.heap.size := by omega
      refine own_callS X116 hx hZ hown (own_w hw 27 rfl) (own_w hw 28 rfl) (own_w hw 29 rfl) (own_w hw 30 rfl) (by decide) (str_2 l Z a0 hw [] (p3 &&& (255 : Int32)) (p4 &&& (255 : Int32)) (p5 &&& (255 : Int32)) zc T116.heap n0 z124 (own_c255 p3).1 (own_c255 p3).2 (own_c255 p4).1 (own_c255 p4).2 (own_c255 p5).1 (own_c255 p5).2 f122 hz) 0 (Nat.le_of_eq rfl) (by decide) (by decide) (by rw [hml]; rfl) (argsL := [(.int 2), (.int (p3 &&& (255 : Int32))), (.int (p4 &&& (255 : Int32))), (.int (p5 &&& (255 : Int32)))]) (st := []) (lenOf pd_18 rfl) rfl rfl (by decide) (by decide) rfl hby at_86 ?_
      intro T123 v123 L123 X123 hQ123
      obtain ⟨x_123, t_123, kb_123, rfl, Nq123, K123, P123_0, P123_1, P123_2, P123_3, P123_4⟩ := hQ123
      have N123 := Fr.app N116 Nq123
      have z125 : T116.heap.size ≤ T123.heap.size := K123.1
      have C126 := C119.trans (CHr.keep K123 sf0 C119.1)
      have lt127 : T123.heap.size > x_123 := P123_1.lt
      have lt128 : T123.heap.size > t_123 := P123_4.lt
      refine own_sh (T := T123) 89 #[.val (.int p1), .val (.int p2), .val (.int p3), .val (.int p4), .val (.int p5), .val (.int p6), .val (.int ((p1 &&& (2147483647 : Int32)) % (93 : Int32))), .val (.int 126), .val (.ref x_8), .val (.int 2), .val (.int (p3 &&& (255 : Int32))), .val (.int (p4 &&& (255 : Int32))), .val (.int (p5 &&& (255 : Int32))), .val (.ref x_116), .unset, .unset, .unset, .unset] [(.ref x_123)] ?_
      refine own_astore X123.here hx hby at_89 rfl (l' := #[.val (.int p1), .val (.int p2), .val (.int p3), .val (.int p4), .val (.int p5), .val (.int p6), .val (.int ((p1 &&& (2147483647 : Int32)) % (93 : Int32))), .val (.int 126), .val (.ref x_8), .val (.int 2), .val (.int (p3 &&& (255 : Int32))), .val (.int (p4 &&& (255 : Int32))), .val (.int (p5 &&& (255 : Int32))), .val (.ref x_116), .val (.ref x_123), .unset, .unset, .unset]) rfl ?_
      refine own_iload X123.here hx hby at_91 rfl ?_
      refine own_sipush X123.here hx hby at_93 (v := (255 : Int32)) (by decide) ?_
      refine own_iand X123.here hx hby at_96 rfl ?_
      refine own_i2c X123.here hx hby at_97 rfl ?_
      refine own_sh (T := T123) 98 #[.val (.int p1), .val (.int p2), .val (.int p3), .val (.int p4), .val (.int p5), .val (.int p6), .val (.int ((p1 &&& (2147483647 : Int32)) % (93 : Int32))), .val (.int 126), .val (.ref x_8), .val (.int 2), .val (.int (p3 &&& (255 : Int32))), .val (.int (p4 &&& (255 : Int32))), .val (.int (p5 &&& (255 : Int32))), .val (.ref x_116), .val (.ref x_123), .unset, .unset, .unset] [(.int ((p6 &&& (255 : Int32)).toUInt32.toUInt16.toUInt32.toInt32))] ?_
      rw [show ((p6 &&& (255 : Int32)).toUInt32.toUInt16.toUInt32.toInt32) = (p6 &&& (255 : Int32)) from (i2c_mask p6)]
      have f129 : Sta Z T123.heap "java/lang/String" "COMPACT_STRINGS" "Z" (.int zc) := (own_sta_keep f122 K123 all0)
      have z131 : n0 ≤ T123.heap.size := by omega
      refine own_callS X123 hx hZ hown (own_w hw 1 rfl) (own_w hw 2 rfl) (own_w hw 3 rfl) (own_w hw 4 rfl) (by decide) (valOf l Z a0 hw [] (p6 &&& (255 : Int32)) zc T123.heap n0 z131 f129 hz (own_c255 p6).2) 0 (Nat.le_of_eq rfl) (by decide) (by decide) (by rw [hml]; rfl) (argsL := [(.int (p6 &&& (255 : Int32)))]) (st := []) (lenOf pd_17 rfl) rfl rfl (by decide) (by decide) rfl hby at_98 ?_
      intro T130 v130 L130 X130 hQ130
      obtain ⟨x_130, t_130, kb_130, rfl, Nq130, K130, P130_0, P130_1, P130_2, P130_3, P130_4, P130_5, P130_6⟩ := hQ130
      have N130 := Fr.app N123 Nq130
      have z132 : T123.heap.size ≤ T130.heap.size := K130.1
      have C133 := C126.trans (CHr.keep K130 sf0 C126.1)
      have lt134 : T130.heap.size > x_130 := P130_3.lt
      have lt135 : T130.heap.size > t_130 := P130_6.lt
      refine own_sh (T := T130) 101 #[.val (.int p1), .val (.int p2), .val (.int p3), .val (.int p4), .val (.int p5), .val (.int p6), .val (.int ((p1 &&& (2147483647 : Int32)) % (93 : Int32))), .val (.int 126), .val (.ref x_8), .val (.int 2), .val (.int (p3 &&& (255 : Int32))), .val (.int (p4 &&& (255 : Int32))), .val (.int (p5 &&& (255 : Int32))), .val (.ref x_116), .val (.ref x_123), .unset, .unset, .unset] [(.ref x_130)] ?_
      refine own_astore X130.here hx hby at_101 rfl (l' := #[.val (.int p1), .val (.int p2), .val (.int p3), .val (.int p4), .val (.int p5), .val (.int p6), .val (.int ((p1 &&& (2147483647 : Int32)) % (93 : Int32))), .val (.int 126), .val (.ref x_8), .val (.int 2), .val (.int (p3 &&& (255 : Int32))), .val (.int (p4 &&& (255 : Int32))), .val (.int (p5 &&& (255 : Int32))), .val (.ref x_116), .val (.ref x_123), .val (.ref x_130), .unset, .unset]) rfl ?_
      refine own_newO X130 hx hZ hown (own_w hw 49 rfl) (own_w hw 50 rfl) (own_w hw 51 rfl) rfl hby at_103 (by decide) (by decide) ?_
      intro T136 h136 b136 X136 e136 E136 g136 A136 D136 lt136
      have z137 : T130.heap.size ≤ h136.size := E136.1
      have C138 := C133.trans (CHr.ext E136 C133.1)
      have F139 : Fld Z h136 b136 "com/example/tiny_context/tinycontext/Resource" "id" "Ljava/lang/String;" .null := D136 (Or.inr (own_w hw 101 rfl)) (ty := (.object "java/lang/String")) (by decide)
      have F140 : Fld Z h136 b136 "com/example/tiny_context/tinycontext/Resource" "value" "Ljava/lang/Object;" .null := D136 (Or.inr (own_w hw 103 rfl)) (ty := (.object "java/lang/Object")) (by decide)
      refine own_dup X136.here hx hby at_106 rfl ?_
      refine own_aload X136.here hx hby at_107 rfl rfl ?_
      refine own_aload X136.here hx hby at_109 rfl rfl ?_
      have f141 : Exa Z h136 x_8 "java/lang/String" := ((((P8_3.keep K116).keep K123).keep K130).ext E136)
      have f142 : Fld Z h136 x_8 "java/lang/String" "coder" "B" (.int 0) := ((((P8_4.keep K116 nin0).keep K123 nin0).keep K130 nin0).ext E136)
      have f143 : Fld Z h136 x_8 "java/lang/String" "value" "[B" (.ref t_8) := ((((P8_5.keep K116 nin0).keep K123 nin0).keep K130 nin0).ext E136)
      have f144 : Arv Z h136 t_8 kb_8 .byte (1 : Int32) [(.int ((126 : Int32).toInt8.toInt32))] (.int 0) := ((((P8_6.keep K116 nin0).keep K123 nin0).keep K130 nin0).ext E136)
      have f145 : Sta Z h136 "java/lang/String" "COMPACT_STRINGS" "Z" (.int zc) := ((own_sta_keep f129 K130 all0).ext E136)
      have f146 : Sta Z h136 "jdk/internal/util/Preconditions" "SIOOBE_FORMATTER" "Ljava/util/function/BiFunction;" fm := ((own_sta_keep (own_sta_keep (own_sta_keep (own_sta_keep S_FM K8 all0) K116 all0) K123 all0) K130 all0).ext E136)
      have z148 : n0 ≤ h136.size := by omega
      refine own_specialH X136 hx hZ hEL rfl hown (own_w hw 52 rfl) (own_w hw 53 rfl) (own_w hw 51 rfl) (own_w hw 54 rfl) (by decide) (resInit3 l Z a0 hw [] b136 x_116 x_8 t_8 kb_8 zc fm (126 : Int32) h136 n0 z148 A136 (by omega) F139 F140 f141 f142 f143 f144 f145 hz f146 hfm (by decide) (by decide) (by decide) (by decide) (by decide)) 1 (Nat.le_of_eq rfl) (by decide) (by decide) (by rw [hml]; rfl) (argsL := [(.ref x_8), (.ref x_116)]) (st := [(.ref b136)]) (a := b136) (lenOf pd_19 rfl) rfl rfl (by decide) (by decide) e136 hby C138.1 hS0 (by omega) at_111 ?_
      intro T147 v147 L147 vm147 X147 hS147 hZ147 hown147 hg147 Cn147 hQ147
      obtain ⟨rfl, Nq147, K147, P147_0, P147_1, P147_2⟩ := hQ147
      have N147 := Fr.app N130 Nq147
      have z149 : h136.size ≤ T147.heap.size := K147.1
      have C150 := C138.trans Cn147
      have lt151 : T147.heap.size > b136 := P147_0.lt
      refine own_sh (T := T147) 114 #[.val (.int p1), .val (.int p2), .val (.int p3), .val (.int p4), .val (.int p5), .val (.int p6), .val (.int ((p1 &&& (2147483647 : Int32)) % (93 : Int32))), .val (.int 126), .val (.ref x_8), .val (.int 2), .val (.int (p3 &&& (255 : Int32))), .val (.int (p4 &&& (255 : Int32))), .val (.int (p5 &&& (255 : Int32))), .val (.ref x_116), .val (.ref x_123), .val (.ref x_130), .unset, .unset] [(.ref b136)] ?_
      refine own_astore X147.here hx hby at_114 rfl (l' := #[.val (.int p1), .val (.int p2), .val (.int p3), .val (.int p4), .val (.int p5), .val (.int p6), .val (.int ((p1 &&& (2147483647 : Int32)) % (93 : Int32))), .val (.int 126), .val (.ref x_8), .val (.int 2), .val (.int (p3 &&& (255 : Int32))), .val (.int (p4 &&& (255 : Int32))), .val (.int (p5 &&& (255 : Int32))), .val (.ref x_116), .val (.ref x_123), .val (.ref x_130), .val (.ref b136), .unset]) rfl ?_
      refine own_aload X147.here hx hby at_116 rfl rfl ?_
      refine own_aload X147.here hx hby at_118 rfl rfl ?_
      have f152 : Exa Z T147.heap x_116 "java/lang/String" := ((((P116_1.keep K123).keep K130).ext E136).keep K147)
      have z154 : n0 ≤ T147.heap.size := by omega
      refine own_callS X147 hx hZ147 hown147 (own_w hw 104 rfl) (own_w hw 105 rfl) (own_w hw 106 rfl) (own_w hw 107 rfl) (by decide) (accValue l Z a0 hw [] b136 x_116 x_130 T147.heap n0 z154 P147_0 P147_2 f152) 0 (Nat.le_of_eq rfl) (by decide) (by decide) (by rw [hml]; rfl) (argsL := [(.ref b136), (.ref x_130)]) (st := []) (lenOf pd_20 rfl) rfl rfl (by decide) (by decide) rfl hby at_120 ?_
      intro T153 v153 L153 X153 hQ153
      obtain ⟨rfl, Nq153, eh153⟩ := hQ153
      have N153 := Fr.app N147 Nq153
      refine own_sh (T := T153) 123 #[.val (.int p1), .val (.int p2), .val (.int p3), .val (.int p4), .val (.int p5), .val (.int p6), .val (.int ((p1 &&& (2147483647 : Int32)) % (93 : Int32))), .val (.int 126), .val (.ref x_8), .val (.int 2), .val (.int (p3 &&& (255 : Int32))), .val (.int (p4 &&& (255 : Int32))), .val (.int (p5 &&& (255 : Int32))), .val (.ref x_116), .val (.ref x_123), .val (.ref x_130), .val (.ref b136), .unset] [(.ref x_116)] ?_
      refine own_astore X153.here hx hby at_123 rfl (l' := #[.val (.int p1), .val (.int p2), .val (.int p3), .val (.int p4), .val (.int p5), .val (.int p6), .val (.int ((p1 &&& (2147483647 : Int32)) % (93 : Int32))), .val (.int 126), .val (.ref x_8), .val (.int 2), .val (.int (p3 &&& (255 : Int32))), .val (.int (p4 &&& (255 : Int32))), .val (.int (p5 &&& (255 : Int32))), .val (.ref x_116), .val (.ref x_123), .val (.ref x_130), .val (.ref b136), .val (.ref x_116)]) rfl ?_
      refine own_aload X153.here hx hby at_125 rfl rfl ?_
      refine own_aload X153.here hx hby at_127 rfl rfl ?_
      refine own_acmp X153 hx (same := true) (pc' := 132) hby at_129 rfl rfl (decide_eq_true rfl) (by decide) (by decide) ?_
      refine own_aload X153.here hx hby at_132 rfl rfl ?_
      refine own_aload X153.here hx hby at_134 rfl rfl ?_
      have f155 : Exa Z T147.heap x_123 "java/lang/String" := (((P123_1.keep K130).ext E136).keep K147)
      have f156 : Fld Z T147.heap x_116 "java/lang/String" "coder" "B" (.int 0) := ((((P116_2.keep K123 nin0).keep K130 nin0).ext E136).keep K147 (ninS (own_nn (by omega)) nin0))
      have f157 : Fld Z T147.heap x_116 "java/lang/String" "value" "[B" (.ref t_116) := ((((P116_3.keep K123 nin0).keep K130 nin0).ext E136).keep K147 (ninS (own_nn (by omega)) nin0))
      have f158 : Arv Z T147.heap t_116 kb_116 .byte (2 : Int32) [(.int ((p3 &&& (255 : Int32)).toInt8.toInt32)), (.int ((p4 &&& (255 : Int32)).toInt8.toInt32))] (.int 0) := ((((P116_4.keep K123 nin0).keep K130 nin0).ext E136).keep K147 (ninS (own_nn (by omega)) nin0))
      have f159 : Fld Z T147.heap x_123 "java/lang/String" "coder" "B" (.int 0) := (((P123_2.keep K130 nin0).ext E136).keep K147 (ninS (own_nn (by omega)) nin0))
      have f160 : Fld Z T147.heap x_123 "java/lang/String" "value" "[B" (.ref t_123) := (((P123_3.keep K130 nin0).ext E136).keep K147 (ninS (own_nn (by omega)) nin0))
      have f161 : Arv Z T147.heap t_123 kb_123 .byte (2 : Int32) [(.int ((p3 &&& (255 : Int32)).toInt8.toInt32)), (.int ((p4 &&& (255 : Int32)).toInt8.toInt32))] (.int 0) := (((P123_4.keep K130 nin0).ext E136).keep K147 (ninS (own_nn (by omega)) nin0))
      have f162 : Sta Z T147.heap "java/lang/String" "COMPACT_STRINGS" "Z" (.int zc) := (own_sta_keep f145 K147 (allS (own_exa_plain A136) all0))
      refine own_virtual X153 hx hZ147 hown147 (own_w hw 114 rfl) (own_w hw 115 rfl) (notFace_of_selects (args := #[]) (mvT hZ147 (own_w hw 117 rfl))) (own_w hw 117 rfl) (own_w hw 116 rfl) (own_w hw 3 rfl) (own_w hw 118 rfl) (by decide) (strEq_2 l Z a0 hw [] x_116 x_123 t_116 t_123 kb_116 kb_123 zc ((p3 &&& (255 : Int32)).toInt8.toInt32) ((p4 &&& (255 : Int32)).toInt8.toInt32) T147.heap n0 z154 f152 f155 (own_nn (by omega)) f156 f157 f158 f159 f160 f161 f162 hz) 0 (Nat.le_of_eq rfl) (by decide) (by decide) (by rw [hml]; rfl) (argsL := [(.ref x_123)]) (st := []) f152 (lenOf pd_21 rfl) rfl rfl (by decide) (by decide) eh153 hby at_136 ?_
      intro T163 v163 L163 X163 hQ163
      obtain ⟨rfl, Nq163, eh163⟩ := hQ163
      have N163 := Fr.app N153 Nq163
      refine own_sh (T := T163) 139 #[.val (.int p1), .val (.int p2), .val (.int p3), .val (.int p4), .val (.int p5), .val (.int p6), .val (.int ((p1 &&& (2147483647 : Int32)) % (93 : Int32))), .val (.int 126), .val (.ref x_8), .val (.int 2), .val (.int (p3 &&& (255 : Int32))), .val (.int (p4 &&& (255 : Int32))), .val (.int (p5 &&& (255 : Int32))), .val (.ref x_116), .val (.ref x_123), .val (.ref x_130), .val (.ref b136), .val (.ref x_116)] [(.int 1)] ?_
      refine own_ifNo X163.here hx hby at_139 ((if0 _ _).trans (feq (show ¬ ((1 : Int32) = (0 : Int32)) from (by decide))).1) ?_
      refine own_aload X163.here hx hby at_142 rfl rfl ?_
      refine own_virtual X163 hx hZ147 hown147 (own_w hw 122 rfl) (own_w hw 70 rfl) (notFace_of_selects (args := #[]) (mvT hZ147 (own_w hw 72 rfl))) (own_w hw 72 rfl) (own_w hw 71 rfl) (own_w hw 3 rfl) (own_w hw 73 rfl) (by decide) (strLen_2 l Z a0 hw [] x_116 t_116 kb_116 zc ([(.int ((p3 &&& (255 : Int32)).toInt8.toInt32)), (.int ((p4 &&& (255 : Int32)).toInt8.toInt32))]) T147.heap n0 z154 f152 f156 f157 f158 f162 hz) 0 (Nat.le_of_eq rfl) (by decide) (by decide) (by rw [hml]; rfl) (argsL := []) (st := []) f152 (lenOf pd_11 rfl) rfl rfl (by decide) (by decide) eh163 hby at_144 ?_
      intro T164 v164 L164 X164 hQ164
      obtain ⟨rfl, Nq164, eh164⟩ := hQ164
      have N164 := Fr.app N163 Nq164
      refine own_sh (T := T164) 147 #[.val (.int p1), .val (.int p2), .val (.int p3), .val (.int p4), .val (.int p5), .val (.int p6), .val (.int ((p1 &&& (2147483647 : Int32)) % (93 : Int32))), .val (.int 126), .val (.ref x_8), .val (.int 2), .val (.int (p3 &&& (255 : Int32))), .val (.int (p4 &&& (255 : Int32))), .val (.int (p5 &&& (255 : Int32))), .val (.ref x_116), .val (.ref x_123), .val (.ref x_130), .val (.ref b136), .val (.ref x_116)] [(.int 2)] ?_
      refine own_iload X164.here hx hby at_147 rfl ?_
      refine own_icmpNo X164.here hx hby at_149 (teq (show (2 : Int32) = (2 : Int32) from (by decide))).2 ?_
      refine own_aload X164.here hx hby at_152 rfl rfl ?_
      refine own_virtual X164 hx hZ147 hown147 (own_w hw 123 rfl) (own_w hw 109 rfl) (notFace_of_selects (args := #[]) (mvT hZ147 (own_w hw 111 rfl))) (own_w hw 111 rfl) (own_w hw 110 rfl) (own_w hw 51 rfl) (own_w hw 112 rfl) (by decide) (resValue l Z a0 hw [] b136 x_116 T147.heap n0 z154 P147_2) 0 (Nat.le_of_eq rfl) (by decide) (by decide) (by rw [hml]; rfl) (argsL := []) (st := []) P147_0 (lenOf pd_15 rfl) rfl rfl (by decide) (by decide) eh164 hby at_154 ?_
      intro T165 v165 L165 X165 hQ165
      obtain ⟨rfl, Nq165, eh165⟩ := hQ165
      have N165 := Fr.app N164 Nq165
      refine own_sh (T := T165) 157 #[.val (.int p1), .val (.int p2), .val (.int p3), .val (.int p4), .val (.int p5), .val (.int p6), .val (.int ((p1 &&& (2147483647 : Int32)) % (93 : Int32))), .val (.int 126), .val (.ref x_8), .val (.int 2), .val (.int (p3 &&& (255 : Int32))), .val (.int (p4 &&& (255 : Int32))), .val (.int (p5 &&& (255 : Int32))), .val (.ref x_116), .val (.ref x_123), .val (.ref x_130), .val (.ref b136), .val (.ref x_116)] [(.ref x_116)] ?_
      refine own_aload X165.here hx hby at_157 rfl rfl ?_
      refine own_acmp X165 hx (same := true) (pc' := 162) hby at_159 rfl rfl (decide_eq_true rfl) (by decide) (by decide) ?_
      refine own_iconst X165.here hx hby at_162 (v := (1 : Int32)) (by decide) ?_
      refine own_goto X165.here hx hby (pc' := 167) at_163 (by decide) (by decide) ?_
      obtain ⟨fs, hr, hrun, hended, hRW⟩ := X165.leaveW hS147 (by rw [eh165]; omega) (v := some (.int 1)) (fun h => by rw [Bd.returns] at h; cases h)
      have hCf : CHr Z consts_1 s.vm s.heap T165.vm T165.heap := by
        rw [hh, eh165]
        exact C150.trans (CHv.at X165 hZ147 hEL C150.1)
      refine own_ret (t := T165.setFrames fs) ?_ ⟨_, hrun, hended, _, _, rfl, ?_, hCf, hRW.1, hRW.2.1, hRW.2.2.1, hRW.2.2.2.mono (by decide) (by decide)⟩
      · exact retN X165 hx (t := .boolean) Bd.returns (by simp) (hb hby at_167) hr
      · show Q_rm0 Z p1 p2 p3 p4 p5 p6 zc fm h0 n0 _ T165.heap _
        rw [eh165]
        exact ⟨rfl, N165, trivial⟩
    · rw [hk]
      refine own_istore X8.here hx hby at_38 (l' := #[.val (.int p1), .val (.int p2), .val (.int p3), .val (.int p4), .val (.int p5), .val (.int p6), .val (.int ((p1 &&& (2147483647 : Int32)) % (93 : Int32))), .val (.int 126), .val (.ref x_8), .val (.int 3), .unset, .unset, .unset, .unset, .unset, .unset, .unset, .unset]) rfl ?_
      refine own_iloadN X8.here hx hby at_40 rfl ?_
      refine own_sipush X8.here hx hby at_41 (v := (255 : Int32)) (by decide) ?_
      refine own_iand X8.here hx hby at_44 rfl ?_
      refine own_i2c X8.here hx hby at_45 rfl ?_
      refine own_sh (T := T8) 46 #[.val (.int p1), .val (.int p2), .val (.int p3), .val (.int p4), .val (.int p5), .val (.int p6), .val (.int ((p1 &&& (2147483647 : Int32)) % (93 : Int32))), .val (.int 126), .val (.ref x_8), .val (.int 3), .unset, .unset, .unset, .unset, .unset, .unset, .unset, .unset] [(.int ((p3 &&& (255 : Int32)).toUInt32.toUInt16.toUInt32.toInt32))] ?_
      rw [show ((p3 &&& (255 : Int32)).toUInt32.toUInt16.toUInt32.toInt32) = (p3 &&& (255 : Int32)) from (i2c_mask p3)]
      refine own_istore X8.here hx hby at_46 (l' := #[.val (.int p1), .val (.int p2), .val (.int p3), .val (.int p4), .val (.int p5), .val (.int p6), .val (.int ((p1 &&& (2147483647 : Int32)) % (93 : Int32))), .val (.int 126), .val (.ref x_8), .val (.int 3), .val (.int (p3 &&& (255 : Int32))), .unset, .unset, .unset, .unset, .unset, .unset, .unset]) rfl ?_
      refine own_iloadN X8.here hx hby at_48 rfl ?_
      refine own_sipush X8.here hx hby at_49 (v := (255 : Int32)) (by decide) ?_
      refine own_iand X8.here hx hby at_52 rfl ?_
      refine own_i2c X8.here hx hby at_53 rfl ?_
      refine own_sh (T := T8) 54 #[.val (.int p1), .val (.int p2), .val (.int p3), .val (.int p4), .val (.int p5), .val (.int p6), .val (.int ((p1 &&& (2147483647 : Int32)) % (93 : Int32))), .val (.int 126), .val (.ref x_8), .val (.int 3), .val (.int (p3 &&& (255 : Int32))), .unset, .unset, .unset, .unset, .unset, .unset, .unset] [(.int ((p4 &&& (255 : Int32)).toUInt32.toUInt16.toUInt32.toInt32))] ?_
      rw [show ((p4 &&& (255 : Int32)).toUInt32.toUInt16.toUInt32.toInt32) = (p4 &&& (255 : Int32)) from (i2c_mask p4)]
      refine own_istore X8.here hx hby at_54 (l' := #[.val (.int p1), .val (.int p2), .val (.int p3), .val (.int p4), .val (.int p5), .val (.int p6), .val (.int ((p1 &&& (2147483647 : Int32)) % (93 : Int32))), .val (.int 126), .val (.ref x_8), .val (.int 3), .val (.int (p3 &&& (255 : Int32))), .val (.int (p4 &&& (255 : Int32))), .unset, .unset, .unset, .unset, .unset, .unset]) rfl ?_
      refine own_iload X8.here hx hby at_56 rfl ?_
      refine own_sipush X8.here hx hby at_58 (v := (255 : Int32)) (by decide) ?_
      refine own_iand X8.here hx hby at_61 rfl ?_
      refine own_i2c X8.here hx hby at_62 rfl ?_
      refine own_sh (T := T8) 63 #[.val (.int p1), .val (.int p2), .val (.int p3), .val (.int p4), .val (.int p5), .val (.int p6), .val (.int ((p1 &&& (2147483647 : Int32)) % (93 : Int32))), .val (.int 126), .val (.ref x_8), .val (.int 3), .val (.int (p3 &&& (255 : Int32))), .val (.int (p4 &&& (255 : Int32))), .unset, .unset, .unset, .unset, .unset, .unset] [(.int ((p5 &&& (255 : Int32)).toUInt32.toUInt16.toUInt32.toInt32))] ?_
      rw [show ((p5 &&& (255 : Int32)).toUInt32.toUInt16.toUInt32.toInt32) = (p5 &&& (255 : Int32)) from (i2c_mask p5)]
      refine own_istore X8.here hx hby at_63 (l' := #[.val (.int p1), .val (.int p2), .val (.int p3), .val (.int p4), .val (.int p5), .val (.int p6), .val (.int ((p1 &&& (2147483647 : Int32)) % (93 : Int32))), .val (.int 126), .val (.ref x_8), .val (.int 3), .val (.int (p3 &&& (255 : Int32))), .val (.int (p4 &&& (255 : Int32))), .val (.int (p5 &&& (255 : Int32))), .unset, .unset, .unset, .unset, .unset]) rfl ?_
      refine own_iload X8.here hx hby at_65 rfl ?_
      refine own_iload X8.here hx hby at_67 rfl ?_
      refine own_iload X8.here hx hby at_69 rfl ?_
      refine own_iload X8.here hx hby at_71 rfl ?_
      have f166 : Sta Z T8.heap "java/lang/String" "COMPACT_STRINGS" "Z" (.int zc) := (own_sta_keep S_COMPACT K8 all0)
      have z168 : n0 ≤ T8.heap.size := by omega
      refine own_callS X8 hx hZ hown (own_w hw 27 rfl) (own_w hw 28 rfl) (own_w hw 29 rfl) (own_w hw 30 rfl) (by decide) (str_3 l Z a0 hw [] (p3 &&& (255 : Int32)) (p4 &&& (255 : Int32)) (p5 &&& (255 : Int32)) zc T8.heap n0 z168 (own_c255 p3).1 (own_c255 p3).2 (own_c255 p4).1 (own_c255 p4).2 (own_c255 p5).1 (own_c255 p5).2 f166 hz) 0 (Nat.le_of_eq rfl) (by decide) (by decide) (by rw [hml]; rfl) (argsL := [(.int 3), (.int (p3 &&& (255 : Int32))), (.int (p4 &&& (255 : Int32))), (.int (p5 &&& (255 : Int32)))]) (st := []) (lenOf pd_18 rfl) rfl rfl (by decide) (by decide) rfl hby at_73 ?_
      intro T167 v167 L167 X167 hQ167
      obtain ⟨x_167, t_167, kb_167, rfl, Nq167, K167, P167_0, P167_1, P167_2, P167_3, P167_4⟩ := hQ167
      have N167 := Fr.app N8 Nq167
      have z169 : T8.heap.size ≤ T167.heap.size := K167.1
      have C170 := C10.trans (CHr.keep K167 sf0 C10.1)
      have lt171 : T167.heap.size > x_167 := P167_1.lt
      have lt172 : T167.heap.size > t_167 := P167_4.lt
      refine own_sh (T := T167) 76 #[.val (.int p1), .val (.int p2), .val (.int p3), .val (.int p4), .val (.int p5), .val (.int p6), .val (.int ((p1 &&& (2147483647 : Int32)) % (93 : Int32))), .val (.int 126), .val (.ref x_8), .val (.int 3), .val (.int (p3 &&& (255 : Int32))), .val (.int (p4 &&& (255 : Int32))), .val (.int (p5 &&& (255 : Int32))), .unset, .unset, .unset, .unset, .unset] [(.ref x_167)] ?_
      refine own_astore X167.here hx hby at_76 rfl (l' := #[.val (.int p1), .val (.int p2), .val (.int p3), .val (.int p4), .val (.int p5), .val (.int p6), .val (.int ((p1 &&& (2147483647 : Int32)) % (93 : Int32))), .val (.int 126), .val (.ref x_8), .val (.int 3), .val (.int (p3 &&& (255 : Int32))), .val (.int (p4 &&& (255 : Int32))), .val (.int (p5 &&& (255 : Int32))), .val (.ref x_167), .unset, .unset, .unset, .unset]) rfl ?_
      refine own_iload X167.here hx hby at_78 rfl ?_
      refine own_iload X167.here hx hby at_80 rfl ?_
      refine own_iload X167.here hx hby at_82 rfl ?_
      refine own_iload X167.here hx hby at_84 rfl ?_
      have f173 : Sta Z T167.heap "java/lang/String" "COMPACT_STRINGS" "Z" (.int zc) := (own_sta_keep f166 K167 all0)
      have z175 : n0 ≤ T167.heap.size := by omega
      refine own_callS X167 hx hZ hown (own_w hw 27 rfl) (own_w hw 28 rfl) (own_w hw 29 rfl) (own_w hw 30 rfl) (by decide) (str_3 l Z a0 hw [] (p3 &&& (255 : Int32)) (p4 &&& (255 : Int32)) (p5 &&& (255 : Int32)) zc T167.heap n0 z175 (own_c255 p3).1 (own_c255 p3).2 (own_c255 p4).1 (own_c255 p4).2 (own_c255 p5).1 (own_c255 p5).2 f173 hz) 0 (Nat.le_of_eq rfl) (by decide) (by decide) (by rw [hml]; rfl) (argsL := [(.int 3), (.int (p3 &&& (255 : Int32))), (.int (p4 &&& (255 : Int32))), (.int (p5 &&& (255 : Int32)))]) (st := []) (lenOf pd_18 rfl) rfl rfl (by decide) (by decide) rfl hby at_86 ?_
      intro T174 v174 L174 X174 hQ174
      obtain ⟨x_174, t_174, kb_174, rfl, Nq174, K174, P174_0, P174_1, P174_2, P174_3, P174_4⟩ := hQ174
      have N174 := Fr.app N167 Nq174
      have z176 : T167.heap.size ≤ T174.heap.size := K174.1
      have C177 := C170.trans (CHr.keep K174 sf0 C170.1)
      have lt178 : T174.heap.size > x_174 := P174_1.lt
      have lt179 : T174.heap.size > t_174 := P174_4.lt
      refine own_sh (T := T174) 89 #[.val (.int p1), .val (.int p2), .val (.int p3), .val (.int p4), .val (.int p5), .val (.int p6), .val (.int ((p1 &&& (2147483647 : Int32)) % (93 : Int32))), .val (.int 126), .val (.ref x_8), .val (.int 3), .val (.int (p3 &&& (255 : Int32))), .val (.int (p4 &&& (255 : Int32))), .val (.int (p5 &&& (255 : Int32))), .val (.ref x_167), .unset, .unset, .unset, .unset] [(.ref x_174)] ?_
      refine own_astore X174.here hx hby at_89 rfl (l' := #[.val (.int p1), .val (.int p2), .val (.int p3), .val (.int p4), .val (.int p5), .val (.int p6), .val (.int ((p1 &&& (2147483647 : Int32)) % (93 : Int32))), .val (.int 126), .val (.ref x_8), .val (.int 3), .val (.int (p3 &&& (255 : Int32))), .val (.int (p4 &&& (255 : Int32))), .val (.int (p5 &&& (255 : Int32))), .val (.ref x_167), .val (.ref x_174), .unset, .unset, .unset]) rfl ?_
      refine own_iload X174.here hx hby at_91 rfl ?_
      refine own_sipush X174.here hx hby at_93 (v := (255 : Int32)) (by decide) ?_
      refine own_iand X174.here hx hby at_96 rfl ?_
      refine own_i2c X174.here hx hby at_97 rfl ?_
      refine own_sh (T := T174) 98 #[.val (.int p1), .val (.int p2), .val (.int p3), .val (.int p4), .val (.int p5), .val (.int p6), .val (.int ((p1 &&& (2147483647 : Int32)) % (93 : Int32))), .val (.int 126), .val (.ref x_8), .val (.int 3), .val (.int (p3 &&& (255 : Int32))), .val (.int (p4 &&& (255 : Int32))), .val (.int (p5 &&& (255 : Int32))), .val (.ref x_167), .val (.ref x_174), .unset, .unset, .unset] [(.int ((p6 &&& (255 : Int32)).toUInt32.toUInt16.toUInt32.toInt32))] ?_
      rw [show ((p6 &&& (255 : Int32)).toUInt32.toUInt16.toUInt32.toInt32) = (p6 &&& (255 : Int32)) from (i2c_mask p6)]
      have f180 : Sta Z T174.heap "java/lang/String" "COMPACT_STRINGS" "Z" (.int zc) := (own_sta_keep f173 K174 all0)
      have z182 : n0 ≤ T174.heap.size := by omega
      refine own_callS X174 hx hZ hown (own_w hw 1 rfl) (own_w hw 2 rfl) (own_w hw 3 rfl) (own_w hw 4 rfl) (by decide) (valOf l Z a0 hw [] (p6 &&& (255 : Int32)) zc T174.heap n0 z182 f180 hz (own_c255 p6).2) 0 (Nat.le_of_eq rfl) (by decide) (by decide) (by rw [hml]; rfl) (argsL := [(.int (p6 &&& (255 : Int32)))]) (st := []) (lenOf pd_17 rfl) rfl rfl (by decide) (by decide) rfl hby at_98 ?_
      intro T181 v181 L181 X181 hQ181
      obtain ⟨x_181, t_181, kb_181, rfl, Nq181, K181, P181_0, P181_1, P181_2, P181_3, P181_4, P181_5, P181_6⟩ := hQ181
      have N181 := Fr.app N174 Nq181
      have z183 : T174.heap.size ≤ T181.heap.size := K181.1
      have C184 := C177.trans (CHr.keep K181 sf0 C177.1)
      have lt185 : T181.heap.size > x_181 := P181_3.lt
      have lt186 : T181.heap.size > t_181 := P181_6.lt
      refine own_sh (T := T181) 101 #[.val (.int p1), .val (.int p2), .val (.int p3), .val (.int p4), .val (.int p5), .val (.int p6), .val (.int ((p1 &&& (2147483647 : Int32)) % (93 : Int32))), .val (.int 126), .val (.ref x_8), .val (.int 3), .val (.int (p3 &&& (255 : Int32))), .val (.int (p4 &&& (255 : Int32))), .val (.int (p5 &&& (255 : Int32))), .val (.ref x_167), .val (.ref x_174), .unset, .unset, .unset] [(.ref x_181)] ?_
      refine own_astore X181.here hx hby at_101 rfl (l' := #[.val (.int p1), .val (.int p2), .val (.int p3), .val (.int p4), .val (.int p5), .val (.int p6), .val (.int ((p1 &&& (2147483647 : Int32)) % (93 : Int32))), .val (.int 126), .val (.ref x_8), .val (.int 3), .val (.int (p3 &&& (255 : Int32))), .val (.int (p4 &&& (255 : Int32))), .val (.int (p5 &&& (255 : Int32))), .val (.ref x_167), .val (.ref x_174), .val (.ref x_181), .unset, .unset]) rfl ?_
      refine own_newO X181 hx hZ hown (own_w hw 49 rfl) (own_w hw 50 rfl) (own_w hw 51 rfl) rfl hby at_103 (by decide) (by decide) ?_
      intro T187 h187 b187 X187 e187 E187 g187 A187 D187 lt187
      have z188 : T181.heap.size ≤ h187.size := E187.1
      have C189 := C184.trans (CHr.ext E187 C184.1)
      have F190 : Fld Z h187 b187 "com/example/tiny_context/tinycontext/Resource" "id" "Ljava/lang/String;" .null := D187 (Or.inr (own_w hw 101 rfl)) (ty := (.object "java/lang/String")) (by decide)
      have F191 : Fld Z h187 b187 "com/example/tiny_context/tinycontext/Resource" "value" "Ljava/lang/Object;" .null := D187 (Or.inr (own_w hw 103 rfl)) (ty := (.object "java/lang/Object")) (by decide)
      refine own_dup X187.here hx hby at_106 rfl ?_
      refine own_aload X187.here hx hby at_107 rfl rfl ?_
      refine own_aload X187.here hx hby at_109 rfl rfl ?_
      have f192 : Exa Z h187 x_8 "java/lang/String" := ((((P8_3.keep K167).keep K174).keep K181).ext E187)
      have f193 : Fld Z h187 x_8 "java/lang/String" "coder" "B" (.int 0) := ((((P8_4.keep K167 nin0).keep K174 nin0).keep K181 nin0).ext E187)
      have f194 : Fld Z h187 x_8 "java/lang/String" "value" "[B" (.ref t_8) := ((((P8_5.keep K167 nin0).keep K174 nin0).keep K181 nin0).ext E187)
      have f195 : Arv Z h187 t_8 kb_8 .byte (1 : Int32) [(.int ((126 : Int32).toInt8.toInt32))] (.int 0) := ((((P8_6.keep K167 nin0).keep K174 nin0).keep K181 nin0).ext E187)
      have f196 : Sta Z h187 "java/lang/String" "COMPACT_STRINGS" "Z" (.int zc) := ((own_sta_keep f180 K181 all0).ext E187)
      have f197 : Sta Z h187 "jdk/internal/util/Preconditions" "SIOOBE_FORMATTER" "Ljava/util/function/BiFunction;" fm := ((own_sta_keep (own_sta_keep (own_sta_keep (own_sta_keep S_FM K8 all0) K167 all0) K174 all0) K181 all0).ext E187)
      have z199 : n0 ≤ h187.size := by omega
      refine own_specialH X187 hx hZ hEL rfl hown (own_w hw 52 rfl) (own_w hw 53 rfl) (own_w hw 51 rfl) (own_w hw 54 rfl) (by decide) (resInit3 l Z a0 hw [] b187 x_167 x_8 t_8 kb_8 zc fm (126 : Int32) h187 n0 z199 A187 (by omega) F190 F191 f192 f193 f194 f195 f196 hz f197 hfm (by decide) (by decide) (by decide) (by decide) (by decide)) 1 (Nat.le_of_eq rfl) (by decide) (by decide) (by rw [hml]; rfl) (argsL := [(.ref x_8), (.ref x_167)]) (st := [(.ref b187)]) (a := b187) (lenOf pd_19 rfl) rfl rfl (by decide) (by decide) e187 hby C189.1 hS0 (by omega) at_111 ?_
      intro T198 v198 L198 vm198 X198 hS198 hZ198 hown198 hg198 Cn198 hQ198
      obtain ⟨rfl, Nq198, K198, P198_0, P198_1, P198_2⟩ := hQ198
      have N198 := Fr.app N181 Nq198
      have z200 : h187.size ≤ T198.heap.size := K198.1
      have C201 := C189.trans Cn198
      have lt202 : T198.heap.size > b187 := P198_0.lt
      refine own_sh (T := T198) 114 #[.val (.int p1), .val (.int p2), .val (.int p3), .val (.int p4), .val (.int p5), .val (.int p6), .val (.int ((p1 &&& (2147483647 : Int32)) % (93 : Int32))), .val (.int 126), .val (.ref x_8), .val (.int 3), .val (.int (p3 &&& (255 : Int32))), .val (.int (p4 &&& (255 : Int32))), .val (.int (p5 &&& (255 : Int32))), .val (.ref x_167), .val (.ref x_174), .val (.ref x_181), .unset, .unset] [(.ref b187)] ?_
      refine own_astore X198.here hx hby at_114 rfl (l' := #[.val (.int p1), .val (.int p2), .val (.int p3), .val (.int p4), .val (.int p5), .val (.int p6), .val (.int ((p1 &&& (2147483647 : Int32)) % (93 : Int32))), .val (.int 126), .val (.ref x_8), .val (.int 3), .val (.int (p3 &&& (255 : Int32))), .val (.int (p4 &&& (255 : Int32))), .val (.int (p5 &&& (255 : Int32))), .val (.ref x_167), .val (.ref x_174), .val (.ref x_181), .val (.ref b187), .unset]) rfl ?_
      refine own_aload X198.here hx hby at_116 rfl rfl ?_
      refine own_aload X198.here hx hby at_118 rfl rfl ?_
      have f203 : Exa Z T198.heap x_167 "java/lang/String" := ((((P167_1.keep K174).keep K181).ext E187).keep K198)
      have z205 : n0 ≤ T198.heap.size := by omega
      refine own_callS X198 hx hZ198 hown198 (own_w hw 104 rfl) (own_w hw 105 rfl) (own_w hw 106 rfl) (own_w hw 107 rfl) (by decide) (accValue l Z a0 hw [] b187 x_167 x_181 T198.heap n0 z205 P198_0 P198_2 f203) 0 (Nat.le_of_eq rfl) (by decide) (by decide) (by rw [hml]; rfl) (argsL := [(.ref b187), (.ref x_181)]) (st := []) (lenOf pd_20 rfl) rfl rfl (by decide) (by decide) rfl hby at_120 ?_
      intro T204 v204 L204 X204 hQ204
      obtain ⟨rfl, Nq204, eh204⟩ := hQ204
      have N204 := Fr.app N198 Nq204
      refine own_sh (T := T204) 123 #[.val (.int p1), .val (.int p2), .val (.int p3), .val (.int p4), .val (.int p5), .val (.int p6), .val (.int ((p1 &&& (2147483647 : Int32)) % (93 : Int32))), .val (.int 126), .val (.ref x_8), .val (.int 3), .val (.int (p3 &&& (255 : Int32))), .val (.int (p4 &&& (255 : Int32))), .val (.int (p5 &&& (255 : Int32))), .val (.ref x_167), .val (.ref x_174), .val (.ref x_181), .val (.ref b187), .unset] [(.ref x_167)] ?_
      refine own_astore X204.here hx hby at_123 rfl (l' := #[.val (.int p1), .val (.int p2), .val (.int p3), .val (.int p4), .val (.int p5), .val (.int p6), .val (.int ((p1 &&& (2147483647 : Int32)) % (93 : Int32))), .val (.int 126), .val (.ref x_8), .val (.int 3), .val (.int (p3 &&& (255 : Int32))), .val (.int (p4 &&& (255 : Int32))), .val (.int (p5 &&& (255 : Int32))), .val (.ref x_167), .val (.ref x_174), .val (.ref x_181), .val (.ref b187), .val (.ref x_167)]) rfl ?_
      refine own_aload X204.here hx hby at_125 rfl rfl ?_
      refine own_aload X204.here hx hby at_127 rfl rfl ?_
      refine own_acmp X204 hx (same := true) (pc' := 132) hby at_129 rfl rfl (decide_eq_true rfl) (by decide) (by decide) ?_
      refine own_aload X204.here hx hby at_132 rfl rfl ?_
      refine own_aload X204.here hx hby at_134 rfl rfl ?_
      have f206 : Exa Z T198.heap x_174 "java/lang/String" := (((P174_1.keep K181).ext E187).keep K198)
      have f207 : Fld Z T198.heap x_167 "java/lang/String" "coder" "B" (.int 0) := ((((P167_2.keep K174 nin0).keep K181 nin0).ext E187).keep K198 (ninS (own_nn (by omega)) nin0))
      have f208 : Fld Z T198.heap x_167 "java/lang/String" "value" "[B" (.ref t_167) := ((((P167_3.keep K174 nin0).keep K181 nin0).ext E187).keep K198 (ninS (own_nn (by omega)) nin0))
      have f209 : Arv Z T198.heap t_167 kb_167 .byte (3 : Int32) [(.int ((p3 &&& (255 : Int32)).toInt8.toInt32)), (.int ((p4 &&& (255 : Int32)).toInt8.toInt32)), (.int ((p5 &&& (255 : Int32)).toInt8.toInt32))] (.int 0) := ((((P167_4.keep K174 nin0).keep K181 nin0).ext E187).keep K198 (ninS (own_nn (by omega)) nin0))
      have f210 : Fld Z T198.heap x_174 "java/lang/String" "coder" "B" (.int 0) := (((P174_2.keep K181 nin0).ext E187).keep K198 (ninS (own_nn (by omega)) nin0))
      have f211 : Fld Z T198.heap x_174 "java/lang/String" "value" "[B" (.ref t_174) := (((P174_3.keep K181 nin0).ext E187).keep K198 (ninS (own_nn (by omega)) nin0))
      have f212 : Arv Z T198.heap t_174 kb_174 .byte (3 : Int32) [(.int ((p3 &&& (255 : Int32)).toInt8.toInt32)), (.int ((p4 &&& (255 : Int32)).toInt8.toInt32)), (.int ((p5 &&& (255 : Int32)).toInt8.toInt32))] (.int 0) := (((P174_4.keep K181 nin0).ext E187).keep K198 (ninS (own_nn (by omega)) nin0))
      have f213 : Sta Z T198.heap "java/lang/String" "COMPACT_STRINGS" "Z" (.int zc) := (own_sta_keep f196 K198 (allS (own_exa_plain A187) all0))
      refine own_virtual X204 hx hZ198 hown198 (own_w hw 114 rfl) (own_w hw 115 rfl) (notFace_of_selects (args := #[]) (mvT hZ198 (own_w hw 117 rfl))) (own_w hw 117 rfl) (own_w hw 116 rfl) (own_w hw 3 rfl) (own_w hw 118 rfl) (by decide) (strEq_3 l Z a0 hw [] x_167 x_174 t_167 t_174 kb_167 kb_174 zc ((p3 &&& (255 : Int32)).toInt8.toInt32) ((p4 &&& (255 : Int32)).toInt8.toInt32) ((p5 &&& (255 : Int32)).toInt8.toInt32) T198.heap n0 z205 f203 f206 (own_nn (by omega)) f207 f208 f209 f210 f211 f212 f213 hz) 0 (Nat.le_of_eq rfl) (by decide) (by decide) (by rw [hml]; rfl) (argsL := [(.ref x_174)]) (st := []) f203 (lenOf pd_21 rfl) rfl rfl (by decide) (by decide) eh204 hby at_136 ?_
      intro T214 v214 L214 X214 hQ214
      obtain ⟨rfl, Nq214, eh214⟩ := hQ214
      have N214 := Fr.app N204 Nq214
      refine own_sh (T := T214) 139 #[.val (.int p1), .val (.int p2), .val (.int p3), .val (.int p4), .val (.int p5), .val (.int p6), .val (.int ((p1 &&& (2147483647 : Int32)) % (93 : Int32))), .val (.int 126), .val (.ref x_8), .val (.int 3), .val (.int (p3 &&& (255 : Int32))), .val (.int (p4 &&& (255 : Int32))), .val (.int (p5 &&& (255 : Int32))), .val (.ref x_167), .val (.ref x_174), .val (.ref x_181), .val (.ref b187), .val (.ref x_167)] [(.int 1)] ?_
      refine own_ifNo X214.here hx hby at_139 ((if0 _ _).trans (feq (show ¬ ((1 : Int32) = (0 : Int32)) from (by decide))).1) ?_
      refine own_aload X214.here hx hby at_142 rfl rfl ?_
      refine own_virtual X214 hx hZ198 hown198 (own_w hw 122 rfl) (own_w hw 70 rfl) (notFace_of_selects (args := #[]) (mvT hZ198 (own_w hw 72 rfl))) (own_w hw 72 rfl) (own_w hw 71 rfl) (own_w hw 3 rfl) (own_w hw 73 rfl) (by decide) (strLen_3 l Z a0 hw [] x_167 t_167 kb_167 zc ([(.int ((p3 &&& (255 : Int32)).toInt8.toInt32)), (.int ((p4 &&& (255 : Int32)).toInt8.toInt32)), (.int ((p5 &&& (255 : Int32)).toInt8.toInt32))]) T198.heap n0 z205 f203 f207 f208 f209 f213 hz) 0 (Nat.le_of_eq rfl) (by decide) (by decide) (by rw [hml]; rfl) (argsL := []) (st := []) f203 (lenOf pd_11 rfl) rfl rfl (by decide) (by decide) eh214 hby at_144 ?_
      intro T215 v215 L215 X215 hQ215
      obtain ⟨rfl, Nq215, eh215⟩ := hQ215
      have N215 := Fr.app N214 Nq215
      refine own_sh (T := T215) 147 #[.val (.int p1), .val (.int p2), .val (.int p3), .val (.int p4), .val (.int p5), .val (.int p6), .val (.int ((p1 &&& (2147483647 : Int32)) % (93 : Int32))), .val (.int 126), .val (.ref x_8), .val (.int 3), .val (.int (p3 &&& (255 : Int32))), .val (.int (p4 &&& (255 : Int32))), .val (.int (p5 &&& (255 : Int32))), .val (.ref x_167), .val (.ref x_174), .val (.ref x_181), .val (.ref b187), .val (.ref x_167)] [(.int 3)] ?_
      refine own_iload X215.here hx hby at_147 rfl ?_
      refine own_icmpNo X215.here hx hby at_149 (teq (show (3 : Int32) = (3 : Int32) from (by decide))).2 ?_
      refine own_aload X215.here hx hby at_152 rfl rfl ?_
      refine own_virtual X215 hx hZ198 hown198 (own_w hw 123 rfl) (own_w hw 109 rfl) (notFace_of_selects (args := #[]) (mvT hZ198 (own_w hw 111 rfl))) (own_w hw 111 rfl) (own_w hw 110 rfl) (own_w hw 51 rfl) (own_w hw 112 rfl) (by decide) (resValue l Z a0 hw [] b187 x_167 T198.heap n0 z205 P198_2) 0 (Nat.le_of_eq rfl) (by decide) (by decide) (by rw [hml]; rfl) (argsL := []) (st := []) P198_0 (lenOf pd_15 rfl) rfl rfl (by decide) (by decide) eh215 hby at_154 ?_
      intro T216 v216 L216 X216 hQ216
      obtain ⟨rfl, Nq216, eh216⟩ := hQ216
      have N216 := Fr.app N215 Nq216
      refine own_sh (T := T216) 157 #[.val (.int p1), .val (.int p2), .val (.int p3), .val (.int p4), .val (.int p5), .val (.int p6), .val (.int ((p1 &&& (2147483647 : Int32)) % (93 : Int32))), .val (.int 126), .val (.ref x_8), .val (.int 3), .val (.int (p3 &&& (255 : Int32))), .val (.int (p4 &&& (255 : Int32))), .val (.int (p5 &&& (255 : Int32))), .val (.ref x_167), .val (.ref x_174), .val (.ref x_181), .val (.ref b187), .val (.ref x_167)] [(.ref x_167)] ?_
      refine own_aload X216.here hx hby at_157 rfl rfl ?_
      refine own_acmp X216 hx (same := true) (pc' := 162) hby at_159 rfl rfl (decide_eq_true rfl) (by decide) (by decide) ?_
      refine own_iconst X216.here hx hby at_162 (v := (1 : Int32)) (by decide) ?_
      refine own_goto X216.here hx hby (pc' := 167) at_163 (by decide) (by decide) ?_
      obtain ⟨fs, hr, hrun, hended, hRW⟩ := X216.leaveW hS198 (by rw [eh216]; omega) (v := some (.int 1)) (fun h => by rw [Bd.returns] at h; cases h)
      have hCf : CHr Z consts_1 s.vm s.heap T216.vm T216.heap := by
        rw [hh, eh216]
        exact C201.trans (CHv.at X216 hZ198 hEL C201.1)
      refine own_ret (t := T216.setFrames fs) ?_ ⟨_, hrun, hended, _, _, rfl, ?_, hCf, hRW.1, hRW.2.1, hRW.2.2.1, hRW.2.2.2.mono (by decide) (by decide)⟩
      · exact retN X216 hx (t := .boolean) Bd.returns (by simp) (hb hby at_167) hr
      · show Q_rm0 Z p1 p2 p3 p4 p5 p6 zc fm h0 n0 _ T216.heap _
        rw [eh216]
        exact ⟨rfl, N216, trivial⟩
  · refine own_icmpYes Y0.here hx hby (pc' := 28) at_21 (feq hc21_7).2 (by decide) (by decide) ?_
    refine own_iload Y0.here hx hby at_28 rfl ?_
    refine own_callS Y0 hx hZ hown (own_w hw 1 rfl) (own_w hw 2 rfl) (own_w hw 3 rfl) (own_w hw 4 rfl) (by decide) (valOf l Z a0 hw [] (own_ic p1) zc h0 n0 Z0 S_COMPACT hz (own_ic255 p1)) 0 (Nat.le_of_eq rfl) (by decide) (by decide) (by rw [hml]; rfl) (argsL := [(.int (own_ic p1))]) (st := []) (lenOf pd_17 rfl) rfl rfl (by decide) (by decide) e0 hby at_30 ?_
    intro T217 v217 L217 X217 hQ217
    obtain ⟨x_217, t_217, kb_217, rfl, Nq217, K217, P217_0, P217_1, P217_2, P217_3, P217_4, P217_5, P217_6⟩ := hQ217
    have N217 := Fr.app N0 Nq217
    have z218 : h0.size ≤ T217.heap.size := K217.1
    have C219 := C0.trans (CHr.keep K217 sf0 C0.1)
    have lt220 : T217.heap.size > x_217 := P217_3.lt
    have lt221 : T217.heap.size > t_217 := P217_6.lt
    refine own_sh (T := T217) 33 #[.val (.int p1), .val (.int p2), .val (.int p3), .val (.int p4), .val (.int p5), .val (.int p6), .val (.int ((p1 &&& (2147483647 : Int32)) % (93 : Int32))), .val (.int (own_ic p1)), .unset, .unset, .unset, .unset, .unset, .unset, .unset, .unset, .unset, .unset] [(.ref x_217)] ?_
    refine own_astore X217.here hx hby at_33 rfl (l' := #[.val (.int p1), .val (.int p2), .val (.int p3), .val (.int p4), .val (.int p5), .val (.int p6), .val (.int ((p1 &&& (2147483647 : Int32)) % (93 : Int32))), .val (.int (own_ic p1)), .val (.ref x_217), .unset, .unset, .unset, .unset, .unset, .unset, .unset, .unset, .unset]) rfl ?_
    refine own_iloadN X217.here hx hby at_35 rfl ?_
    refine own_iconst X217.here hx hby at_36 (v := (3 : Int32)) (by decide) ?_
    refine own_iand X217.here hx hby at_37 rfl ?_
    refine own_sh (T := T217) 38 #[.val (.int p1), .val (.int p2), .val (.int p3), .val (.int p4), .val (.int p5), .val (.int p6), .val (.int ((p1 &&& (2147483647 : Int32)) % (93 : Int32))), .val (.int (own_ic p1)), .val (.ref x_217), .unset, .unset, .unset, .unset, .unset, .unset, .unset, .unset, .unset] [(.int (p2 &&& (3 : Int32)))] ?_
    rcases own_and3 p2 with hk | hk | hk | hk
    · rw [hk]
      refine own_istore X217.here hx hby at_38 (l' := #[.val (.int p1), .val (.int p2), .val (.int p3), .val (.int p4), .val (.int p5), .val (.int p6), .val (.int ((p1 &&& (2147483647 : Int32)) % (93 : Int32))), .val (.int (own_ic p1)), .val (.ref x_217), .val (.int 0), .unset, .unset, .unset, .unset, .unset, .unset, .unset, .unset]) rfl ?_
      refine own_iloadN X217.here hx hby at_40 rfl ?_
      refine own_sipush X217.here hx hby at_41 (v := (255 : Int32)) (by decide) ?_
      refine own_iand X217.here hx hby at_44 rfl ?_
      refine own_i2c X217.here hx hby at_45 rfl ?_
      refine own_sh (T := T217) 46 #[.val (.int p1), .val (.int p2), .val (.int p3), .val (.int p4), .val (.int p5), .val (.int p6), .val (.int ((p1 &&& (2147483647 : Int32)) % (93 : Int32))), .val (.int (own_ic p1)), .val (.ref x_217), .val (.int 0), .unset, .unset, .unset, .unset, .unset, .unset, .unset, .unset] [(.int ((p3 &&& (255 : Int32)).toUInt32.toUInt16.toUInt32.toInt32))] ?_
      rw [show ((p3 &&& (255 : Int32)).toUInt32.toUInt16.toUInt32.toInt32) = (p3 &&& (255 : Int32)) from (i2c_mask p3)]
      refine own_istore X217.here hx hby at_46 (l' := #[.val (.int p1), .val (.int p2), .val (.int p3), .val (.int p4), .val (.int p5), .val (.int p6), .val (.int ((p1 &&& (2147483647 : Int32)) % (93 : Int32))), .val (.int (own_ic p1)), .val (.ref x_217), .val (.int 0), .val (.int (p3 &&& (255 : Int32))), .unset, .unset, .unset, .unset, .unset, .unset, .unset]) rfl ?_
      refine own_iloadN X217.here hx hby at_48 rfl ?_
      refine own_sipush X217.here hx hby at_49 (v := (255 : Int32)) (by decide) ?_
      refine own_iand X217.here hx hby at_52 rfl ?_
      refine own_i2c X217.here hx hby at_53 rfl ?_
      refine own_sh (T := T217) 54 #[.val (.int p1), .val (.int p2), .val (.int p3), .val (.int p4), .val (.int p5), .val (.int p6), .val (.int ((p1 &&& (2147483647 : Int32)) % (93 : Int32))), .val (.int (own_ic p1)), .val (.ref x_217), .val (.int 0), .val (.int (p3 &&& (255 : Int32))), .unset, .unset, .unset, .unset, .unset, .unset, .unset] [(.int ((p4 &&& (255 : Int32)).toUInt32.toUInt16.toUInt32.toInt32))] ?_
      rw [show ((p4 &&& (255 : Int32)).toUInt32.toUInt16.toUInt32.toInt32) = (p4 &&& (255 : Int32)) from (i2c_mask p4)]
      refine own_istore X217.here hx hby at_54 (l' := #[.val (.int p1), .val (.int p2), .val (.int p3), .val (.int p4), .val (.int p5), .val (.int p6), .val (.int ((p1 &&& (2147483647 : Int32)) % (93 : Int32))), .val (.int (own_ic p1)), .val (.ref x_217), .val (.int 0), .val (.int (p3 &&& (255 : Int32))), .val (.int (p4 &&& (255 : Int32))), .unset, .unset, .unset, .unset, .unset, .unset]) rfl ?_
      refine own_iload X217.here hx hby at_56 rfl ?_
      refine own_sipush X217.here hx hby at_58 (v := (255 : Int32)) (by decide) ?_
      refine own_iand X217.here hx hby at_61 rfl ?_
      refine own_i2c X217.here hx hby at_62 rfl ?_
      refine own_sh (T := T217) 63 #[.val (.int p1), .val (.int p2), .val (.int p3), .val (.int p4), .val (.int p5), .val (.int p6), .val (.int ((p1 &&& (2147483647 : Int32)) % (93 : Int32))), .val (.int (own_ic p1)), .val (.ref x_217), .val (.int 0), .val (.int (p3 &&& (255 : Int32))), .val (.int (p4 &&& (255 : Int32))), .unset, .unset, .unset, .unset, .unset, .unset] [(.int ((p5 &&& (255 : Int32)).toUInt32.toUInt16.toUInt32.toInt32))] ?_
      rw [show ((p5 &&& (255 : Int32)).toUInt32.toUInt16.toUInt32.toInt32) = (p5 &&& (255 : Int32)) from (i2c_mask p5)]
      refine own_istore X217.here hx hby at_63 (l' := #[.val (.int p1), .val (.int p2), .val (.int p3), .val (.int p4), .val (.int p5), .val (.int p6), .val (.int ((p1 &&& (2147483647 : Int32)) % (93 : Int32))), .val (.int (own_ic p1)), .val (.ref x_217), .val (.int 0), .val (.int (p3 &&& (255 : Int32))), .val (.int (p4 &&& (255 : Int32))), .val (.int (p5 &&& (255 : Int32))), .unset, .unset, .unset, .unset, .unset]) rfl ?_
      refine own_iload X217.here hx hby at_65 rfl ?_
      refine own_iload X217.here hx hby at_67 rfl ?_
      refine own_iload X217.here hx hby at_69 rfl ?_
      refine own_iload X217.here hx hby at_71 rfl ?_
      have f222 : Sta Z T217.heap "java/lang/String" "COMPACT_STRINGS" "Z" (.int zc) := (own_sta_keep S_COMPACT K217 all0)
      have z224 : n0 ≤ T217.heap.size := by omega
      refine own_callSH X217 hx hZ hEL hown (own_w hw 27 rfl) (own_w hw 28 rfl) (own_w hw 29 rfl) (own_w hw 30 rfl) (by decide) (str_0 l Z a0 hw [] (p3 &&& (255 : Int32)) (p4 &&& (255 : Int32)) (p5 &&& (255 : Int32)) zc T217.heap n0 z224 (own_c255 p3).1 (own_c255 p3).2 (own_c255 p4).1 (own_c255 p4).2 (own_c255 p5).1 (own_c255 p5).2 f222 hz) 0 (Nat.le_of_eq rfl) (by decide) (by decide) (by rw [hml]; rfl) (argsL := [(.int 0), (.int (p3 &&& (255 : Int32))), (.int (p4 &&& (255 : Int32))), (.int (p5 &&& (255 : Int32)))]) (st := []) (lenOf pd_18 rfl) rfl rfl (by decide) (by decide) rfl hby C219.1 hS0 (by omega) at_73 ?_
      intro T223 v223 L223 vm223 X223 hS223 hZ223 hown223 hg223 Cn223 hQ223
      obtain ⟨x_223, t_223, kb_223, rfl, Nq223, K223, P223_0, P223_1, P223_2, P223_3, P223_4⟩ := hQ223
      have N223 := Fr.app N217 Nq223
      have z225 : T217.heap.size ≤ T223.heap.size := K223.1
      have C226 := C219.trans Cn223
      have lt227 : T223.heap.size > x_223 := P223_1.lt
      have lt228 : T223.heap.size > t_223 := P223_4.lt
      refine own_sh (T := T223) 76 #[.val (.int p1), .val (.int p2), .val (.int p3), .val (.int p4), .val (.int p5), .val (.int p6), .val (.int ((p1 &&& (2147483647 : Int32)) % (93 : Int32))), .val (.int (own_ic p1)), .val (.ref x_217), .val (.int 0), .val (.int (p3 &&& (255 : Int32))), .val (.int (p4 &&& (255 : Int32))), .val (.int (p5 &&& (255 : Int32))), .unset, .unset, .unset, .unset, .unset] [(.ref x_223)] ?_
      refine own_astore X223.here hx hby at_76 rfl (l' := #[.val (.int p1), .val (.int p2), .val (.int p3), .val (.int p4), .val (.int p5), .val (.int p6), .val (.int ((p1 &&& (2147483647 : Int32)) % (93 : Int32))), .val (.int (own_ic p1)), .val (.ref x_217), .val (.int 0), .val (.int (p3 &&& (255 : Int32))), .val (.int (p4 &&& (255 : Int32))), .val (.int (p5 &&& (255 : Int32))), .val (.ref x_223), .unset, .unset, .unset, .unset]) rfl ?_
      refine own_iload X223.here hx hby at_78 rfl ?_
      refine own_iload X223.here hx hby at_80 rfl ?_
      refine own_iload X223.here hx hby at_82 rfl ?_
      refine own_iload X223.here hx hby at_84 rfl ?_
      have f229 : Sta Z T223.heap "java/lang/String" "COMPACT_STRINGS" "Z" (.int zc) := (own_sta_keep f222 K223 all0)
      have z231 : n0 ≤ T223.heap.size := by omega
      refine own_callSH X223 hx hZ223 hEL hown223 (own_w hw 27 rfl) (own_w hw 28 rfl) (own_w hw 29 rfl) (own_w hw 30 rfl) (by decide) (str_0 l Z a0 hw [] (p3 &&& (255 : Int32)) (p4 &&& (255 : Int32)) (p5 &&& (255 : Int32)) zc T223.heap n0 z231 (own_c255 p3).1 (own_c255 p3).2 (own_c255 p4).1 (own_c255 p4).2 (own_c255 p5).1 (own_c255 p5).2 f229 hz) 0 (Nat.le_of_eq rfl) (by decide) (by decide) (by rw [hml]; rfl) (argsL := [(.int 0), (.int (p3 &&& (255 : Int32))), (.int (p4 &&& (255 : Int32))), (.int (p5 &&& (255 : Int32)))]) (st := []) (lenOf pd_18 rfl) rfl rfl (by decide) (by decide) rfl hby C226.1 hS223 (by omega) at_86 ?_
      intro T230 v230 L230 vm230 X230 hS230 hZ230 hown230 hg230 Cn230 hQ230
      obtain ⟨x_230, t_230, kb_230, rfl, Nq230, K230, P230_0, P230_1, P230_2, P230_3, P230_4⟩ := hQ230
      have N230 := Fr.app N223 Nq230
      have z232 : T223.heap.size ≤ T230.heap.size := K230.1
      have C233 := C226.trans Cn230
      have lt234 : T230.heap.size > x_230 := P230_1.lt
      have lt235 : T230.heap.size > t_230 := P230_4.lt
      refine own_sh (T := T230) 89 #[.val (.int p1), .val (.int p2), .val (.int p3), .val (.int p4), .val (.int p5), .val (.int p6), .val (.int ((p1 &&& (2147483647 : Int32)) % (93 : Int32))), .val (.int (own_ic p1)), .val (.ref x_217), .val (.int 0), .val (.int (p3 &&& (255 : Int32))), .val (.int (p4 &&& (255 : Int32))), .val (.int (p5 &&& (255 : Int32))), .val (.ref x_223), .unset, .unset, .unset, .unset] [(.ref x_230)] ?_
      refine own_astore X230.here hx hby at_89 rfl (l' := #[.val (.int p1), .val (.int p2), .val (.int p3), .val (.int p4), .val (.int p5), .val (.int p6), .val (.int ((p1 &&& (2147483647 : Int32)) % (93 : Int32))), .val (.int (own_ic p1)), .val (.ref x_217), .val (.int 0), .val (.int (p3 &&& (255 : Int32))), .val (.int (p4 &&& (255 : Int32))), .val (.int (p5 &&& (255 : Int32))), .val (.ref x_223), .val (.ref x_230), .unset, .unset, .unset]) rfl ?_
      refine own_iload X230.here hx hby at_91 rfl ?_
      refine own_sipush X230.here hx hby at_93 (v := (255 : Int32)) (by decide) ?_
      refine own_iand X230.here hx hby at_96 rfl ?_
      refine own_i2c X230.here hx hby at_97 rfl ?_
      refine own_sh (T := T230) 98 #[.val (.int p1), .val (.int p2), .val (.int p3), .val (.int p4), .val (.int p5), .val (.int p6), .val (.int ((p1 &&& (2147483647 : Int32)) % (93 : Int32))), .val (.int (own_ic p1)), .val (.ref x_217), .val (.int 0), .val (.int (p3 &&& (255 : Int32))), .val (.int (p4 &&& (255 : Int32))), .val (.int (p5 &&& (255 : Int32))), .val (.ref x_223), .val (.ref x_230), .unset, .unset, .unset] [(.int ((p6 &&& (255 : Int32)).toUInt32.toUInt16.toUInt32.toInt32))] ?_
      rw [show ((p6 &&& (255 : Int32)).toUInt32.toUInt16.toUInt32.toInt32) = (p6 &&& (255 : Int32)) from (i2c_mask p6)]
      have f236 : Sta Z T230.heap "java/lang/String" "COMPACT_STRINGS" "Z" (.int zc) := (own_sta_keep f229 K230 all0)
      have z238 : n0 ≤ T230.heap.size := by omega
      refine own_callS X230 hx hZ230 hown230 (own_w hw 1 rfl) (own_w hw 2 rfl) (own_w hw 3 rfl) (own_w hw 4 rfl) (by decide) (valOf l Z a0 hw [] (p6 &&& (255 : Int32)) zc T230.heap n0 z238 f236 hz (own_c255 p6).2) 0 (Nat.le_of_eq rfl) (by decide) (by decide) (by rw [hml]; rfl) (argsL := [(.int (p6 &&& (255 : Int32)))]) (st := []) (lenOf pd_17 rfl) rfl rfl (by decide) (by decide) rfl hby at_98 ?_
      intro T237 v237 L237 X237 hQ237
      obtain ⟨x_237, t_237, kb_237, rfl, Nq237, K237, P237_0, P237_1, P237_2, P237_3, P237_4, P237_5, P237_6⟩ := hQ237
      have N237 := Fr.app N230 Nq237
      have z239 : T230.heap.size ≤ T237.heap.size := K237.1
      have C240 := C233.trans (CHr.keep K237 sf0 C233.1)
      have lt241 : T237.heap.size > x_237 := P237_3.lt
      have lt242 : T237.heap.size > t_237 := P237_6.lt
      refine own_sh (T := T237) 101 #[.val (.int p1), .val (.int p2), .val (.int p3), .val (.int p4), .val (.int p5), .val (.int p6), .val (.int ((p1 &&& (2147483647 : Int32)) % (93 : Int32))), .val (.int (own_ic p1)), .val (.ref x_217), .val (.int 0), .val (.int (p3 &&& (255 : Int32))), .val (.int (p4 &&& (255 : Int32))), .val (.int (p5 &&& (255 : Int32))), .val (.ref x_223), .val (.ref x_230), .unset, .unset, .unset] [(.ref x_237)] ?_
      refine own_astore X237.here hx hby at_101 rfl (l' := #[.val (.int p1), .val (.int p2), .val (.int p3), .val (.int p4), .val (.int p5), .val (.int p6), .val (.int ((p1 &&& (2147483647 : Int32)) % (93 : Int32))), .val (.int (own_ic p1)), .val (.ref x_217), .val (.int 0), .val (.int (p3 &&& (255 : Int32))), .val (.int (p4 &&& (255 : Int32))), .val (.int (p5 &&& (255 : Int32))), .val (.ref x_223), .val (.ref x_230), .val (.ref x_237), .unset, .unset]) rfl ?_
      refine own_newO X237 hx hZ230 hown230 (own_w hw 49 rfl) (own_w hw 50 rfl) (own_w hw 51 rfl) rfl hby at_103 (by decide) (by decide) ?_
      intro T243 h243 b243 X243 e243 E243 g243 A243 D243 lt243
      have z244 : T237.heap.size ≤ h243.size := E243.1
      have C245 := C240.trans (CHr.ext E243 C240.1)
      have F246 : Fld Z h243 b243 "com/example/tiny_context/tinycontext/Resource" "id" "Ljava/lang/String;" .null := D243 (Or.inr (own_w hw 101 rfl)) (ty := (.object "java/lang/String")) (by decide)
      have F247 : Fld Z h243 b243 "com/example/tiny_context/tinycontext/Resource" "value" "Ljava/lang/Object;" .null := D243 (Or.inr (own_w hw 103 rfl)) (ty := (.object "java/lang/Object")) (by decide)
      refine own_dup X243.here hx hby at_106 rfl ?_
      refine own_aload X243.here hx hby at_107 rfl rfl ?_
      refine own_aload X243.here hx hby at_109 rfl rfl ?_
      have f248 : Exa Z h243 x_217 "java/lang/String" := ((((P217_3.keep K223).keep K230).keep K237).ext E243)
      have f249 : Fld Z h243 x_217 "java/lang/String" "coder" "B" (.int 0) := ((((P217_4.keep K223 nin0).keep K230 nin0).keep K237 nin0).ext E243)
      have f250 : Fld Z h243 x_217 "java/lang/String" "value" "[B" (.ref t_217) := ((((P217_5.keep K223 nin0).keep K230 nin0).keep K237 nin0).ext E243)
      have f251 : Arv Z h243 t_217 kb_217 .byte (1 : Int32) [(.int ((own_ic p1).toInt8.toInt32))] (.int 0) := ((((P217_6.keep K223 nin0).keep K230 nin0).keep K237 nin0).ext E243)
      have f252 : Sta Z h243 "java/lang/String" "COMPACT_STRINGS" "Z" (.int zc) := ((own_sta_keep f236 K237 all0).ext E243)
      have f253 : Sta Z h243 "jdk/internal/util/Preconditions" "SIOOBE_FORMATTER" "Ljava/util/function/BiFunction;" fm := ((own_sta_keep (own_sta_keep (own_sta_keep (own_sta_keep S_FM K217 all0) K223 all0) K230 all0) K237 all0).ext E243)
      have z255 : n0 ≤ h243.size := by omega
      refine own_specialH X243 hx hZ230 hEL rfl hown230 (own_w hw 52 rfl) (own_w hw 53 rfl) (own_w hw 51 rfl) (own_w hw 54 rfl) (by decide) (resInit3 l Z a0 hw [] b243 x_223 x_217 t_217 kb_217 zc fm (own_ic p1) h243 n0 z255 A243 (by omega) F246 F247 f248 f249 f250 f251 f252 hz f253 hfm (own_ic0 p1) (own_ic255 p1) hc21_7 (own_ic32 p1) (own_ic126 p1)) 1 (Nat.le_of_eq rfl) (by decide) (by decide) (by rw [hml]; rfl) (argsL := [(.ref x_217), (.ref x_223)]) (st := [(.ref b243)]) (a := b243) (lenOf pd_19 rfl) rfl rfl (by decide) (by decide) e243 hby C245.1 hS230 (by omega) at_111 ?_
      intro T254 v254 L254 vm254 X254 hS254 hZ254 hown254 hg254 Cn254 hQ254
      obtain ⟨rfl, Nq254, K254, P254_0, P254_1, P254_2⟩ := hQ254
      have N254 := Fr.app N237 Nq254
      have z256 : h243.size ≤ T254.heap.size := K254.1
      have C257 := C245.trans Cn254
      have lt258 : T254.heap.size > b243 := P254_0.lt
      refine own_sh (T := T254) 114 #[.val (.int p1), .val (.int p2), .val (.int p3), .val (.int p4), .val (.int p5), .val (.int p6), .val (.int ((p1 &&& (2147483647 : Int32)) % (93 : Int32))), .val (.int (own_ic p1)), .val (.ref x_217), .val (.int 0), .val (.int (p3 &&& (255 : Int32))), .val (.int (p4 &&& (255 : Int32))), .val (.int (p5 &&& (255 : Int32))), .val (.ref x_223), .val (.ref x_230), .val (.ref x_237), .unset, .unset] [(.ref b243)] ?_
      refine own_astore X254.here hx hby at_114 rfl (l' := #[.val (.int p1), .val (.int p2), .val (.int p3), .val (.int p4), .val (.int p5), .val (.int p6), .val (.int ((p1 &&& (2147483647 : Int32)) % (93 : Int32))), .val (.int (own_ic p1)), .val (.ref x_217), .val (.int 0), .val (.int (p3 &&& (255 : Int32))), .val (.int (p4 &&& (255 : Int32))), .val (.int (p5 &&& (255 : Int32))), .val (.ref x_223), .val (.ref x_230), .val (.ref x_237), .val (.ref b243), .unset]) rfl ?_
      refine own_aload X254.here hx hby at_116 rfl rfl ?_
      refine own_aload X254.here hx hby at_118 rfl rfl ?_
      have f259 : Exa Z T254.heap x_223 "java/lang/String" := ((((P223_1.keep K230).keep K237).ext E243).keep K254)
      have z261 : n0 ≤ T254.heap.size := by omega
      refine own_callS X254 hx hZ254 hown254 (own_w hw 104 rfl) (own_w hw 105 rfl) (own_w hw 106 rfl) (own_w hw 107 rfl) (by decide) (accValue l Z a0 hw [] b243 x_223 x_237 T254.heap n0 z261 P254_0 P254_2 f259) 0 (Nat.le_of_eq rfl) (by decide) (by decide) (by rw [hml]; rfl) (argsL := [(.ref b243), (.ref x_237)]) (st := []) (lenOf pd_20 rfl) rfl rfl (by decide) (by decide) rfl hby at_120 ?_
      intro T260 v260 L260 X260 hQ260
      obtain ⟨rfl, Nq260, eh260⟩ := hQ260
      have N260 := Fr.app N254 Nq260
      refine own_sh (T := T260) 123 #[.val (.int p1), .val (.int p2), .val (.int p3), .val (.int p4), .val (.int p5), .val (.int p6), .val (.int ((p1 &&& (2147483647 : Int32)) % (93 : Int32))), .val (.int (own_ic p1)), .val (.ref x_217), .val (.int 0), .val (.int (p3 &&& (255 : Int32))), .val (.int (p4 &&& (255 : Int32))), .val (.int (p5 &&& (255 : Int32))), .val (.ref x_223), .val (.ref x_230), .val (.ref x_237), .val (.ref b243), .unset] [(.ref x_223)] ?_
      refine own_astore X260.here hx hby at_123 rfl (l' := #[.val (.int p1), .val (.int p2), .val (.int p3), .val (.int p4), .val (.int p5), .val (.int p6), .val (.int ((p1 &&& (2147483647 : Int32)) % (93 : Int32))), .val (.int (own_ic p1)), .val (.ref x_217), .val (.int 0), .val (.int (p3 &&& (255 : Int32))), .val (.int (p4 &&& (255 : Int32))), .val (.int (p5 &&& (255 : Int32))), .val (.ref x_223), .val (.ref x_230), .val (.ref x_237), .val (.ref b243), .val (.ref x_223)]) rfl ?_
      refine own_aload X260.here hx hby at_125 rfl rfl ?_
      refine own_aload X260.here hx hby at_127 rfl rfl ?_
      refine own_acmp X260 hx (same := true) (pc' := 132) hby at_129 rfl rfl (decide_eq_true rfl) (by decide) (by decide) ?_
      refine own_aload X260.here hx hby at_132 rfl rfl ?_
      refine own_aload X260.here hx hby at_134 rfl rfl ?_
      have f262 : Exa Z T254.heap x_230 "java/lang/String" := (((P230_1.keep K237).ext E243).keep K254)
      have f263 : Fld Z T254.heap x_223 "java/lang/String" "coder" "B" (.int 0) := ((((P223_2.keep K230 nin0).keep K237 nin0).ext E243).keep K254 (ninS (own_nn (by omega)) nin0))
      have f264 : Fld Z T254.heap x_223 "java/lang/String" "value" "[B" (.ref t_223) := ((((P223_3.keep K230 nin0).keep K237 nin0).ext E243).keep K254 (ninS (own_nn (by omega)) nin0))
      have f265 : Arv Z T254.heap t_223 kb_223 .byte (0 : Int32) [] (.int 0) := ((((P223_4.keep K230 nin0).keep K237 nin0).ext E243).keep K254 (ninS (own_nn (by omega)) nin0))
      have f266 : Fld Z T254.heap x_230 "java/lang/String" "coder" "B" (.int 0) := (((P230_2.keep K237 nin0).ext E243).keep K254 (ninS (own_nn (by omega)) nin0))
      have f267 : Fld Z T254.heap x_230 "java/lang/String" "value" "[B" (.ref t_230) := (((P230_3.keep K237 nin0).ext E243).keep K254 (ninS (own_nn (by omega)) nin0))
      have f268 : Arv Z T254.heap t_230 kb_230 .byte (0 : Int32) [] (.int 0) := (((P230_4.keep K237 nin0).ext E243).keep K254 (ninS (own_nn (by omega)) nin0))
      have f269 : Sta Z T254.heap "java/lang/String" "COMPACT_STRINGS" "Z" (.int zc) := (own_sta_keep f252 K254 (allS (own_exa_plain A243) all0))
      refine own_virtual X260 hx hZ254 hown254 (own_w hw 114 rfl) (own_w hw 115 rfl) (notFace_of_selects (args := #[]) (mvT hZ254 (own_w hw 117 rfl))) (own_w hw 117 rfl) (own_w hw 116 rfl) (own_w hw 3 rfl) (own_w hw 118 rfl) (by decide) (strEq_0 l Z a0 hw [] x_223 x_230 t_223 t_230 kb_223 kb_230 zc T254.heap n0 z261 f259 f262 (own_nn (by omega)) f263 f264 f265 f266 f267 f268 f269 hz) 0 (Nat.le_of_eq rfl) (by decide) (by decide) (by rw [hml]; rfl) (argsL := [(.ref x_230)]) (st := []) f259 (lenOf pd_21 rfl) rfl rfl (by decide) (by decide) eh260 hby at_136 ?_
      intro T270 v270 L270 X270 hQ270
      obtain ⟨rfl, Nq270, eh270⟩ := hQ270
      have N270 := Fr.app N260 Nq270
      refine own_sh (T := T270) 139 #[.val (.int p1), .val (.int p2), .val (.int p3), .val (.int p4), .val (.int p5), .val (.int p6), .val (.int ((p1 &&& (2147483647 : Int32)) % (93 : Int32))), .val (.int (own_ic p1)), .val (.ref x_217), .val (.int 0), .val (.int (p3 &&& (255 : Int32))), .val (.int (p4 &&& (255 : Int32))), .val (.int (p5 &&& (255 : Int32))), .val (.ref x_223), .val (.ref x_230), .val (.ref x_237), .val (.ref b243), .val (.ref x_223)] [(.int 1)] ?_
      refine own_ifNo X270.here hx hby at_139 ((if0 _ _).trans (feq (show ¬ ((1 : Int32) = (0 : Int32)) from (by decide))).1) ?_
      refine own_aload X270.here hx hby at_142 rfl rfl ?_
      refine own_virtual X270 hx hZ254 hown254 (own_w hw 122 rfl) (own_w hw 70 rfl) (notFace_of_selects (args := #[]) (mvT hZ254 (own_w hw 72 rfl))) (own_w hw 72 rfl) (own_w hw 71 rfl) (own_w hw 3 rfl) (own_w hw 73 rfl) (by decide) (strLen_0 l Z a0 hw [] x_223 t_223 kb_223 zc ([]) T254.heap n0 z261 f259 f263 f264 f265 f269 hz) 0 (Nat.le_of_eq rfl) (by decide) (by decide) (by rw [hml]; rfl) (argsL := []) (st := []) f259 (lenOf pd_11 rfl) rfl rfl (by decide) (by decide) eh270 hby at_144 ?_
      intro T271 v271 L271 X271 hQ271
      obtain ⟨rfl, Nq271, eh271⟩ := hQ271
      have N271 := Fr.app N270 Nq271
      refine own_sh (T := T271) 147 #[.val (.int p1), .val (.int p2), .val (.int p3), .val (.int p4), .val (.int p5), .val (.int p6), .val (.int ((p1 &&& (2147483647 : Int32)) % (93 : Int32))), .val (.int (own_ic p1)), .val (.ref x_217), .val (.int 0), .val (.int (p3 &&& (255 : Int32))), .val (.int (p4 &&& (255 : Int32))), .val (.int (p5 &&& (255 : Int32))), .val (.ref x_223), .val (.ref x_230), .val (.ref x_237), .val (.ref b243), .val (.ref x_223)] [(.int 0)] ?_
      refine own_iload X271.here hx hby at_147 rfl ?_
      refine own_icmpNo X271.here hx hby at_149 (teq (show (0 : Int32) = (0 : Int32) from (by decide))).2 ?_
      refine own_aload X271.here hx hby at_152 rfl rfl ?_
      refine own_virtual X271 hx hZ254 hown254 (own_w hw 123 rfl) (own_w hw 109 rfl) (notFace_of_selects (args := #[]) (mvT hZ254 (own_w hw 111 rfl))) (own_w hw 111 rfl) (own_w hw 110 rfl) (own_w hw 51 rfl) (own_w hw 112 rfl) (by decide) (resValue l Z a0 hw [] b243 x_223 T254.heap n0 z261 P254_2) 0 (Nat.le_of_eq rfl) (by decide) (by decide) (by rw [hml]; rfl) (argsL := []) (st := []) P254_0 (lenOf pd_15 rfl) rfl rfl (by decide) (by decide) eh271 hby at_154 ?_
      intro T272 v272 L272 X272 hQ272
      obtain ⟨rfl, Nq272, eh272⟩ := hQ272
      have N272 := Fr.app N271 Nq272
      refine own_sh (T := T272) 157 #[.val (.int p1), .val (.int p2), .val (.int p3), .val (.int p4), .val (.int p5), .val (.int p6), .val (.int ((p1 &&& (2147483647 : Int32)) % (93 : Int32))), .val (.int (own_ic p1)), .val (.ref x_217), .val (.int 0), .val (.int (p3 &&& (255 : Int32))), .val (.int (p4 &&& (255 : Int32))), .val (.int (p5 &&& (255 : Int32))), .val (.ref x_223), .val (.ref x_230), .val (.ref x_237), .val (.ref b243), .val (.ref x_223)] [(.ref x_223)] ?_
      refine own_aload X272.here hx hby at_157 rfl rfl ?_
      refine own_acmp X272 hx (same := true) (pc' := 162) hby at_159 rfl rfl (decide_eq_true rfl) (by decide) (by decide) ?_
      refine own_iconst X272.here hx hby at_162 (v := (1 : Int32)) (by decide) ?_
      refine own_goto X272.here hx hby (pc' := 167) at_163 (by decide) (by decide) ?_
      obtain ⟨fs, hr, hrun, hended, hRW⟩ := X272.leaveW hS254 (by rw [eh272]; omega) (v := some (.int 1)) (fun h => by rw [Bd.returns] at h; cases h)
      have hCf : CHr Z consts_1 s.vm s.heap T272.vm T272.heap := by
        rw [hh, eh272]
        exact C257.trans (CHv.at X272 hZ254 hEL C257.1)
      refine own_ret (t := T272.setFrames fs) ?_ ⟨_, hrun, hended, _, _, rfl, ?_, hCf, hRW.1, hRW.2.1, hRW.2.2.1, hRW.2.2.2.mono (by decide) (by decide)⟩
      · exact retN X272 hx (t := .boolean) Bd.returns (by simp) (hb hby at_167) hr
      · show Q_rm0 Z p1 p2 p3 p4 p5 p6 zc fm h0 n0 _ T272.heap _
        rw [eh272]
        exact ⟨rfl, N272, trivial⟩
    · rw [hk]
      refine own_istore X217.here hx hby at_38 (l' := #[.val (.int p1), .val (.int p2), .val (.int p3), .val (.int p4), .val (.int p5), .val (.int p6), .val (.int ((p1 &&& (2147483647 : Int32)) % (93 : Int32))), .val (.int (own_ic p1)), .val (.ref x_217), .val (.int 1), .unset, .unset, .unset, .unset, .unset, .unset, .unset, .unset]) rfl ?_
      refine own_iloadN X217.here hx hby at_40 rfl ?_
      refine own_sipush X217.here hx hby at_41 (v := (255 : Int32)) (by decide) ?_
      refine own_iand X217.here hx hby at_44 rfl ?_
      refine own_i2c X217.here hx hby at_45 rfl ?_
      refine own_sh (T := T217) 46 #[.val (.int p1), .val (.int p2), .val (.int p3), .val (.int p4), .val (.int p5), .val (.int p6), .val (.int ((p1 &&& (2147483647 : Int32)) % (93 : Int32))), .val (.int (own_ic p1)), .val (.ref x_217), .val (.int 1), .unset, .unset, .unset, .unset, .unset, .unset, .unset, .unset] [(.int ((p3 &&& (255 : Int32)).toUInt32.toUInt16.toUInt32.toInt32))] ?_
      rw [show ((p3 &&& (255 : Int32)).toUInt32.toUInt16.toUInt32.toInt32) = (p3 &&& (255 : Int32)) from (i2c_mask p3)]
      refine own_istore X217.here hx hby at_46 (l' := #[.val (.int p1), .val (.int p2), .val (.int p3), .val (.int p4), .val (.int p5), .val (.int p6), .val (.int ((p1 &&& (2147483647 : Int32)) % (93 : Int32))), .val (.int (own_ic p1)), .val (.ref x_217), .val (.int 1), .val (.int (p3 &&& (255 : Int32))), .unset, .unset, .unset, .unset, .unset, .unset, .unset]) rfl ?_
      refine own_iloadN X217.here hx hby at_48 rfl ?_
      refine own_sipush X217.here hx hby at_49 (v := (255 : Int32)) (by decide) ?_
      refine own_iand X217.here hx hby at_52 rfl ?_
      refine own_i2c X217.here hx hby at_53 rfl ?_
      refine own_sh (T := T217) 54 #[.val (.int p1), .val (.int p2), .val (.int p3), .val (.int p4), .val (.int p5), .val (.int p6), .val (.int ((p1 &&& (2147483647 : Int32)) % (93 : Int32))), .val (.int (own_ic p1)), .val (.ref x_217), .val (.int 1), .val (.int (p3 &&& (255 : Int32))), .unset, .unset, .unset, .unset, .unset, .unset, .unset] [(.int ((p4 &&& (255 : Int32)).toUInt32.toUInt16.toUInt32.toInt32))] ?_
      rw [show ((p4 &&& (255 : Int32)).toUInt32.toUInt16.toUInt32.toInt32) = (p4 &&& (255 : Int32)) from (i2c_mask p4)]
      refine own_istore X217.here hx hby at_54 (l' := #[.val (.int p1), .val (.int p2), .val (.int p3), .val (.int p4), .val (.int p5), .val (.int p6), .val (.int ((p1 &&& (2147483647 : Int32)) % (93 : Int32))), .val (.int (own_ic p1)), .val (.ref x_217), .val (.int 1), .val (.int (p3 &&& (255 : Int32))), .val (.int (p4 &&& (255 : Int32))), .unset, .unset, .unset, .unset, .unset, .unset]) rfl ?_
      refine own_iload X217.here hx hby at_56 rfl ?_
      refine own_sipush X217.here hx hby at_58 (v := (255 : Int32)) (by decide) ?_
      refine own_iand X217.here hx hby at_61 rfl ?_
      refine own_i2c X217.here hx hby at_62 rfl ?_
      refine own_sh (T := T217) 63 #[.val (.int p1), .val (.int p2), .val (.int p3), .val (.int p4), .val (.int p5), .val (.int p6), .val (.int ((p1 &&& (2147483647 : Int32)) % (93 : Int32))), .val (.int (own_ic p1)), .val (.ref x_217), .val (.int 1), .val (.int (p3 &&& (255 : Int32))), .val (.int (p4 &&& (255 : Int32))), .unset, .unset, .unset, .unset, .unset, .unset] [(.int ((p5 &&& (255 : Int32)).toUInt32.toUInt16.toUInt32.toInt32))] ?_
      rw [show ((p5 &&& (255 : Int32)).toUInt32.toUInt16.toUInt32.toInt32) = (p5 &&& (255 : Int32)) from (i2c_mask p5)]
      refine own_istore X217.here hx hby at_63 (l' := #[.val (.int p1), .val (.int p2), .val (.int p3), .val (.int p4), .val (.int p5), .val (.int p6), .val (.int ((p1 &&& (2147483647 : Int32)) % (93 : Int32))), .val (.int (own_ic p1)), .val (.ref x_217), .val (.int 1), .val (.int (p3 &&& (255 : Int32))), .val (.int (p4 &&& (255 : Int32))), .val (.int (p5 &&& (255 : Int32))), .unset, .unset, .unset, .unset, .unset]) rfl ?_
      refine own_iload X217.here hx hby at_65 rfl ?_
      refine own_iload X217.here hx hby at_67 rfl ?_
      refine own_iload X217.here hx hby at_69 rfl ?_
      refine own_iload X217.here hx hby at_71 rfl ?_
      have f273 : Sta Z T217.heap "java/lang/String" "COMPACT_STRINGS" "Z" (.int zc) := (own_sta_keep S_COMPACT K217 all0)
      have z275 : n0 ≤ T217.heap.size := by omega
      refine own_callS X217 hx hZ hown (own_w hw 27 rfl) (own_w hw 28 rfl) (own_w hw 29 rfl) (own_w hw 30 rfl) (by decide) (str_1 l Z a0 hw [] (p3 &&& (255 : Int32)) (p4 &&& (255 : Int32)) (p5 &&& (255 : Int32)) zc T217.heap n0 z275 (own_c255 p3).1 (own_c255 p3).2 (own_c255 p4).1 (own_c255 p4).2 (own_c255 p5).1 (own_c255 p5).2 f273 hz) 0 (Nat.le_of_eq rfl) (by decide) (by decide) (by rw [hml]; rfl) (argsL := [(.int 1), (.int (p3 &&& (255 : Int32))), (.int (p4 &&& (255 : Int32))), (.int (p5 &&& (255 : Int32)))]) (st := []) (lenOf pd_18 rfl) rfl rfl (by decide) (by decide) rfl hby at_73 ?_
      intro T274 v274 L274 X274 hQ274
      obtain ⟨x_274, t_274, kb_274, rfl, Nq274, K274, P274_0, P274_1, P274_2, P274_3, P274_4⟩ := hQ274
      have N274 := Fr.app N217 Nq274
      have z276 : T217.heap.size ≤ T274.heap.size := K274.1
      have C277 := C219.trans (CHr.keep K274 sf0 C219.1)
      have lt278 : T274.heap.size > x_274 := P274_1.lt
      have lt279 : T274.heap.size > t_274 := P274_4.lt
      refine own_sh (T := T274) 76 #[.val (.int p1), .val (.int p2), .val (.int p3), .val (.int p4), .val (.int p5), .val (.int p6), .val (.int ((p1 &&& (2147483647 : Int32)) % (93 : Int32))), .val (.int (own_ic p1)), .val (.ref x_217), .val (.int 1), .val (.int (p3 &&& (255 : Int32))), .val (.int (p4 &&& (255 : Int32))), .val (.int (p5 &&& (255 : Int32))), .unset, .unset, .unset, .unset, .unset] [(.ref x_274)] ?_
      refine own_astore X274.here hx hby at_76 rfl (l' := #[.val (.int p1), .val (.int p2), .val (.int p3), .val (.int p4), .val (.int p5), .val (.int p6), .val (.int ((p1 &&& (2147483647 : Int32)) % (93 : Int32))), .val (.int (own_ic p1)), .val (.ref x_217), .val (.int 1), .val (.int (p3 &&& (255 : Int32))), .val (.int (p4 &&& (255 : Int32))), .val (.int (p5 &&& (255 : Int32))), .val (.ref x_274), .unset, .unset, .unset, .unset]) rfl ?_
      refine own_iload X274.here hx hby at_78 rfl ?_
      refine own_iload X274.here hx hby at_80 rfl ?_
      refine own_iload X274.here hx hby at_82 rfl ?_
      refine own_iload X274.here hx hby at_84 rfl ?_
      have f280 : Sta Z T274.heap "java/lang/String" "COMPACT_STRINGS" "Z" (.int zc) := (own_sta_keep f273 K274 all0)
      have z282 : n0 ≤ T274.heap.size := by omega
      refine own_callS X274 hx hZ hown (own_w hw 27 rfl) (own_w hw 28 rfl) (own_w hw 29 rfl) (own_w hw 30 rfl) (by decide) (str_1 l Z a0 hw [] (p3 &&& (255 : Int32)) (p4 &&& (255 : Int32)) (p5 &&& (255 : Int32)) zc T274.heap n0 z282 (own_c255 p3).1 (own_c255 p3).2 (own_c255 p4).1 (own_c255 p4).2 (own_c255 p5).1 (own_c255 p5).2 f280 hz) 0 (Nat.le_of_eq rfl) (by decide) (by decide) (by rw [hml]; rfl) (argsL := [(.int 1), (.int (p3 &&& (255 : Int32))), (.int (p4 &&& (255 : Int32))), (.int (p5 &&& (255 : Int32)))]) (st := []) (lenOf pd_18 rfl) rfl rfl (by decide) (by decide) rfl hby at_86 ?_
      intro T281 v281 L281 X281 hQ281
      obtain ⟨x_281, t_281, kb_281, rfl, Nq281, K281, P281_0, P281_1, P281_2, P281_3, P281_4⟩ := hQ281
      have N281 := Fr.app N274 Nq281
      have z283 : T274.heap.size ≤ T281.heap.size := K281.1
      have C284 := C277.trans (CHr.keep K281 sf0 C277.1)
      have lt285 : T281.heap.size > x_281 := P281_1.lt
      have lt286 : T281.heap.size > t_281 := P281_4.lt
      refine own_sh (T := T281) 89 #[.val (.int p1), .val (.int p2), .val (.int p3), .val (.int p4), .val (.int p5), .val (.int p6), .val (.int ((p1 &&& (2147483647 : Int32)) % (93 : Int32))), .val (.int (own_ic p1)), .val (.ref x_217), .val (.int 1), .val (.int (p3 &&& (255 : Int32))), .val (.int (p4 &&& (255 : Int32))), .val (.int (p5 &&& (255 : Int32))), .val (.ref x_274), .unset, .unset, .unset, .unset] [(.ref x_281)] ?_
      refine own_astore X281.here hx hby at_89 rfl (l' := #[.val (.int p1), .val (.int p2), .val (.int p3), .val (.int p4), .val (.int p5), .val (.int p6), .val (.int ((p1 &&& (2147483647 : Int32)) % (93 : Int32))), .val (.int (own_ic p1)), .val (.ref x_217), .val (.int 1), .val (.int (p3 &&& (255 : Int32))), .val (.int (p4 &&& (255 : Int32))), .val (.int (p5 &&& (255 : Int32))), .val (.ref x_274), .val (.ref x_281), .unset, .unset, .unset]) rfl ?_
      refine own_iload X281.here hx hby at_91 rfl ?_
      refine own_sipush X281.here hx hby at_93 (v := (255 : Int32)) (by decide) ?_
      refine own_iand X281.here hx hby at_96 rfl ?_
      refine own_i2c X281.here hx hby at_97 rfl ?_
      refine own_sh (T := T281) 98 #[.val (.int p1), .val (.int p2), .val (.int p3), .val (.int p4), .val (.int p5), .val (.int p6), .val (.int ((p1 &&& (2147483647 : Int32)) % (93 : Int32))), .val (.int (own_ic p1)), .val (.ref x_217), .val (.int 1), .val (.int (p3 &&& (255 : Int32))), .val (.int (p4 &&& (255 : Int32))), .val (.int (p5 &&& (255 : Int32))), .val (.ref x_274), .val (.ref x_281), .unset, .unset, .unset] [(.int ((p6 &&& (255 : Int32)).toUInt32.toUInt16.toUInt32.toInt32))] ?_
      rw [show ((p6 &&& (255 : Int32)).toUInt32.toUInt16.toUInt32.toInt32) = (p6 &&& (255 : Int32)) from (i2c_mask p6)]
      have f287 : Sta Z T281.heap "java/lang/String" "COMPACT_STRINGS" "Z" (.int zc) := (own_sta_keep f280 K281 all0)
      have z289 : n0 ≤ T281.heap.size := by omega
      refine own_callS X281 hx hZ hown (own_w hw 1 rfl) (own_w hw 2 rfl) (own_w hw 3 rfl) (own_w hw 4 rfl) (by decide) (valOf l Z a0 hw [] (p6 &&& (255 : Int32)) zc T281.heap n0 z289 f287 hz (own_c255 p6).2) 0 (Nat.le_of_eq rfl) (by decide) (by decide) (by rw [hml]; rfl) (argsL := [(.int (p6 &&& (255 : Int32)))]) (st := []) (lenOf pd_17 rfl) rfl rfl (by decide) (by decide) rfl hby at_98 ?_
      intro T288 v288 L288 X288 hQ288
      obtain ⟨x_288, t_288, kb_288, rfl, Nq288, K288, P288_0, P288_1, P288_2, P288_3, P288_4, P288_5, P288_6⟩ := hQ288
      have N288 := Fr.app N281 Nq288
      have z290 : T281.heap.size ≤ T288.heap.size := K288.1
      have C291 := C284.trans (CHr.keep K288 sf0 C284.1)
      have lt292 : T288.heap.size > x_288 := P288_3.lt
      have lt293 : T288.heap.size > t_288 := P288_6.lt
      refine own_sh (T := T288) 101 #[.val (.int p1), .val (.int p2), .val (.int p3), .val (.int p4), .val (.int p5), .val (.int p6), .val (.int ((p1 &&& (2147483647 : Int32)) % (93 : Int32))), .val (.int (own_ic p1)), .val (.ref x_217), .val (.int 1), .val (.int (p3 &&& (255 : Int32))), .val (.int (p4 &&& (255 : Int32))), .val (.int (p5 &&& (255 : Int32))), .val (.ref x_274), .val (.ref x_281), .unset, .unset, .unset] [(.ref x_288)] ?_
      refine own_astore X288.here hx hby at_101 rfl (l' := #[.val (.int p1), .val (.int p2), .val (.int p3), .val (.int p4), .val (.int p5), .val (.int p6), .val (.int ((p1 &&& (2147483647 : Int32)) % (93 : Int32))), .val (.int (own_ic p1)), .val (.ref x_217), .val (.int 1), .val (.int (p3 &&& (255 : Int32))), .val (.int (p4 &&& (255 : Int32))), .val (.int (p5 &&& (255 : Int32))), .val (.ref x_274), .val (.ref x_281), .val (.ref x_288), .unset, .unset]) rfl ?_
      refine own_newO X288 hx hZ hown (own_w hw 49 rfl) (own_w hw 50 rfl) (own_w hw 51 rfl) rfl hby at_103 (by decide) (by decide) ?_
      intro T294 h294 b294 X294 e294 E294 g294 A294 D294 lt294
      have z295 : T288.heap.size ≤ h294.size := E294.1
      have C296 := C291.trans (CHr.ext E294 C291.1)
      have F297 : Fld Z h294 b294 "com/example/tiny_context/tinycontext/Resource" "id" "Ljava/lang/String;" .null := D294 (Or.inr (own_w hw 101 rfl)) (ty := (.object "java/lang/String")) (by decide)
      have F298 : Fld Z h294 b294 "com/example/tiny_context/tinycontext/Resource" "value" "Ljava/lang/Object;" .null := D294 (Or.inr (own_w hw 103 rfl)) (ty := (.object "java/lang/Object")) (by decide)
      refine own_dup X294.here hx hby at_106 rfl ?_
      refine own_aload X294.here hx hby at_107 rfl rfl ?_
      refine own_aload X294.here hx hby at_109 rfl rfl ?_
      have f299 : Exa Z h294 x_217 "java/lang/String" := ((((P217_3.keep K274).keep K281).keep K288).ext E294)
      have f300 : Fld Z h294 x_217 "java/lang/String" "coder" "B" (.int 0) := ((((P217_4.keep K274 nin0).keep K281 nin0).keep K288 nin0).ext E294)
      have f301 : Fld Z h294 x_217 "java/lang/String" "value" "[B" (.ref t_217) := ((((P217_5.keep K274 nin0).keep K281 nin0).keep K288 nin0).ext E294)
      have f302 : Arv Z h294 t_217 kb_217 .byte (1 : Int32) [(.int ((own_ic p1).toInt8.toInt32))] (.int 0) := ((((P217_6.keep K274 nin0).keep K281 nin0).keep K288 nin0).ext E294)
      have f303 : Sta Z h294 "java/lang/String" "COMPACT_STRINGS" "Z" (.int zc) := ((own_sta_keep f287 K288 all0).ext E294)
      have f304 : Sta Z h294 "jdk/internal/util/Preconditions" "SIOOBE_FORMATTER" "Ljava/util/function/BiFunction;" fm := ((own_sta_keep (own_sta_keep (own_sta_keep (own_sta_keep S_FM K217 all0) K274 all0) K281 all0) K288 all0).ext E294)
      have z306 : n0 ≤ h294.size := by omega
      refine own_specialH X294 hx hZ hEL rfl hown (own_w hw 52 rfl) (own_w hw 53 rfl) (own_w hw 51 rfl) (own_w hw 54 rfl) (by decide) (resInit3 l Z a0 hw [] b294 x_274 x_217 t_217 kb_217 zc fm (own_ic p1) h294 n0 z306 A294 (by omega) F297 F298 f299 f300 f301 f302 f303 hz f304 hfm (own_ic0 p1) (own_ic255 p1) hc21_7 (own_ic32 p1) (own_ic126 p1)) 1 (Nat.le_of_eq rfl) (by decide) (by decide) (by rw [hml]; rfl) (argsL := [(.ref x_217), (.ref x_274)]) (st := [(.ref b294)]) (a := b294) (lenOf pd_19 rfl) rfl rfl (by decide) (by decide) e294 hby C296.1 hS0 (by omega) at_111 ?_
      intro T305 v305 L305 vm305 X305 hS305 hZ305 hown305 hg305 Cn305 hQ305
      obtain ⟨rfl, Nq305, K305, P305_0, P305_1, P305_2⟩ := hQ305
      have N305 := Fr.app N288 Nq305
      have z307 : h294.size ≤ T305.heap.size := K305.1
      have C308 := C296.trans Cn305
      have lt309 : T305.heap.size > b294 := P305_0.lt
      refine own_sh (T := T305) 114 #[.val (.int p1), .val (.int p2), .val (.int p3), .val (.int p4), .val (.int p5), .val (.int p6), .val (.int ((p1 &&& (2147483647 : Int32)) % (93 : Int32))), .val (.int (own_ic p1)), .val (.ref x_217), .val (.int 1), .val (.int (p3 &&& (255 : Int32))), .val (.int (p4 &&& (255 : Int32))), .val (.int (p5 &&& (255 : Int32))), .val (.ref x_274), .val (.ref x_281), .val (.ref x_288), .unset, .unset] [(.ref b294)] ?_
      refine own_astore X305.here hx hby at_114 rfl (l' := #[.val (.int p1), .val (.int p2), .val (.int p3), .val (.int p4), .val (.int p5), .val (.int p6), .val (.int ((p1 &&& (2147483647 : Int32)) % (93 : Int32))), .val (.int (own_ic p1)), .val (.ref x_217), .val (.int 1), .val (.int (p3 &&& (255 : Int32))), .val (.int (p4 &&& (255 : Int32))), .val (.int (p5 &&& (255 : Int32))), .val (.ref x_274), .val (.ref x_281), .val (.ref x_288), .val (.ref b294), .unset]) rfl ?_
      refine own_aload X305.here hx hby at_116 rfl rfl ?_
      refine own_aload X305.here hx hby at_118 rfl rfl ?_
      have f310 : Exa Z T305.heap x_274 "java/lang/String" := ((((P274_1.keep K281).keep K288).ext E294).keep K305)
      have z312 : n0 ≤ T305.heap.size := by omega
      refine own_callS X305 hx hZ305 hown305 (own_w hw 104 rfl) (own_w hw 105 rfl) (own_w hw 106 rfl) (own_w hw 107 rfl) (by decide) (accValue l Z a0 hw [] b294 x_274 x_288 T305.heap n0 z312 P305_0 P305_2 f310) 0 (Nat.le_of_eq rfl) (by decide) (by decide) (by rw [hml]; rfl) (argsL := [(.ref b294), (.ref x_288)]) (st := []) (lenOf pd_20 rfl) rfl rfl (by decide) (by decide) rfl hby at_120 ?_
      intro T311 v311 L311 X311 hQ311
      obtain ⟨rfl, Nq311, eh311⟩ := hQ311
      have N311 := Fr.app N305 Nq311
      refine own_sh (T := T311) 123 #[.val (.int p1), .val (.int p2), .val (.int p3), .val (.int p4), .val (.int p5), .val (.int p6), .val (.int ((p1 &&& (2147483647 : Int32)) % (93 : Int32))), .val (.int (own_ic p1)), .val (.ref x_217), .val (.int 1), .val (.int (p3 &&& (255 : Int32))), .val (.int (p4 &&& (255 : Int32))), .val (.int (p5 &&& (255 : Int32))), .val (.ref x_274), .val (.ref x_281), .val (.ref x_288), .val (.ref b294), .unset] [(.ref x_274)] ?_
      refine own_astore X311.here hx hby at_123 rfl (l' := #[.val (.int p1), .val (.int p2), .val (.int p3), .val (.int p4), .val (.int p5), .val (.int p6), .val (.int ((p1 &&& (2147483647 : Int32)) % (93 : Int32))), .val (.int (own_ic p1)), .val (.ref x_217), .val (.int 1), .val (.int (p3 &&& (255 : Int32))), .val (.int (p4 &&& (255 : Int32))), .val (.int (p5 &&& (255 : Int32))), .val (.ref x_274), .val (.ref x_281), .val (.ref x_288), .val (.ref b294), .val (.ref x_274)]) rfl ?_
      refine own_aload X311.here hx hby at_125 rfl rfl ?_
      refine own_aload X311.here hx hby at_127 rfl rfl ?_
      refine own_acmp X311 hx (same := true) (pc' := 132) hby at_129 rfl rfl (decide_eq_true rfl) (by decide) (by decide) ?_
      refine own_aload X311.here hx hby at_132 rfl rfl ?_
      refine own_aload X311.here hx hby at_134 rfl rfl ?_
      have f313 : Exa Z T305.heap x_281 "java/lang/String" := (((P281_1.keep K288).ext E294).keep K305)
      have f314 : Fld Z T305.heap x_274 "java/lang/String" "coder" "B" (.int 0) := ((((P274_2.keep K281 nin0).keep K288 nin0).ext E294).keep K305 (ninS (own_nn (by omega)) nin0))
      have f315 : Fld Z T305.heap x_274 "java/lang/String" "value" "[B" (.ref t_274) := ((((P274_3.keep K281 nin0).keep K288 nin0).ext E294).keep K305 (ninS (own_nn (by omega)) nin0))
      have f316 : Arv Z T305.heap t_274 kb_274 .byte (1 : Int32) [(.int ((p3 &&& (255 : Int32)).toInt8.toInt32))] (.int 0) := ((((P274_4.keep K281 nin0).keep K288 nin0).ext E294).keep K305 (ninS (own_nn (by omega)) nin0))
      have f317 : Fld Z T305.heap x_281 "java/lang/String" "coder" "B" (.int 0) := (((P281_2.keep K288 nin0).ext E294).keep K305 (ninS (own_nn (by omega)) nin0))
      have f318 : Fld Z T305.heap x_281 "java/lang/String" "value" "[B" (.ref t_281) := (((P281_3.keep K288 nin0).ext E294).keep K305 (ninS (own_nn (by omega)) nin0))
      have f319 : Arv Z T305.heap t_281 kb_281 .byte (1 : Int32) [(.int ((p3 &&& (255 : Int32)).toInt8.toInt32))] (.int 0) := (((P281_4.keep K288 nin0).ext E294).keep K305 (ninS (own_nn (by omega)) nin0))
      have f320 : Sta Z T305.heap "java/lang/String" "COMPACT_STRINGS" "Z" (.int zc) := (own_sta_keep f303 K305 (allS (own_exa_plain A294) all0))
      refine own_virtual X311 hx hZ305 hown305 (own_w hw 114 rfl) (own_w hw 115 rfl) (notFace_of_selects (args := #[]) (mvT hZ305 (own_w hw 117 rfl))) (own_w hw 117 rfl) (own_w hw 116 rfl) (own_w hw 3 rfl) (own_w hw 118 rfl) (by decide) (strEq_1 l Z a0 hw [] x_274 x_281 t_274 t_281 kb_274 kb_281 zc ((p3 &&& (255 : Int32)).toInt8.toInt32) T305.heap n0 z312 f310 f313 (own_nn (by omega)) f314 f315 f316 f317 f318 f319 f320 hz) 0 (Nat.le_of_eq rfl) (by decide) (by decide) (by rw [hml]; rfl) (argsL := [(.ref x_281)]) (st := []) f310 (lenOf pd_21 rfl) rfl rfl (by decide) (by decide) eh311 hby at_136 ?_
      intro T321 v321 L321 X321 hQ321
      obtain ⟨rfl, Nq321, eh321⟩ := hQ321
      have N321 := Fr.app N311 Nq321
      refine own_sh (T := T321) 139 #[.val (.int p1), .val (.int p2), .val (.int p3), .val (.int p4), .val (.int p5), .val (.int p6), .val (.int ((p1 &&& (2147483647 : Int32)) % (93 : Int32))), .val (.int (own_ic p1)), .val (.ref x_217), .val (.int 1), .val (.int (p3 &&& (255 : Int32))), .val (.int (p4 &&& (255 : Int32))), .val (.int (p5 &&& (255 : Int32))), .val (.ref x_274), .val (.ref x_281), .val (.ref x_288), .val (.ref b294), .val (.ref x_274)] [(.int 1)] ?_
      refine own_ifNo X321.here hx hby at_139 ((if0 _ _).trans (feq (show ¬ ((1 : Int32) = (0 : Int32)) from (by decide))).1) ?_
      refine own_aload X321.here hx hby at_142 rfl rfl ?_
      refine own_virtual X321 hx hZ305 hown305 (own_w hw 122 rfl) (own_w hw 70 rfl) (notFace_of_selects (args := #[]) (mvT hZ305 (own_w hw 72 rfl))) (own_w hw 72 rfl) (own_w hw 71 rfl) (own_w hw 3 rfl) (own_w hw 73 rfl) (by decide) (strLen_1 l Z a0 hw [] x_274 t_274 kb_274 zc ([(.int ((p3 &&& (255 : Int32)).toInt8.toInt32))]) T305.heap n0 z312 f310 f314 f315 f316 f320 hz) 0 (Nat.le_of_eq rfl) (by decide) (by decide) (by rw [hml]; rfl) (argsL := []) (st := []) f310 (lenOf pd_11 rfl) rfl rfl (by decide) (by decide) eh321 hby at_144 ?_
      intro T322 v322 L322 X322 hQ322
      obtain ⟨rfl, Nq322, eh322⟩ := hQ322
      have N322 := Fr.app N321 Nq322
      refine own_sh (T := T322) 147 #[.val (.int p1), .val (.int p2), .val (.int p3), .val (.int p4), .val (.int p5), .val (.int p6), .val (.int ((p1 &&& (2147483647 : Int32)) % (93 : Int32))), .val (.int (own_ic p1)), .val (.ref x_217), .val (.int 1), .val (.int (p3 &&& (255 : Int32))), .val (.int (p4 &&& (255 : Int32))), .val (.int (p5 &&& (255 : Int32))), .val (.ref x_274), .val (.ref x_281), .val (.ref x_288), .val (.ref b294), .val (.ref x_274)] [(.int 1)] ?_
      refine own_iload X322.here hx hby at_147 rfl ?_
      refine own_icmpNo X322.here hx hby at_149 (teq (show (1 : Int32) = (1 : Int32) from (by decide))).2 ?_
      refine own_aload X322.here hx hby at_152 rfl rfl ?_
      refine own_virtual X322 hx hZ305 hown305 (own_w hw 123 rfl) (own_w hw 109 rfl) (notFace_of_selects (args := #[]) (mvT hZ305 (own_w hw 111 rfl))) (own_w hw 111 rfl) (own_w hw 110 rfl) (own_w hw 51 rfl) (own_w hw 112 rfl) (by decide) (resValue l Z a0 hw [] b294 x_274 T305.heap n0 z312 P305_2) 0 (Nat.le_of_eq rfl) (by decide) (by decide) (by rw [hml]; rfl) (argsL := []) (st := []) P305_0 (lenOf pd_15 rfl) rfl rfl (by decide) (by decide) eh322 hby at_154 ?_
      intro T323 v323 L323 X323 hQ323
      obtain ⟨rfl, Nq323, eh323⟩ := hQ323
      have N323 := Fr.app N322 Nq323
      refine own_sh (T := T323) 157 #[.val (.int p1), .val (.int p2), .val (.int p3), .val (.int p4), .val (.int p5), .val (.int p6), .val (.int ((p1 &&& (2147483647 : Int32)) % (93 : Int32))), .val (.int (own_ic p1)), .val (.ref x_217), .val (.int 1), .val (.int (p3 &&& (255 : Int32))), .val (.int (p4 &&& (255 : Int32))), .val (.int (p5 &&& (255 : Int32))), .val (.ref x_274), .val (.ref x_281), .val (.ref x_288), .val (.ref b294), .val (.ref x_274)] [(.ref x_274)] ?_
      refine own_aload X323.here hx hby at_157 rfl rfl ?_
      refine own_acmp X323 hx (same := true) (pc' := 162) hby at_159 rfl rfl (decide_eq_true rfl) (by decide) (by decide) ?_
      refine own_iconst X323.here hx hby at_162 (v := (1 : Int32)) (by decide) ?_
      refine own_goto X323.here hx hby (pc' := 167) at_163 (by decide) (by decide) ?_
      obtain ⟨fs, hr, hrun, hended, hRW⟩ := X323.leaveW hS305 (by rw [eh323]; omega) (v := some (.int 1)) (fun h => by rw [Bd.returns] at h; cases h)
      have hCf : CHr Z consts_1 s.vm s.heap T323.vm T323.heap := by
        rw [hh, eh323]
        exact C308.trans (CHv.at X323 hZ305 hEL C308.1)
      refine own_ret (t := T323.setFrames fs) ?_ ⟨_, hrun, hended, _, _, rfl, ?_, hCf, hRW.1, hRW.2.1, hRW.2.2.1, hRW.2.2.2.mono (by decide) (by decide)⟩
      · exact retN X323 hx (t := .boolean) Bd.returns (by simp) (hb hby at_167) hr
      · show Q_rm0 Z p1 p2 p3 p4 p5 p6 zc fm h0 n0 _ T323.heap _
        rw [eh323]
        exact ⟨rfl, N323, trivial⟩
    · rw [hk]
      refine own_istore X217.here hx hby at_38 (l' := #[.val (.int p1), .val (.int p2), .val (.int p3), .val (.int p4), .val (.int p5), .val (.int p6), .val (.int ((p1 &&& (2147483647 : Int32)) % (93 : Int32))), .val (.int (own_ic p1)), .val (.ref x_217), .val (.int 2), .unset, .unset, .unset, .unset, .unset, .unset, .unset, .unset]) rfl ?_
      refine own_iloadN X217.here hx hby at_40 rfl ?_
      refine own_sipush X217.here hx hby at_41 (v := (255 : Int32)) (by decide) ?_
      refine own_iand X217.here hx hby at_44 rfl ?_
      refine own_i2c X217.here hx hby at_45 rfl ?_
      refine own_sh (T := T217) 46 #[.val (.int p1), .val (.int p2), .val (.int p3), .val (.int p4), .val (.int p5), .val (.int p6), .val (.int ((p1 &&& (2147483647 : Int32)) % (93 : Int32))), .val (.int (own_ic p1)), .val (.ref x_217), .val (.int 2), .unset, .unset, .unset, .unset, .unset, .unset, .unset, .unset] [(.int ((p3 &&& (255 : Int32)).toUInt32.toUInt16.toUInt32.toInt32))] ?_
      rw [show ((p3 &&& (255 : Int32)).toUInt32.toUInt16.toUInt32.toInt32) = (p3 &&& (255 : Int32)) from (i2c_mask p3)]
      refine own_istore X217.here hx hby at_46 (l' := #[.val (.int p1), .val (.int p2), .val (.int p3), .val (.int p4), .val (.int p5), .val (.int p6), .val (.int ((p1 &&& (2147483647 : Int32)) % (93 : Int32))), .val (.int (own_ic p1)), .val (.ref x_217), .val (.int 2), .val (.int (p3 &&& (255 : Int32))), .unset, .unset, .unset, .unset, .unset, .unset, .unset]) rfl ?_
      refine own_iloadN X217.here hx hby at_48 rfl ?_
      refine own_sipush X217.here hx hby at_49 (v := (255 : Int32)) (by decide) ?_
      refine own_iand X217.here hx hby at_52 rfl ?_
      refine own_i2c X217.here hx hby at_53 rfl ?_
      refine own_sh (T := T217) 54 #[.val (.int p1), .val (.int p2), .val (.int p3), .val (.int p4), .val (.int p5), .val (.int p6), .val (.int ((p1 &&& (2147483647 : Int32)) % (93 : Int32))), .val (.int (own_ic p1)), .val (.ref x_217), .val (.int 2), .val (.int (p3 &&& (255 : Int32))), .unset, .unset, .unset, .unset, .unset, .unset, .unset] [(.int ((p4 &&& (255 : Int32)).toUInt32.toUInt16.toUInt32.toInt32))] ?_
      rw [show ((p4 &&& (255 : Int32)).toUInt32.toUInt16.toUInt32.toInt32) = (p4 &&& (255 : Int32)) from (i2c_mask p4)]
      refine own_istore X217.here hx hby at_54 (l' := #[.val (.int p1), .val (.int p2), .val (.int p3), .val (.int p4), .val (.int p5), .val (.int p6), .val (.int ((p1 &&& (2147483647 : Int32)) % (93 : Int32))), .val (.int (own_ic p1)), .val (.ref x_217), .val (.int 2), .val (.int (p3 &&& (255 : Int32))), .val (.int (p4 &&& (255 : Int32))), .unset, .unset, .unset, .unset, .unset, .unset]) rfl ?_
      refine own_iload X217.here hx hby at_56 rfl ?_
      refine own_sipush X217.here hx hby at_58 (v := (255 : Int32)) (by decide) ?_
      refine own_iand X217.here hx hby at_61 rfl ?_
      refine own_i2c X217.here hx hby at_62 rfl ?_
      refine own_sh (T := T217) 63 #[.val (.int p1), .val (.int p2), .val (.int p3), .val (.int p4), .val (.int p5), .val (.int p6), .val (.int ((p1 &&& (2147483647 : Int32)) % (93 : Int32))), .val (.int (own_ic p1)), .val (.ref x_217), .val (.int 2), .val (.int (p3 &&& (255 : Int32))), .val (.int (p4 &&& (255 : Int32))), .unset, .unset, .unset, .unset, .unset, .unset] [(.int ((p5 &&& (255 : Int32)).toUInt32.toUInt16.toUInt32.toInt32))] ?_
      rw [show ((p5 &&& (255 : Int32)).toUInt32.toUInt16.toUInt32.toInt32) = (p5 &&& (255 : Int32)) from (i2c_mask p5)]
      refine own_istore X217.here hx hby at_63 (l' := #[.val (.int p1), .val (.int p2), .val (.int p3), .val (.int p4), .val (.int p5), .val (.int p6), .val (.int ((p1 &&& (2147483647 : Int32)) % (93 : Int32))), .val (.int (own_ic p1)), .val (.ref x_217), .val (.int 2), .val (.int (p3 &&& (255 : Int32))), .val (.int (p4 &&& (255 : Int32))), .val (.int (p5 &&& (255 : Int32))), .unset, .unset, .unset, .unset, .unset]) rfl ?_
      refine own_iload X217.here hx hby at_65 rfl ?_
      refine own_iload X217.here hx hby at_67 rfl ?_
      refine own_iload X217.here hx hby at_69 rfl ?_
      refine own_iload X217.here hx hby at_71 rfl ?_
      have f324 : Sta Z T217.heap "java/lang/String" "COMPACT_STRINGS" "Z" (.int zc) := (own_sta_keep S_COMPACT K217 all0)
      have z326 : n0 ≤ T217.heap.size := by omega
      refine own_callS X217 hx hZ hown (own_w hw 27 rfl) (own_w hw 28 rfl) (own_w hw 29 rfl) (own_w hw 30 rfl) (by decide) (str_2 l Z a0 hw [] (p3 &&& (255 : Int32)) (p4 &&& (255 : Int32)) (p5 &&& (255 : Int32)) zc T217.heap n0 z326 (own_c255 p3).1 (own_c255 p3).2 (own_c255 p4).1 (own_c255 p4).2 (own_c255 p5).1 (own_c255 p5).2 f324 hz) 0 (Nat.le_of_eq rfl) (by decide) (by decide) (by rw [hml]; rfl) (argsL := [(.int 2), (.int (p3 &&& (255 : Int32))), (.int (p4 &&& (255 : Int32))), (.int (p5 &&& (255 : Int32)))]) (st := []) (lenOf pd_18 rfl) rfl rfl (by decide) (by decide) rfl hby at_73 ?_
      intro T325 v325 L325 X325 hQ325
      obtain ⟨x_325, t_325, kb_325, rfl, Nq325, K325, P325_0, P325_1, P325_2, P325_3, P325_4⟩ := hQ325
      have N325 := Fr.app N217 Nq325
      have z327 : T217.heap.size ≤ T325.heap.size := K325.1
      have C328 := C219.trans (CHr.keep K325 sf0 C219.1)
      have lt329 : T325.heap.size > x_325 := P325_1.lt
      have lt330 : T325.heap.size > t_325 := P325_4.lt
      refine own_sh (T := T325) 76 #[.val (.int p1), .val (.int p2), .val (.int p3), .val (.int p4), .val (.int p5), .val (.int p6), .val (.int ((p1 &&& (2147483647 : Int32)) % (93 : Int32))), .val (.int (own_ic p1)), .val (.ref x_217), .val (.int 2), .val (.int (p3 &&& (255 : Int32))), .val (.int (p4 &&& (255 : Int32))), .val (.int (p5 &&& (255 : Int32))), .unset, .unset, .unset, .unset, .unset] [(.ref x_325)] ?_
      refine own_astore X325.here hx hby at_76 rfl (l' := #[.val (.int p1), .val (.int p2), .val (.int p3), .val (.int p4), .val (.int p5), .val (.int p6), .val (.int ((p1 &&& (2147483647 : Int32)) % (93 : Int32))), .val (.int (own_ic p1)), .val (.ref x_217), .val (.int 2), .val (.int (p3 &&& (255 : Int32))), .val (.int (p4 &&& (255 : Int32))), .val (.int (p5 &&& (255 : Int32))), .val (.ref x_325), .unset, .unset, .unset, .unset]) rfl ?_
      refine own_iload X325.here hx hby at_78 rfl ?_
      refine own_iload X325.here hx hby at_80 rfl ?_
      refine own_iload X325.here hx hby at_82 rfl ?_
      refine own_iload X325.here hx hby at_84 rfl ?_
      have f331 : Sta Z T325.heap "java/lang/String" "COMPACT_STRINGS" "Z" (.int zc) := (own_sta_keep f324 K325 all0)
      have z333 : n0 ≤ T325.heap.size := by omega
      refine own_callS X325 hx hZ hown (own_w hw 27 rfl) (own_w hw 28 rfl) (own_w hw 29 rfl) (own_w hw 30 rfl) (by decide) (str_2 l Z a0 hw [] (p3 &&& (255 : Int32)) (p4 &&& (255 : Int32)) (p5 &&& (255 : Int32)) zc T325.heap n0 z333 (own_c255 p3).1 (own_c255 p3).2 (own_c255 p4).1 (own_c255 p4).2 (own_c255 p5).1 (own_c255 p5).2 f331 hz) 0 (Nat.le_of_eq rfl) (by decide) (by decide) (by rw [hml]; rfl) (argsL := [(.int 2), (.int (p3 &&& (255 : Int32))), (.int (p4 &&& (255 : Int32))), (.int (p5 &&& (255 : Int32)))]) (st := []) (lenOf pd_18 rfl) rfl rfl (by decide) (by decide) rfl hby at_86 ?_
      intro T332 v332 L332 X332 hQ332
      obtain ⟨x_332, t_332, kb_332, rfl, Nq332, K332, P332_0, P332_1, P332_2, P332_3, P332_4⟩ := hQ332
      have N332 := Fr.app N325 Nq332
      have z334 : T325.heap.size ≤ T332.heap.size := K332.1
      have C335 := C328.trans (CHr.keep K332 sf0 C328.1)
      have lt336 : T332.heap.size > x_332 := P332_1.lt
      have lt337 : T332.heap.size > t_332 := P332_4.lt
      refine own_sh (T := T332) 89 #[.val (.int p1), .val (.int p2), .val (.int p3), .val (.int p4), .val (.int p5), .val (.int p6), .val (.int ((p1 &&& (2147483647 : Int32)) % (93 : Int32))), .val (.int (own_ic p1)), .val (.ref x_217), .val (.int 2), .val (.int (p3 &&& (255 : Int32))), .val (.int (p4 &&& (255 : Int32))), .val (.int (p5 &&& (255 : Int32))), .val (.ref x_325), .unset, .unset, .unset, .unset] [(.ref x_332)] ?_
      refine own_astore X332.here hx hby at_89 rfl (l' := #[.val (.int p1), .val (.int p2), .val (.int p3), .val (.int p4), .val (.int p5), .val (.int p6), .val (.int ((p1 &&& (2147483647 : Int32)) % (93 : Int32))), .val (.int (own_ic p1)), .val (.ref x_217), .val (.int 2), .val (.int (p3 &&& (255 : Int32))), .val (.int (p4 &&& (255 : Int32))), .val (.int (p5 &&& (255 : Int32))), .val (.ref x_325), .val (.ref x_332), .unset, .unset, .unset]) rfl ?_
      refine own_iload X332.here hx hby at_91 rfl ?_
      refine own_sipush X332.here hx hby at_93 (v := (255 : Int32)) (by decide) ?_
      refine own_iand X332.here hx hby at_96 rfl ?_
      refine own_i2c X332.here hx hby at_97 rfl ?_
      refine own_sh (T := T332) 98 #[.val (.int p1), .val (.int p2), .val (.int p3), .val (.int p4), .val (.int p5), .val (.int p6), .val (.int ((p1 &&& (2147483647 : Int32)) % (93 : Int32))), .val (.int (own_ic p1)), .val (.ref x_217), .val (.int 2), .val (.int (p3 &&& (255 : Int32))), .val (.int (p4 &&& (255 : Int32))), .val (.int (p5 &&& (255 : Int32))), .val (.ref x_325), .val (.ref x_332), .unset, .unset, .unset] [(.int ((p6 &&& (255 : Int32)).toUInt32.toUInt16.toUInt32.toInt32))] ?_
      rw [show ((p6 &&& (255 : Int32)).toUInt32.toUInt16.toUInt32.toInt32) = (p6 &&& (255 : Int32)) from (i2c_mask p6)]
      have f338 : Sta Z T332.heap "java/lang/String" "COMPACT_STRINGS" "Z" (.int zc) := (own_sta_keep f331 K332 all0)
      have z340 : n0 ≤ T332.heap.size := by omega
      refine own_callS X332 hx hZ hown (own_w hw 1 rfl) (own_w hw 2 rfl) (own_w hw 3 rfl) (own_w hw 4 rfl) (by decide) (valOf l Z a0 hw [] (p6 &&& (255 : Int32)) zc T332.heap n0 z340 f338 hz (own_c255 p6).2) 0 (Nat.le_of_eq rfl) (by decide) (by decide) (by rw [hml]; rfl) (argsL := [(.int (p6 &&& (255 : Int32)))]) (st := []) (lenOf pd_17 rfl) rfl rfl (by decide) (by decide) rfl hby at_98 ?_
      intro T339 v339 L339 X339 hQ339
      obtain ⟨x_339, t_339, kb_339, rfl, Nq339, K339, P339_0, P339_1, P339_2, P339_3, P339_4, P339_5, P339_6⟩ := hQ339
      have N339 := Fr.app N332 Nq339
      have z341 : T332.heap.size ≤ T339.heap.size := K339.1
      have C342 := C335.trans (CHr.keep K339 sf0 C335.1)
      have lt343 : T339.heap.size > x_339 := P339_3.lt
      have lt344 : T339.heap.size > t_339 := P339_6.lt
      refine own_sh (T := T339) 101 #[.val (.int p1), .val (.int p2), .val (.int p3), .val (.int p4), .val (.int p5), .val (.int p6), .val (.int ((p1 &&& (2147483647 : Int32)) % (93 : Int32))), .val (.int (own_ic p1)), .val (.ref x_217), .val (.int 2), .val (.int (p3 &&& (255 : Int32))), .val (.int (p4 &&& (255 : Int32))), .val (.int (p5 &&& (255 : Int32))), .val (.ref x_325), .val (.ref x_332), .unset, .unset, .unset] [(.ref x_339)] ?_
      refine own_astore X339.here hx hby at_101 rfl (l' := #[.val (.int p1), .val (.int p2), .val (.int p3), .val (.int p4), .val (.int p5), .val (.int p6), .val (.int ((p1 &&& (2147483647 : Int32)) % (93 : Int32))), .val (.int (own_ic p1)), .val (.ref x_217), .val (.int 2), .val (.int (p3 &&& (255 : Int32))), .val (.int (p4 &&& (255 : Int32))), .val (.int (p5 &&& (255 : Int32))), .val (.ref x_325), .val (.ref x_332), .val (.ref x_339), .unset, .unset]) rfl ?_
      refine own_newO X339 hx hZ hown (own_w hw 49 rfl) (own_w hw 50 rfl) (own_w hw 51 rfl) rfl hby at_103 (by decide) (by decide) ?_
      intro T345 h345 b345 X345 e345 E345 g345 A345 D345 lt345
      have z346 : T339.heap.size ≤ h345.size := E345.1
      have C347 := C342.trans (CHr.ext E345 C342.1)
      have F348 : Fld Z h345 b345 "com/example/tiny_context/tinycontext/Resource" "id" "Ljava/lang/String;" .null := D345 (Or.inr (own_w hw 101 rfl)) (ty := (.object "java/lang/String")) (by decide)
      have F349 : Fld Z h345 b345 "com/example/tiny_context/tinycontext/Resource" "value" "Ljava/lang/Object;" .null := D345 (Or.inr (own_w hw 103 rfl)) (ty := (.object "java/lang/Object")) (by decide)
      refine own_dup X345.here hx hby at_106 rfl ?_
      refine own_aload X345.here hx hby at_107 rfl rfl ?_
      refine own_aload X345.here hx hby at_109 rfl rfl ?_
      have f350 : Exa Z h345 x_217 "java/lang/String" := ((((P217_3.keep K325).keep K332).keep K339).ext E345)
      have f351 : Fld Z h345 x_217 "java/lang/String" "coder" "B" (.int 0) := ((((P217_4.keep K325 nin0).keep K332 nin0).keep K339 nin0).ext E345)
      have f352 : Fld Z h345 x_217 "java/lang/String" "value" "[B" (.ref t_217) := ((((P217_5.keep K325 nin0).keep K332 nin0).keep K339 nin0).ext E345)
      have f353 : Arv Z h345 t_217 kb_217 .byte (1 : Int32) [(.int ((own_ic p1).toInt8.toInt32))] (.int 0) := ((((P217_6.keep K325 nin0).keep K332 nin0).keep K339 nin0).ext E345)
      have f354 : Sta Z h345 "java/lang/String" "COMPACT_STRINGS" "Z" (.int zc) := ((own_sta_keep f338 K339 all0).ext E345)
      have f355 : Sta Z h345 "jdk/internal/util/Preconditions" "SIOOBE_FORMATTER" "Ljava/util/function/BiFunction;" fm := ((own_sta_keep (own_sta_keep (own_sta_keep (own_sta_keep S_FM K217 all0) K325 all0) K332 all0) K339 all0).ext E345)
      have z357 : n0 ≤ h345.size := by omega
      refine own_specialH X345 hx hZ hEL rfl hown (own_w hw 52 rfl) (own_w hw 53 rfl) (own_w hw 51 rfl) (own_w hw 54 rfl) (by decide) (resInit3 l Z a0 hw [] b345 x_325 x_217 t_217 kb_217 zc fm (own_ic p1) h345 n0 z357 A345 (by omega) F348 F349 f350 f351 f352 f353 f354 hz f355 hfm (own_ic0 p1) (own_ic255 p1) hc21_7 (own_ic32 p1) (own_ic126 p1)) 1 (Nat.le_of_eq rfl) (by decide) (by decide) (by rw [hml]; rfl) (argsL := [(.ref x_217), (.ref x_325)]) (st := [(.ref b345)]) (a := b345) (lenOf pd_19 rfl) rfl rfl (by decide) (by decide) e345 hby C347.1 hS0 (by omega) at_111 ?_
      intro T356 v356 L356 vm356 X356 hS356 hZ356 hown356 hg356 Cn356 hQ356
      obtain ⟨rfl, Nq356, K356, P356_0, P356_1, P356_2⟩ := hQ356
      have N356 := Fr.app N339 Nq356
      have z358 : h345.size ≤ T356.heap.size := K356.1
      have C359 := C347.trans Cn356
      have lt360 : T356.heap.size > b345 := P356_0.lt
      refine own_sh (T := T356) 114 #[.val (.int p1), .val (.int p2), .val (.int p3), .val (.int p4), .val (.int p5), .val (.int p6), .val (.int ((p1 &&& (2147483647 : Int32)) % (93 : Int32))), .val (.int (own_ic p1)), .val (.ref x_217), .val (.int 2), .val (.int (p3 &&& (255 : Int32))), .val (.int (p4 &&& (255 : Int32))), .val (.int (p5 &&& (255 : Int32))), .val (.ref x_325), .val (.ref x_332), .val (.ref x_339), .unset, .unset] [(.ref b345)] ?_
      refine own_astore X356.here hx hby at_114 rfl (l' := #[.val (.int p1), .val (.int p2), .val (.int p3), .val (.int p4), .val (.int p5), .val (.int p6), .val (.int ((p1 &&& (2147483647 : Int32)) % (93 : Int32))), .val (.int (own_ic p1)), .val (.ref x_217), .val (.int 2), .val (.int (p3 &&& (255 : Int32))), .val (.int (p4 &&& (255 : Int32))), .val (.int (p5 &&& (255 : Int32))), .val (.ref x_325), .val (.ref x_332), .val (.ref x_339), .val (.ref b345), .unset]) rfl ?_
      refine own_aload X356.here hx hby at_116 rfl rfl ?_
      refine own_aload X356.here hx hby at_118 rfl rfl ?_
      have f361 : Exa Z T356.heap x_325 "java/lang/String" := ((((P325_1.keep K332).keep K339).ext E345).keep K356)
      have z363 : n0 ≤ T356.heap.size := by omega
      refine own_callS X356 hx hZ356 hown356 (own_w hw 104 rfl) (own_w hw 105 rfl) (own_w hw 106 rfl) (own_w hw 107 rfl) (by decide) (accValue l Z a0 hw [] b345 x_325 x_339 T356.heap n0 z363 P356_0 P356_2 f361) 0 (Nat.le_of_eq rfl) (by decide) (by decide) (by rw [hml]; rfl) (argsL := [(.ref b345), (.ref x_339)]) (st := []) (lenOf pd_20 rfl) rfl rfl (by decide) (by decide) rfl hby at_120 ?_
      intro T362 v362 L362 X362 hQ362
      obtain ⟨rfl, Nq362, eh362⟩ := hQ362
      have N362 := Fr.app N356 Nq362
      refine own_sh (T := T362) 123 #[.val (.int p1), .val (.int p2), .val (.int p3), .val (.int p4), .val (.int p5), .val (.int p6), .val (.int ((p1 &&& (2147483647 : Int32)) % (93 : Int32))), .val (.int (own_ic p1)), .val (.ref x_217), .val (.int 2), .val (.int (p3 &&& (255 : Int32))), .val (.int (p4 &&& (255 : Int32))), .val (.int (p5 &&& (255 : Int32))), .val (.ref x_325), .val (.ref x_332), .val (.ref x_339), .val (.ref b345), .unset] [(.ref x_325)] ?_
      refine own_astore X362.here hx hby at_123 rfl (l' := #[.val (.int p1), .val (.int p2), .val (.int p3), .val (.int p4), .val (.int p5), .val (.int p6), .val (.int ((p1 &&& (2147483647 : Int32)) % (93 : Int32))), .val (.int (own_ic p1)), .val (.ref x_217), .val (.int 2), .val (.int (p3 &&& (255 : Int32))), .val (.int (p4 &&& (255 : Int32))), .val (.int (p5 &&& (255 : Int32))), .val (.ref x_325), .val (.ref x_332), .val (.ref x_339), .val (.ref b345), .val (.ref x_325)]) rfl ?_
      refine own_aload X362.here hx hby at_125 rfl rfl ?_
      refine own_aload X362.here hx hby at_127 rfl rfl ?_
      refine own_acmp X362 hx (same := true) (pc' := 132) hby at_129 rfl rfl (decide_eq_true rfl) (by decide) (by decide) ?_
      refine own_aload X362.here hx hby at_132 rfl rfl ?_
      refine own_aload X362.here hx hby at_134 rfl rfl ?_
      have f364 : Exa Z T356.heap x_332 "java/lang/String" := (((P332_1.keep K339).ext E345).keep K356)
      have f365 : Fld Z T356.heap x_325 "java/lang/String" "coder" "B" (.int 0) := ((((P325_2.keep K332 nin0).keep K339 nin0).ext E345).keep K356 (ninS (own_nn (by omega)) nin0))
      have f366 : Fld Z T356.heap x_325 "java/lang/String" "value" "[B" (.ref t_325) := ((((P325_3.keep K332 nin0).keep K339 nin0).ext E345).keep K356 (ninS (own_nn (by omega)) nin0))
      have f367 : Arv Z T356.heap t_325 kb_325 .byte (2 : Int32) [(.int ((p3 &&& (255 : Int32)).toInt8.toInt32)), (.int ((p4 &&& (255 : Int32)).toInt8.toInt32))] (.int 0) := ((((P325_4.keep K332 nin0).keep K339 nin0).ext E345).keep K356 (ninS (own_nn (by omega)) nin0))
      have f368 : Fld Z T356.heap x_332 "java/lang/String" "coder" "B" (.int 0) := (((P332_2.keep K339 nin0).ext E345).keep K356 (ninS (own_nn (by omega)) nin0))
      have f369 : Fld Z T356.heap x_332 "java/lang/String" "value" "[B" (.ref t_332) := (((P332_3.keep K339 nin0).ext E345).keep K356 (ninS (own_nn (by omega)) nin0))
      have f370 : Arv Z T356.heap t_332 kb_332 .byte (2 : Int32) [(.int ((p3 &&& (255 : Int32)).toInt8.toInt32)), (.int ((p4 &&& (255 : Int32)).toInt8.toInt32))] (.int 0) := (((P332_4.keep K339 nin0).ext E345).keep K356 (ninS (own_nn (by omega)) nin0))
      have f371 : Sta Z T356.heap "java/lang/String" "COMPACT_STRINGS" "Z" (.int zc) := (own_sta_keep f354 K356 (allS (own_exa_plain A345) all0))
      refine own_virtual X362 hx hZ356 hown356 (own_w hw 114 rfl) (own_w hw 115 rfl) (notFace_of_selects (args := #[]) (mvT hZ356 (own_w hw 117 rfl))) (own_w hw 117 rfl) (own_w hw 116 rfl) (own_w hw 3 rfl) (own_w hw 118 rfl) (by decide) (strEq_2 l Z a0 hw [] x_325 x_332 t_325 t_332 kb_325 kb_332 zc ((p3 &&& (255 : Int32)).toInt8.toInt32) ((p4 &&& (255 : Int32)).toInt8.toInt32) T356.heap n0 z363 f361 f364 (own_nn (by omega)) f365 f366 f367 f368 f369 f370 f371 hz) 0 (Nat.le_of_eq rfl) (by decide) (by decide) (by rw [hml]; rfl) (argsL := [(.ref x_332)]) (st := []) f361 (lenOf pd_21 rfl) rfl rfl (by decide) (by decide) eh362 hby at_136 ?_
      intro T372 v372 L372 X372 hQ372
      obtain ⟨rfl, Nq372, eh372⟩ := hQ372
      have N372 := Fr.app N362 Nq372
      refine own_sh (T := T372) 139 #[.val (.int p1), .val (.int p2), .val (.int p3), .val (.int p4), .val (.int p5), .val (.int p6), .val (.int ((p1 &&& (2147483647 : Int32)) % (93 : Int32))), .val (.int (own_ic p1)), .val (.ref x_217), .val (.int 2), .val (.int (p3 &&& (255 : Int32))), .val (.int (p4 &&& (255 : Int32))), .val (.int (p5 &&& (255 : Int32))), .val (.ref x_325), .val (.ref x_332), .val (.ref x_339), .val (.ref b345), .val (.ref x_325)] [(.int 1)] ?_
      refine own_ifNo X372.here hx hby at_139 ((if0 _ _).trans (feq (show ¬ ((1 : Int32) = (0 : Int32)) from (by decide))).1) ?_
      refine own_aload X372.here hx hby at_142 rfl rfl ?_
      refine own_virtual X372 hx hZ356 hown356 (own_w hw 122 rfl) (own_w hw 70 rfl) (notFace_of_selects (args := #[]) (mvT hZ356 (own_w hw 72 rfl))) (own_w hw 72 rfl) (own_w hw 71 rfl) (own_w hw 3 rfl) (own_w hw 73 rfl) (by decide) (strLen_2 l Z a0 hw [] x_325 t_325 kb_325 zc ([(.int ((p3 &&& (255 : Int32)).toInt8.toInt32)), (.int ((p4 &&& (255 : Int32)).toInt8.toInt32))]) T356.heap n0 z363 f361 f365 f366 f367 f371 hz) 0 (Nat.le_of_eq rfl) (by decide) (by decide) (by rw [hml]; rfl) (argsL := []) (st := []) f361 (lenOf pd_11 rfl) rfl rfl (by decide) (by decide) eh372 hby at_144 ?_
      intro T373 v373 L373 X373 hQ373
      obtain ⟨rfl, Nq373, eh373⟩ := hQ373
      have N373 := Fr.app N372 Nq373
      refine own_sh (T := T373) 147 #[.val (.int p1), .val (.int p2), .val (.int p3), .val (.int p4), .val (.int p5), .val (.int p6), .val (.int ((p1 &&& (2147483647 : Int32)) % (93 : Int32))), .val (.int (own_ic p1)), .val (.ref x_217), .val (.int 2), .val (.int (p3 &&& (255 : Int32))), .val (.int (p4 &&& (255 : Int32))), .val (.int (p5 &&& (255 : Int32))), .val (.ref x_325), .val (.ref x_332), .val (.ref x_339), .val (.ref b345), .val (.ref x_325)] [(.int 2)] ?_
      refine own_iload X373.here hx hby at_147 rfl ?_
      refine own_icmpNo X373.here hx hby at_149 (teq (show (2 : Int32) = (2 : Int32) from (by decide))).2 ?_
      refine own_aload X373.here hx hby at_152 rfl rfl ?_
      refine own_virtual X373 hx hZ356 hown356 (own_w hw 123 rfl) (own_w hw 109 rfl) (notFace_of_selects (args := #[]) (mvT hZ356 (own_w hw 111 rfl))) (own_w hw 111 rfl) (own_w hw 110 rfl) (own_w hw 51 rfl) (own_w hw 112 rfl) (by decide) (resValue l Z a0 hw [] b345 x_325 T356.heap n0 z363 P356_2) 0 (Nat.le_of_eq rfl) (by decide) (by decide) (by rw [hml]; rfl) (argsL := []) (st := []) P356_0 (lenOf pd_15 rfl) rfl rfl (by decide) (by decide) eh373 hby at_154 ?_
      intro T374 v374 L374 X374 hQ374
      obtain ⟨rfl, Nq374, eh374⟩ := hQ374
      have N374 := Fr.app N373 Nq374
      refine own_sh (T := T374) 157 #[.val (.int p1), .val (.int p2), .val (.int p3), .val (.int p4), .val (.int p5), .val (.int p6), .val (.int ((p1 &&& (2147483647 : Int32)) % (93 : Int32))), .val (.int (own_ic p1)), .val (.ref x_217), .val (.int 2), .val (.int (p3 &&& (255 : Int32))), .val (.int (p4 &&& (255 : Int32))), .val (.int (p5 &&& (255 : Int32))), .val (.ref x_325), .val (.ref x_332), .val (.ref x_339), .val (.ref b345), .val (.ref x_325)] [(.ref x_325)] ?_
      refine own_aload X374.here hx hby at_157 rfl rfl ?_
      refine own_acmp X374 hx (same := true) (pc' := 162) hby at_159 rfl rfl (decide_eq_true rfl) (by decide) (by decide) ?_
      refine own_iconst X374.here hx hby at_162 (v := (1 : Int32)) (by decide) ?_
      refine own_goto X374.here hx hby (pc' := 167) at_163 (by decide) (by decide) ?_
      obtain ⟨fs, hr, hrun, hended, hRW⟩ := X374.leaveW hS356 (by rw [eh374]; omega) (v := some (.int 1)) (fun h => by rw [Bd.returns] at h; cases h)
      have hCf : CHr Z consts_1 s.vm s.heap T374.vm T374.heap := by
        rw [hh, eh374]
        exact C359.trans (CHv.at X374 hZ356 hEL C359.1)
      refine own_ret (t := T374.setFrames fs) ?_ ⟨_, hrun, hended, _, _, rfl, ?_, hCf, hRW.1, hRW.2.1, hRW.2.2.1, hRW.2.2.2.mono (by decide) (by decide)⟩
      · exact retN X374 hx (t := .boolean) Bd.returns (by simp) (hb hby at_167) hr
      · show Q_rm0 Z p1 p2 p3 p4 p5 p6 zc fm h0 n0 _ T374.heap _
        rw [eh374]
        exact ⟨rfl, N374, trivial⟩
    · rw [hk]
      refine own_istore X217.here hx hby at_38 (l' := #[.val (.int p1), .val (.int p2), .val (.int p3), .val (.int p4), .val (.int p5), .val (.int p6), .val (.int ((p1 &&& (2147483647 : Int32)) % (93 : Int32))), .val (.int (own_ic p1)), .val (.ref x_217), .val (.int 3), .unset, .unset, .unset, .unset, .unset, .unset, .unset, .unset]) rfl ?_
      refine own_iloadN X217.here hx hby at_40 rfl ?_
      refine own_sipush X217.here hx hby at_41 (v := (255 : Int32)) (by decide) ?_
      refine own_iand X217.here hx hby at_44 rfl ?_
      refine own_i2c X217.here hx hby at_45 rfl ?_
      refine own_sh (T := T217) 46 #[.val (.int p1), .val (.int p2), .val (.int p3), .val (.int p4), .val (.int p5), .val (.int p6), .val (.int ((p1 &&& (2147483647 : Int32)) % (93 : Int32))), .val (.int (own_ic p1)), .val (.ref x_217), .val (.int 3), .unset, .unset, .unset, .unset, .unset, .unset, .unset, .unset] [(.int ((p3 &&& (255 : Int32)).toUInt32.toUInt16.toUInt32.toInt32))] ?_
      rw [show ((p3 &&& (255 : Int32)).toUInt32.toUInt16.toUInt32.toInt32) = (p3 &&& (255 : Int32)) from (i2c_mask p3)]
      refine own_istore X217.here hx hby at_46 (l' := #[.val (.int p1), .val (.int p2), .val (.int p3), .val (.int p4), .val (.int p5), .val (.int p6), .val (.int ((p1 &&& (2147483647 : Int32)) % (93 : Int32))), .val (.int (own_ic p1)), .val (.ref x_217), .val (.int 3), .val (.int (p3 &&& (255 : Int32))), .unset, .unset, .unset, .unset, .unset, .unset, .unset]) rfl ?_
      refine own_iloadN X217.here hx hby at_48 rfl ?_
      refine own_sipush X217.here hx hby at_49 (v := (255 : Int32)) (by decide) ?_
      refine own_iand X217.here hx hby at_52 rfl ?_
      refine own_i2c X217.here hx hby at_53 rfl ?_
      refine own_sh (T := T217) 54 #[.val (.int p1), .val (.int p2), .val (.int p3), .val (.int p4), .val (.int p5), .val (.int p6), .val (.int ((p1 &&& (2147483647 : Int32)) % (93 : Int32))), .val (.int (own_ic p1)), .val (.ref x_217), .val (.int 3), .val (.int (p3 &&& (255 : Int32))), .unset, .unset, .unset, .unset, .unset, .unset, .unset] [(.int ((p4 &&& (255 : Int32)).toUInt32.toUInt16.toUInt32.toInt32))] ?_
      rw [show ((p4 &&& (255 : Int32)).toUInt32.toUInt16.toUInt32.toInt32) = (p4 &&& (255 : Int32)) from (i2c_mask p4)]
      refine own_istore X217.here hx hby at_54 (l' := #[.val (.int p1), .val (.int p2), .val (.int p3), .val (.int p4), .val (.int p5), .val (.int p6), .val (.int ((p1 &&& (2147483647 : Int32)) % (93 : Int32))), .val (.int (own_ic p1)), .val (.ref x_217), .val (.int 3), .val (.int (p3 &&& (255 : Int32))), .val (.int (p4 &&& (255 : Int32))), .unset, .unset, .unset, .unset, .unset, .unset]) rfl ?_
      refine own_iload X217.here hx hby at_56 rfl ?_
      refine own_sipush X217.here hx hby at_58 (v := (255 : Int32)) (by decide) ?_
      refine own_iand X217.here hx hby at_61 rfl ?_
      refine own_i2c X217.here hx hby at_62 rfl ?_
      refine own_sh (T := T217) 63 #[.val (.int p1), .val (.int p2), .val (.int p3), .val (.int p4), .val (.int p5), .val (.int p6), .val (.int ((p1 &&& (2147483647 : Int32)) % (93 : Int32))), .val (.int (own_ic p1)), .val (.ref x_217), .val (.int 3), .val (.int (p3 &&& (255 : Int32))), .val (.int (p4 &&& (255 : Int32))), .unset, .unset, .unset, .unset, .unset, .unset] [(.int ((p5 &&& (255 : Int32)).toUInt32.toUInt16.toUInt32.toInt32))] ?_
      rw [show ((p5 &&& (255 : Int32)).toUInt32.toUInt16.toUInt32.toInt32) = (p5 &&& (255 : Int32)) from (i2c_mask p5)]
      refine own_istore X217.here hx hby at_63 (l' := #[.val (.int p1), .val (.int p2), .val (.int p3), .val (.int p4), .val (.int p5), .val (.int p6), .val (.int ((p1 &&& (2147483647 : Int32)) % (93 : Int32))), .val (.int (own_ic p1)), .val (.ref x_217), .val (.int 3), .val (.int (p3 &&& (255 : Int32))), .val (.int (p4 &&& (255 : Int32))), .val (.int (p5 &&& (255 : Int32))), .unset, .unset, .unset, .unset, .unset]) rfl ?_
      refine own_iload X217.here hx hby at_65 rfl ?_
      refine own_iload X217.here hx hby at_67 rfl ?_
      refine own_iload X217.here hx hby at_69 rfl ?_
      refine own_iload X217.here hx hby at_71 rfl ?_
      have f375 : Sta Z T217.heap "java/lang/String" "COMPACT_STRINGS" "Z" (.int zc) := (own_sta_keep S_COMPACT K217 all0)
      have z377 : n0 ≤ T217.heap.size := by omega
      refine own_callS X217 hx hZ hown (own_w hw 27 rfl) (own_w hw 28 rfl) (own_w hw 29 rfl) (own_w hw 30 rfl) (by decide) (str_3 l Z a0 hw [] (p3 &&& (255 : Int32)) (p4 &&& (255 : Int32)) (p5 &&& (255 : Int32)) zc T217.heap n0 z377 (own_c255 p3).1 (own_c255 p3).2 (own_c255 p4).1 (own_c255 p4).2 (own_c255 p5).1 (own_c255 p5).2 f375 hz) 0 (Nat.le_of_eq rfl) (by decide) (by decide) (by rw [hml]; rfl) (argsL := [(.int 3), (.int (p3 &&& (255 : Int32))), (.int (p4 &&& (255 : Int32))), (.int (p5 &&& (255 : Int32)))]) (st := []) (lenOf pd_18 rfl) rfl rfl (by decide) (by decide) rfl hby at_73 ?_
      intro T376 v376 L376 X376 hQ376
      obtain ⟨x_376, t_376, kb_376, rfl, Nq376, K376, P376_0, P376_1, P376_2, P376_3, P376_4⟩ := hQ376
      have N376 := Fr.app N217 Nq376
      have z378 : T217.heap.size ≤ T376.heap.size := K376.1
      have C379 := C219.trans (CHr.keep K376 sf0 C219.1)
      have lt380 : T376.heap.size > x_376 := P376_1.lt
      have lt381 : T376.heap.size > t_376 := P376_4.lt
      refine own_sh (T := T376) 76 #[.val (.int p1), .val (.int p2), .val (.int p3), .val (.int p4), .val (.int p5), .val (.int p6), .val (.int ((p1 &&& (2147483647 : Int32)) % (93 : Int32))), .val (.int (own_ic p1)), .val (.ref x_217), .val (.int 3), .val (.int (p3 &&& (255 : Int32))), .val (.int (p4 &&& (255 : Int32))), .val (.int (p5 &&& (255 : Int32))), .unset, .unset, .unset, .unset, .unset] [(.ref x_376)] ?_
      refine own_astore X376.here hx hby at_76 rfl (l' := #[.val (.int p1), .val (.int p2), .val (.int p3), .val (.int p4), .val (.int p5), .val (.int p6), .val (.int ((p1 &&& (2147483647 : Int32)) % (93 : Int32))), .val (.int (own_ic p1)), .val (.ref x_217), .val (.int 3), .val (.int (p3 &&& (255 : Int32))), .val (.int (p4 &&& (255 : Int32))), .val (.int (p5 &&& (255 : Int32))), .val (.ref x_376), .unset, .unset, .unset, .unset]) rfl ?_
      refine own_iload X376.here hx hby at_78 rfl ?_
      refine own_iload X376.here hx hby at_80 rfl ?_
      refine own_iload X376.here hx hby at_82 rfl ?_
      refine own_iload X376.here hx hby at_84 rfl ?_
      have f382 : Sta Z T376.heap "java/lang/String" "COMPACT_STRINGS" "Z" (.int zc) := (own_sta_keep f375 K376 all0)
      have z384 : n0 ≤ T376.heap.size := by omega
      refine own_callS X376 hx hZ hown (own_w hw 27 rfl) (own_w hw 28 rfl) (own_w hw 29 rfl) (own_w hw 30 rfl) (by decide) (str_3 l Z a0 hw [] (p3 &&& (255 : Int32)) (p4 &&& (255 : Int32)) (p5 &&& (255 : Int32)) zc T376.heap n0 z384 (own_c255 p3).1 (own_c255 p3).2 (own_c255 p4).1 (own_c255 p4).2 (own_c255 p5).1 (own_c255 p5).2 f382 hz) 0 (Nat.le_of_eq rfl) (by decide) (by decide) (by rw [hml]; rfl) (argsL := [(.int 3), (.int (p3 &&& (255 : Int32))), (.int (p4 &&& (255 : Int32))), (.int (p5 &&& (255 : Int32)))]) (st := []) (lenOf pd_18 rfl) rfl rfl (by decide) (by decide) rfl hby at_86 ?_
      intro T383 v383 L383 X383 hQ383
      obtain ⟨x_383, t_383, kb_383, rfl, Nq383, K383, P383_0, P383_1, P383_2, P383_3, P383_4⟩ := hQ383
      have N383 := Fr.app N376 Nq383
      have z385 : T376.heap.size ≤ T383.heap.size := K383.1
      have C386 := C379.trans (CHr.keep K383 sf0 C379.1)
      have lt387 : T383.heap.size > x_383 := P383_1.lt
      have lt388 : T383.heap.size > t_383 := P383_4.lt
      refine own_sh (T := T383) 89 #[.val (.int p1), .val (.int p2), .val (.int p3), .val (.int p4), .val (.int p5), .val (.int p6), .val (.int ((p1 &&& (2147483647 : Int32)) % (93 : Int32))), .val (.int (own_ic p1)), .val (.ref x_217), .val (.int 3), .val (.int (p3 &&& (255 : Int32))), .val (.int (p4 &&& (255 : Int32))), .val (.int (p5 &&& (255 : Int32))), .val (.ref x_376), .unset, .unset, .unset, .unset] [(.ref x_383)] ?_
      refine own_astore X383.here hx hby at_89 rfl (l' := #[.val (.int p1), .val (.int p2), .val (.int p3), .val (.int p4), .val (.int p5), .val (.int p6), .val (.int ((p1 &&& (2147483647 : Int32)) % (93 : Int32))), .val (.int (own_ic p1)), .val (.ref x_217), .val (.int 3), .val (.int (p3 &&& (255 : Int32))), .val (.int (p4 &&& (255 : Int32))), .val (.int (p5 &&& (255 : Int32))), .val (.ref x_376), .val (.ref x_383), .unset, .unset, .unset]) rfl ?_
      refine own_iload X383.here hx hby at_91 rfl ?_
      refine own_sipush X383.here hx hby at_93 (v := (255 : Int32)) (by decide) ?_
      refine own_iand X383.here hx hby at_96 rfl ?_
      refine own_i2c X383.here hx hby at_97 rfl ?_
      refine own_sh (T := T383) 98 #[.val (.int p1), .val (.int p2), .val (.int p3), .val (.int p4), .val (.int p5), .val (.int p6), .val (.int ((p1 &&& (2147483647 : Int32)) % (93 : Int32))), .val (.int (own_ic p1)), .val (.ref x_217), .val (.int 3), .val (.int (p3 &&& (255 : Int32))), .val (.int (p4 &&& (255 : Int32))), .val (.int (p5 &&& (255 : Int32))), .val (.ref x_376), .val (.ref x_383), .unset, .unset, .unset] [(.int ((p6 &&& (255 : Int32)).toUInt32.toUInt16.toUInt32.toInt32))] ?_
      rw [show ((p6 &&& (255 : Int32)).toUInt32.toUInt16.toUInt32.toInt32) = (p6 &&& (255 : Int32)) from (i2c_mask p6)]
      have f389 : Sta Z T383.heap "java/lang/String" "COMPACT_STRINGS" "Z" (.int zc) := (own_sta_keep f382 K383 all0)
      have z391 : n0 ≤ T383.heap.size := by omega
      refine own_callS X383 hx hZ hown (own_w hw 1 rfl) (own_w hw 2 rfl) (own_w hw 3 rfl) (own_w hw 4 rfl) (by decide) (valOf l Z a0 hw [] (p6 &&& (255 : Int32)) zc T383.heap n0 z391 f389 hz (own_c255 p6).2) 0 (Nat.le_of_eq rfl) (by decide) (by decide) (by rw [hml]; rfl) (argsL := [(.int (p6 &&& (255 : Int32)))]) (st := []) (lenOf pd_17 rfl) rfl rfl (by decide) (by decide) rfl hby at_98 ?_
      intro T390 v390 L390 X390 hQ390
      obtain ⟨x_390, t_390, kb_390, rfl, Nq390, K390, P390_0, P390_1, P390_2, P390_3, P390_4, P390_5, P390_6⟩ := hQ390
      have N390 := Fr.app N383 Nq390
      have z392 : T383.heap.size ≤ T390.heap.size := K390.1
      have C393 := C386.trans (CHr.keep K390 sf0 C386.1)
      have lt394 : T390.heap.size > x_390 := P390_3.lt
      have lt395 : T390.heap.size > t_390 := P390_6.lt
      refine own_sh (T := T390) 101 #[.val (.int p1), .val (.int p2), .val (.int p3), .val (.int p4), .val (.int p5), .val (.int p6), .val (.int ((p1 &&& (2147483647 : Int32)) % (93 : Int32))), .val (.int (own_ic p1)), .val (.ref x_217), .val (.int 3), .val (.int (p3 &&& (255 : Int32))), .val (.int (p4 &&& (255 : Int32))), .val (.int (p5 &&& (255 : Int32))), .val (.ref x_376), .val (.ref x_383), .unset, .unset, .unset] [(.ref x_390)] ?_
      refine own_astore X390.here hx hby at_101 rfl (l' := #[.val (.int p1), .val (.int p2), .val (.int p3), .val (.int p4), .val (.int p5), .val (.int p6), .val (.int ((p1 &&& (2147483647 : Int32)) % (93 : Int32))), .val (.int (own_ic p1)), .val (.ref x_217), .val (.int 3), .val (.int (p3 &&& (255 : Int32))), .val (.int (p4 &&& (255 : Int32))), .val (.int (p5 &&& (255 : Int32))), .val (.ref x_376), .val (.ref x_383), .val (.ref x_390), .unset, .unset]) rfl ?_
      refine own_newO X390 hx hZ hown (own_w hw 49 rfl) (own_w hw 50 rfl) (own_w hw 51 rfl) rfl hby at_103 (by decide) (by decide) ?_
      intro T396 h396 b396 X396 e396 E396 g396 A396 D396 lt396
      have z397 : T390.heap.size ≤ h396.size := E396.1
      have C398 := C393.trans (CHr.ext E396 C393.1)
      have F399 : Fld Z h396 b396 "com/example/tiny_context/tinycontext/Resource" "id" "Ljava/lang/String;" .null := D396 (Or.inr (own_w hw 101 rfl)) (ty := (.object "java/lang/String")) (by decide)
      have F400 : Fld Z h396 b396 "com/example/tiny_context/tinycontext/Resource" "value" "Ljava/lang/Object;" .null := D396 (Or.inr (own_w hw 103 rfl)) (ty := (.object "java/lang/Object")) (by decide)
      refine own_dup X396.here hx hby at_106 rfl ?_
      refine own_aload X396.here hx hby at_107 rfl rfl ?_
      refine own_aload X396.here hx hby at_109 rfl rfl ?_
      have f401 : Exa Z h396 x_217 "java/lang/String" := ((((P217_3.keep K376).keep K383).keep K390).ext E396)
      have f402 : Fld Z h396 x_217 "java/lang/String" "coder" "B" (.int 0) := ((((P217_4.keep K376 nin0).keep K383 nin0).keep K390 nin0).ext E396)
      have f403 : Fld Z h396 x_217 "java/lang/String" "value" "[B" (.ref t_217) := ((((P217_5.keep K376 nin0).keep K383 nin0).keep K390 nin0).ext E396)
      have f404 : Arv Z h396 t_217 kb_217 .byte (1 : Int32) [(.int ((own_ic p1).toInt8.toInt32))] (.int 0) := ((((P217_6.keep K376 nin0).keep K383 nin0).keep K390 nin0).ext E396)
      have f405 : Sta Z h396 "java/lang/String" "COMPACT_STRINGS" "Z" (.int zc) := ((own_sta_keep f389 K390 all0).ext E396)
      have f406 : Sta Z h396 "jdk/internal/util/Preconditions" "SIOOBE_FORMATTER" "Ljava/util/function/BiFunction;" fm := ((own_sta_keep (own_sta_keep (own_sta_keep (own_sta_keep S_FM K217 all0) K376 all0) K383 all0) K390 all0).ext E396)
      have z408 : n0 ≤ h396.size := by omega
      refine own_specialH X396 hx hZ hEL rfl hown (own_w hw 52 rfl) (own_w hw 53 rfl) (own_w hw 51 rfl) (own_w hw 54 rfl) (by decide) (resInit3 l Z a0 hw [] b396 x_376 x_217 t_217 kb_217 zc fm (own_ic p1) h396 n0 z408 A396 (by omega) F399 F400 f401 f402 f403 f404 f405 hz f406 hfm (own_ic0 p1) (own_ic255 p1) hc21_7 (own_ic32 p1) (own_ic126 p1)) 1 (Nat.le_of_eq rfl) (by decide) (by decide) (by rw [hml]; rfl) (argsL := [(.ref x_217), (.ref x_376)]) (st := [(.ref b396)]) (a := b396) (lenOf pd_19 rfl) rfl rfl (by decide) (by decide) e396 hby C398.1 hS0 (by omega) at_111 ?_
      intro T407 v407 L407 vm407 X407 hS407 hZ407 hown407 hg407 Cn407 hQ407
      obtain ⟨rfl, Nq407, K407, P407_0, P407_1, P407_2⟩ := hQ407
      have N407 := Fr.app N390 Nq407
      have z409 : h396.size ≤ T407.heap.size := K407.1
      have C410 := C398.trans Cn407
      have lt411 : T407.heap.size > b396 := P407_0.lt
      refine own_sh (T := T407) 114 #[.val (.int p1), .val (.int p2), .val (.int p3), .val (.int p4), .val (.int p5), .val (.int p6), .val (.int ((p1 &&& (2147483647 : Int32)) % (93 : Int32))), .val (.int (own_ic p1)), .val (.ref x_217), .val (.int 3), .val (.int (p3 &&& (255 : Int32))), .val (.int (p4 &&& (255 : Int32))), .val (.int (p5 &&& (255 : Int32))), .val (.ref x_376), .val (.ref x_383), .val (.ref x_390), .unset, .unset] [(.ref b396)] ?_
      refine own_astore X407.here hx hby at_114 rfl (l' := #[.val (.int p1), .val (.int p2), .val (.int p3), .val (.int p4), .val (.int p5), .val (.int p6), .val (.int ((p1 &&& (2147483647 : Int32)) % (93 : Int32))), .val (.int (own_ic p1)), .val (.ref x_217), .val (.int 3), .val (.int (p3 &&& (255 : Int32))), .val (.int (p4 &&& (255 : Int32))), .val (.int (p5 &&& (255 : Int32))), .val (.ref x_376), .val (.ref x_383), .val (.ref x_390), .val (.ref b396), .unset]) rfl ?_
      refine own_aload X407.here hx hby at_116 rfl rfl ?_
      refine own_aload X407.here hx hby at_118 rfl rfl ?_
      have f412 : Exa Z T407.heap x_376 "java/lang/String" := ((((P376_1.keep K383).keep K390).ext E396).keep K407)
      have z414 : n0 ≤ T407.heap.size := by omega
      refine own_callS X407 hx hZ407 hown407 (own_w hw 104 rfl) (own_w hw 105 rfl) (own_w hw 106 rfl) (own_w hw 107 rfl) (by decide) (accValue l Z a0 hw [] b396 x_376 x_390 T407.heap n0 z414 P407_0 P407_2 f412) 0 (Nat.le_of_eq rfl) (by decide) (by decide) (by rw [hml]; rfl) (argsL := [(.ref b396), (.ref x_390)]) (st := []) (lenOf pd_20 rfl) rfl rfl (by decide) (by decide) rfl hby at_120 ?_
      intro T413 v413 L413 X413 hQ413
      obtain ⟨rfl, Nq413, eh413⟩ := hQ413
      have N413 := Fr.app N407 Nq413
      refine own_sh (T := T413) 123 #[.val (.int p1), .val (.int p2), .val (.int p3), .val (.int p4), .val (.int p5), .val (.int p6), .val (.int ((p1 &&& (2147483647 : Int32)) % (93 : Int32))), .val (.int (own_ic p1)), .val (.ref x_217), .val (.int 3), .val (.int (p3 &&& (255 : Int32))), .val (.int (p4 &&& (255 : Int32))), .val (.int (p5 &&& (255 : Int32))), .val (.ref x_376), .val (.ref x_383), .val (.ref x_390), .val (.ref b396), .unset] [(.ref x_376)] ?_
      refine own_astore X413.here hx hby at_123 rfl (l' := #[.val (.int p1), .val (.int p2), .val (.int p3), .val (.int p4), .val (.int p5), .val (.int p6), .val (.int ((p1 &&& (2147483647 : Int32)) % (93 : Int32))), .val (.int (own_ic p1)), .val (.ref x_217), .val (.int 3), .val (.int (p3 &&& (255 : Int32))), .val (.int (p4 &&& (255 : Int32))), .val (.int (p5 &&& (255 : Int32))), .val (.ref x_376), .val (.ref x_383), .val (.ref x_390), .val (.ref b396), .val (.ref x_376)]) rfl ?_
      refine own_aload X413.here hx hby at_125 rfl rfl ?_
      refine own_aload X413.here hx hby at_127 rfl rfl ?_
      refine own_acmp X413 hx (same := true) (pc' := 132) hby at_129 rfl rfl (decide_eq_true rfl) (by decide) (by decide) ?_
      refine own_aload X413.here hx hby at_132 rfl rfl ?_
      refine own_aload X413.here hx hby at_134 rfl rfl ?_
      have f415 : Exa Z T407.heap x_383 "java/lang/String" := (((P383_1.keep K390).ext E396).keep K407)
      have f416 : Fld Z T407.heap x_376 "java/lang/String" "coder" "B" (.int 0) := ((((P376_2.keep K383 nin0).keep K390 nin0).ext E396).keep K407 (ninS (own_nn (by omega)) nin0))
      have f417 : Fld Z T407.heap x_376 "java/lang/String" "value" "[B" (.ref t_376) := ((((P376_3.keep K383 nin0).keep K390 nin0).ext E396).keep K407 (ninS (own_nn (by omega)) nin0))
      have f418 : Arv Z T407.heap t_376 kb_376 .byte (3 : Int32) [(.int ((p3 &&& (255 : Int32)).toInt8.toInt32)), (.int ((p4 &&& (255 : Int32)).toInt8.toInt32)), (.int ((p5 &&& (255 : Int32)).toInt8.toInt32))] (.int 0) := ((((P376_4.keep K383 nin0).keep K390 nin0).ext E396).keep K407 (ninS (own_nn (by omega)) nin0))
      have f419 : Fld Z T407.heap x_383 "java/lang/String" "coder" "B" (.int 0) := (((P383_2.keep K390 nin0).ext E396).keep K407 (ninS (own_nn (by omega)) nin0))
      have f420 : Fld Z T407.heap x_383 "java/lang/String" "value" "[B" (.ref t_383) := (((P383_3.keep K390 nin0).ext E396).keep K407 (ninS (own_nn (by omega)) nin0))
      have f421 : Arv Z T407.heap t_383 kb_383 .byte (3 : Int32) [(.int ((p3 &&& (255 : Int32)).toInt8.toInt32)), (.int ((p4 &&& (255 : Int32)).toInt8.toInt32)), (.int ((p5 &&& (255 : Int32)).toInt8.toInt32))] (.int 0) := (((P383_4.keep K390 nin0).ext E396).keep K407 (ninS (own_nn (by omega)) nin0))
      have f422 : Sta Z T407.heap "java/lang/String" "COMPACT_STRINGS" "Z" (.int zc) := (own_sta_keep f405 K407 (allS (own_exa_plain A396) all0))
      refine own_virtual X413 hx hZ407 hown407 (own_w hw 114 rfl) (own_w hw 115 rfl) (notFace_of_selects (args := #[]) (mvT hZ407 (own_w hw 117 rfl))) (own_w hw 117 rfl) (own_w hw 116 rfl) (own_w hw 3 rfl) (own_w hw 118 rfl) (by decide) (strEq_3 l Z a0 hw [] x_376 x_383 t_376 t_383 kb_376 kb_383 zc ((p3 &&& (255 : Int32)).toInt8.toInt32) ((p4 &&& (255 : Int32)).toInt8.toInt32) ((p5 &&& (255 : Int32)).toInt8.toInt32) T407.heap n0 z414 f412 f415 (own_nn (by omega)) f416 f417 f418 f419 f420 f421 f422 hz) 0 (Nat.le_of_eq rfl) (by decide) (by decide) (by rw [hml]; rfl) (argsL := [(.ref x_383)]) (st := []) f412 (lenOf pd_21 rfl) rfl rfl (by decide) (by decide) eh413 hby at_136 ?_
      intro T423 v423 L423 X423 hQ423
      obtain ⟨rfl, Nq423, eh423⟩ := hQ423
      have N423 := Fr.app N413 Nq423
      refine own_sh (T := T423) 139 #[.val (.int p1), .val (.int p2), .val (.int p3), .val (.int p4), .val (.int p5), .val (.int p6), .val (.int ((p1 &&& (2147483647 : Int32)) % (93 : Int32))), .val (.int (own_ic p1)), .val (.ref x_217), .val (.int 3), .val (.int (p3 &&& (255 : Int32))), .val (.int (p4 &&& (255 : Int32))), .val (.int (p5 &&& (255 : Int32))), .val (.ref x_376), .val (.ref x_383), .val (.ref x_390), .val (.ref b396), .val (.ref x_376)] [(.int 1)] ?_
      refine own_ifNo X423.here hx hby at_139 ((if0 _ _).trans (feq (show ¬ ((1 : Int32) = (0 : Int32)) from (by decide))).1) ?_
      refine own_aload X423.here hx hby at_142 rfl rfl ?_
      refine own_virtual X423 hx hZ407 hown407 (own_w hw 122 rfl) (own_w hw 70 rfl) (notFace_of_selects (args := #[]) (mvT hZ407 (own_w hw 72 rfl))) (own_w hw 72 rfl) (own_w hw 71 rfl) (own_w hw 3 rfl) (own_w hw 73 rfl) (by decide) (strLen_3 l Z a0 hw [] x_376 t_376 kb_376 zc ([(.int ((p3 &&& (255 : Int32)).toInt8.toInt32)), (.int ((p4 &&& (255 : Int32)).toInt8.toInt32)), (.int ((p5 &&& (255 : Int32)).toInt8.toInt32))]) T407.heap n0 z414 f412 f416 f417 f418 f422 hz) 0 (Nat.le_of_eq rfl) (by decide) (by decide) (by rw [hml]; rfl) (argsL := []) (st := []) f412 (lenOf pd_11 rfl) rfl rfl (by decide) (by decide) eh423 hby at_144 ?_
      intro T424 v424 L424 X424 hQ424
      obtain ⟨rfl, Nq424, eh424⟩ := hQ424
      have N424 := Fr.app N423 Nq424
      refine own_sh (T := T424) 147 #[.val (.int p1), .val (.int p2), .val (.int p3), .val (.int p4), .val (.int p5), .val (.int p6), .val (.int ((p1 &&& (2147483647 : Int32)) % (93 : Int32))), .val (.int (own_ic p1)), .val (.ref x_217), .val (.int 3), .val (.int (p3 &&& (255 : Int32))), .val (.int (p4 &&& (255 : Int32))), .val (.int (p5 &&& (255 : Int32))), .val (.ref x_376), .val (.ref x_383), .val (.ref x_390), .val (.ref b396), .val (.ref x_376)] [(.int 3)] ?_
      refine own_iload X424.here hx hby at_147 rfl ?_
      refine own_icmpNo X424.here hx hby at_149 (teq (show (3 : Int32) = (3 : Int32) from (by decide))).2 ?_
      refine own_aload X424.here hx hby at_152 rfl rfl ?_
      refine own_virtual X424 hx hZ407 hown407 (own_w hw 123 rfl) (own_w hw 109 rfl) (notFace_of_selects (args := #[]) (mvT hZ407 (own_w hw 111 rfl))) (own_w hw 111 rfl) (own_w hw 110 rfl) (own_w hw 51 rfl) (own_w hw 112 rfl) (by decide) (resValue l Z a0 hw [] b396 x_376 T407.heap n0 z414 P407_2) 0 (Nat.le_of_eq rfl) (by decide) (by decide) (by rw [hml]; rfl) (argsL := []) (st := []) P407_0 (lenOf pd_15 rfl) rfl rfl (by decide) (by decide) eh424 hby at_154 ?_
      intro T425 v425 L425 X425 hQ425
      obtain ⟨rfl, Nq425, eh425⟩ := hQ425
      have N425 := Fr.app N424 Nq425
      refine own_sh (T := T425) 157 #[.val (.int p1), .val (.int p2), .val (.int p3), .val (.int p4), .val (.int p5), .val (.int p6), .val (.int ((p1 &&& (2147483647 : Int32)) % (93 : Int32))), .val (.int (own_ic p1)), .val (.ref x_217), .val (.int 3), .val (.int (p3 &&& (255 : Int32))), .val (.int (p4 &&& (255 : Int32))), .val (.int (p5 &&& (255 : Int32))), .val (.ref x_376), .val (.ref x_383), .val (.ref x_390), .val (.ref b396), .val (.ref x_376)] [(.ref x_376)] ?_
      refine own_aload X425.here hx hby at_157 rfl rfl ?_
      refine own_acmp X425 hx (same := true) (pc' := 162) hby at_159 rfl rfl (decide_eq_true rfl) (by decide) (by decide) ?_
      refine own_iconst X425.here hx hby at_162 (v := (1 : Int32)) (by decide) ?_
      refine own_goto X425.here hx hby (pc' := 167) at_163 (by decide) (by decide) ?_
      obtain ⟨fs, hr, hrun, hended, hRW⟩ := X425.leaveW hS407 (by rw [eh425]; omega) (v := some (.int 1)) (fun h => by rw [Bd.returns] at h; cases h)
      have hCf : CHr Z consts_1 s.vm s.heap T425.vm T425.heap := by
        rw [hh, eh425]
        exact C410.trans (CHv.at X425 hZ407 hEL C410.1)
      refine own_ret (t := T425.setFrames fs) ?_ ⟨_, hrun, hended, _, _, rfl, ?_, hCf, hRW.1, hRW.2.1, hRW.2.2.1, hRW.2.2.2.mono (by decide) (by decide)⟩
      · exact retN X425 hx (t := .boolean) Bd.returns (by simp) (hb hby at_167) hr
      · show Q_rm0 Z p1 p2 p3 p4 p5 p6 zc fm h0 n0 _ T425.heap _
        rw [eh425]
        exact ⟨rfl, N425, trivial⟩
set_option maxRecDepth 65536 in
set_option maxHeartbeats 40000000 in
theorem comes_1 {Post : Tables → Env → Array Value → State → Outcome → State → Prop} (hpost : ∀ tb e args s v u, (limb_1_1.after args s (.returned v) u = true ∧ limb_1_2.after args s (.returned v) u = true ∧ True) → ReturnedEndW s (.returned v) u (Jvm.fieldLocs frame_1_writes args s ++ Jvm.arrayLocs frame_1_arrays args s ++ Jvm.staticLocs frame_1_statics s) 40 2240 → Post tb e args s (.returned v) u) :
    ArmFor flags0 classFile x code maxLocals ret World_1 tables_1 room_1 Calls_1 rest_1 Pre_1 Post := by
  intro l hfl _ _ p e ha hc hk s m args below hf hA hF happ hP
  obtain ⟨hcalls, hrest, hpre⟩ := hP
  obtain ⟨-, -, -, hnamed, -, -, -, hat⟩ := (Spec.applies_iff hf).mp happ
  obtain ⟨hg, hn⟩ := and_e (Cond.before_iff.mp (show (Jvm.Cond.and given_1 narrow_1).before args s = true from hpre))
  obtain ⟨g1, g2⟩ := and_e hg
  obtain ⟨g3, g4⟩ := and_e g2
  obtain ⟨g5, g6⟩ := and_e g4
  obtain ⟨g7, g8⟩ := and_e g6
  obtain ⟨g9, g10⟩ := and_e g8
  obtain ⟨g11, g12⟩ := and_e g10
  obtain ⟨w0, w1, w2, w3, w4, w5, rfl⟩ : ∃ w0 w1 w2 w3 w4 w5 : Value, args = #[w0, w1, w2, w3, w4, w5] := by
    have hs : args.size = 6 := by simpa [Cond.value, given_1] using g1
    obtain ⟨L⟩ := args
    match L, hs with
    | [w0, w1, w2, w3, w4, w5], _ => exact ⟨w0, w1, w2, w3, w4, w5, rfl⟩
  have hw := fun d (hd : d ∈ tables_1) => atoms_spec (ws := Jvm.Cond.code x code maxLocals ret :: tables_1) hat d (List.mem_cons_of_mem _ hd)
  have hfit : Fit s := fun {y c} hc i hi => by
    obtain ⟨ha, rfl⟩ := Array.getElem?_eq_some_iff.mp hc
    have q := List.all_eq_true.mp ((Array.all_eq_true_iff_forall_mem.mp hF) _ (Array.getElem_mem ha)) i (List.mem_range.mpr hi)
    simpa [Array.getElem?_eq_getElem hi] using q
  obtain ⟨hsets, hown0⟩ := atoms_of _ (rest_1_c_eq ▸ (show rest_1_c.before _ s = true from hrest))
  have hr0 := Cond.before_iff.mp hown0
  obtain ⟨i0, ei0⟩ := is_v g3
  obtain rfl : w0 = (.int i0) := Option.some.inj ei0
  obtain ⟨i1, ei1⟩ := is_v g5
  obtain rfl : w1 = (.int i1) := Option.some.inj ei1
  obtain ⟨i2, ei2⟩ := is_v g7
  obtain rfl : w2 = (.int i2) := Option.some.inj ei2
  obtain ⟨i3, ei3⟩ := is_v g9
  obtain rfl : w3 = (.int i3) := Option.some.inj ei3
  obtain ⟨i4, ei4⟩ := is_v g11
  obtain rfl : w4 = (.int i4) := Option.some.inj ei4
  obtain ⟨i5, ei5⟩ := is_v g12
  obtain rfl : w5 = (.int i5) := Option.some.inj ei5
  have hCS := Cond.before_iff.mp (hsets _ (List.mem_of_getElem? (i := 1) rfl))
  obtain ⟨zC, evC⟩ := is_v hCS
  have StC := Sta.start evC (Or.inl (hsets _ (List.mem_of_getElem? (i := 0) rfl)))
  have hzC : ¬ (zC = (0 : Int32)) := fun e => by
    have q := not_v (Cond.before_iff.mp (hsets _ (List.mem_of_getElem? (i := 2) rfl)))
    have r := eq_i evC (Term.int_eval (0)) (by rw [e])
    exact absurd (q.symm.trans r) (by decide)
  obtain ⟨fM, evF, hfM⟩ := isR_v (Cond.before_iff.mp (hsets _ (List.mem_of_getElem? (i := 8) rfl)))
  have StF := Sta.start evF (Or.inl (hsets _ (List.mem_of_getElem? (i := 7) rfl)))
  have CHs : CHv s consts_1 s.vm s.heap := CHv.start (own_EW hw) (fun p hp => hcalls.1 p hp) (hsets _ (List.mem_of_getElem? (i := 2) rfl)) (own_w hw 15 rfl) (own_w hw 11 rfl)
  obtain ⟨n, o, h1, h2, h3, _, L, rfl, ⟨rfl, N, -⟩, -, hq⟩ := rm0 l s _ hw tables_1 i0 i1 i2 i3 i4 i5 zC fM s.heap s.heap.size (Nat.le_refl _) StC hzC StF hfM p e ha hc hk s m _ below hf ((Spec.applies_iff_loose hf).mp happ).1 ⟨rfl, State.Warmed39.refl s, rfl, CHs⟩ trivial
  refine ⟨n, _, h1, h2, h3, hpost _ _ _ _ _ _ ⟨Cond.after_iff.mpr rfl, Cond.after_iff.mpr (eq_i res_at (Term.int_eval (1)) rfl), trivial⟩ ⟨hq.1, hq.2.1, hq.2.2.1, (hq.2.2.2.sift fun y hy => Or.inr (N y hy)).mono (by decide) (by decide)⟩⟩
theorem main_1_1 : Claimed_1_1 := comes_1 fun _ _ _ _ _ _ h hF => ⟨h.1, hF⟩
theorem main_1_2 : Claimed_1_2 := comes_1 fun _ _ _ _ _ _ h hF => ⟨h.2.1, hF⟩
end Jvm.Pilot.@@N@@
namespace Jvm.Pilot.@@N@@
open Jvm Jvm.ClassFile Sem Op Lib Jvm.Free Jvm.Stand Jvm.Pilot.@@N@@.Jvm.D
/-! MADE BY PROGRAM (witnessworld.py) out of the Statement's table words and the real class files: 22 classes; the members and pool entries that the words name. The judged class is class 1, her method 2. -/
namespace start1
open Jvm.ClassFile
def u (s : String) : CpInfo := .utf8 (stringToUtf16 s)
/-- a pool by its gaps: so many unusable entries, then the entry; so many at the end -/
def gap : Nat → List CpInfo → List CpInfo
  | 0, r => r
  | n + 1, r => .unusable :: gap n r
def poolList (es : List (Nat × CpInfo)) (last : Nat) : List CpInfo := es.foldr (fun e r => gap e.1 (e.2 :: r)) (gap last [])
def pool (es : List (Nat × CpInfo)) (last : Nat) : Array CpInfo := ⟨poolList es last⟩
def fileOf (pool : Array CpInfo) (this : Nat) (attrs : Array Attribute := #[]) (ms : Array MethodInfo := #[]) (fl : Nat := 33) (sup : Nat := 0) (ifs : Array Nat := #[]) (fds : Array FieldInfo := #[]) : ClassFile where
  minorVersion := 0
  majorVersion := 65
  constantPool := pool
  accessFlags := fl
  thisClass := this
  superClass := sup
  interfaces := ifs
  fields := fds
  methods := ms
  attributes := attrs
def plain (name : String) (sup : Option ClassId) : Class where
  name := name
  kind := .ordinary
  loader := none
  accessFlags := 33
  super := sup
  interfaces := #[]
  cf := none
  fields := #[]
  methods := #[]
  instanceTypes := #[]
  staticTypes := #[]
  resolved := #[]
  callSites := []
  init := .initialized
  statics := none
  mirror := none

def pool0 : Array CpInfo := pool [(5, u "<init>"), (0, u "()V"), (1, .class_ 10), (1, u "java/lang/Object")] 113

def k0c0 : Code := { maxStack := 0, maxLocals := 1, code := object_method_1_code, exceptionTable := #[], attributes := #[] }
def k0m0 : Method := { name := "<init>", desc := "()V", sig := { parameters := [], returnType := none }, accessFlags := 1, code := some k0c0 }
/-- java/lang/Object -/
def k0 : Class := { plain "java/lang/Object" none with
  accessFlags := 33
  interfaces := #[]
  cf := some (fileOf pool0 8 #[] #[{ accessFlags := 1, nameIndex := 5, descriptorIndex := 6, attributes := #[] }] 33 0 #[] #[])
  fields := #[]
  methods := #[k0m0]
  instanceTypes := #[]
  staticTypes := #[]
  resolved := Array.replicate 124 none
  statics := none }

def pool1 : Array CpInfo := pool [(2, .class_ 4), (1, u "java/lang/Object"), (0, u "<init>"), (0, u "()V"), (0, .class_ 8), (0, u "java/lang/String"), (0, .methodref 7 10), (0, .nameAndType 5 11), (0, u "([C)V"), (0, .integer 2147483647), (0, .methodref 7 14), (0, .nameAndType 15 16), (0, u "valueOf"), (0, u "(C)Ljava/lang/String;"), (0, .methodref 18 19), (0, .class_ 20), (0, .nameAndType 21 22), (0, u "com/example/tiny_context/tinycontext/account/AccountsValuePinLaw"), (0, u "str"), (0, u "(ICCC)Ljava/lang/String;"), (0, .class_ 24), (0, u "com/example/tiny_context/tinycontext/Resource"), (0, .methodref 23 26), (0, .nameAndType 5 27), (0, u "(Ljava/lang/String;Ljava/lang/Object;)V"), (0, .methodref 29 30), (0, .class_ 31), (0, .nameAndType 32 33), (0, u "com/example/tiny_context/tinycontext/account/Accounts"), (0, u "value"), (0, u "(Lcom/example/tiny_context/tinycontext/Resource;Ljava/lang/String;)Ljava/lang/String;"), (0, .methodref 7 35), (0, .nameAndType 36 37), (0, u "equals"), (0, u "(Ljava/lang/Object;)Z"), (0, .methodref 7 39), (0, .nameAndType 40 41), (0, u "length"), (0, u "()I"), (0, .methodref 23 43), (0, .nameAndType 32 44), (0, u "()Ljava/lang/Object;"), (3, u "law"), (0, u "(IIIIII)Z")] 2

def k1m0 : Method := { name := "<init>", desc := "()V", sig := { parameters := [], returnType := none }, accessFlags := 2, code := none }
def k1c1 : Code := { maxStack := 6, maxLocals := 4, code := method_2_code, exceptionTable := #[], attributes := #[] }
def k1m1 : Method := { name := "str", desc := "(ICCC)Ljava/lang/String;", sig := { parameters := [.int, .char, .char, .char], returnType := some (.object "java/lang/String") }, accessFlags := 10, code := some k1c1 }
def k1c2 : Code := { maxStack := 4, maxLocals := 18, code := code, exceptionTable := #[], attributes := #[] }
def k1m2 : Method := { name := "law", desc := "(IIIIII)Z", sig := { parameters := [.int, .int, .int, .int, .int, .int], returnType := some .boolean }, accessFlags := 9, code := some k1c2 }
/-- com/example/tiny_context/tinycontext/account/AccountsValuePinLaw -/
def k1 : Class := { plain "com/example/tiny_context/tinycontext/account/AccountsValuePinLaw" (some 0) with
  accessFlags := 49
  interfaces := #[]
  cf := some (fileOf pool1 18 #[] #[{ accessFlags := 2, nameIndex := 5, descriptorIndex := 6, attributes := #[] }, { accessFlags := 10, nameIndex := 21, descriptorIndex := 22, attributes := #[] }, { accessFlags := 9, nameIndex := 48, descriptorIndex := 49, attributes := #[] }] 49 2 #[] #[])
  fields := #[]
  methods := #[k1m0, k1m1, k1m2]
  instanceTypes := #[]
  staticTypes := #[]
  resolved := Array.replicate 52 none
  statics := none }

def pool2 : Array CpInfo := pool [(1, .class_ 2), (0, u "java/io/Serializable"), (0, .class_ 4), (0, u "java/lang/Object")] 2

/-- java/io/Serializable -/
def k2 : Class := { plain "java/io/Serializable" (some 0) with
  accessFlags := 1537
  interfaces := #[]
  cf := some (fileOf pool2 1 #[] #[] 1537 3 #[] #[])
  fields := #[]
  methods := #[]
  instanceTypes := #[]
  staticTypes := #[]
  resolved := Array.replicate 7 none
  statics := none }

def pool3 : Array CpInfo := pool [(1, .class_ 2), (0, u "java/lang/Comparable"), (0, .class_ 4), (0, u "java/lang/Object")] 7

/-- java/lang/Comparable -/
def k3 : Class := { plain "java/lang/Comparable" (some 0) with
  accessFlags := 1537
  interfaces := #[]
  cf := some (fileOf pool3 1 #[] #[] 1537 3 #[] #[])
  fields := #[]
  methods := #[]
  instanceTypes := #[]
  staticTypes := #[]
  resolved := Array.replicate 12 none
  statics := none }

def pool4 : Array CpInfo := pool [(2, .class_ 4), (1, u "java/lang/CharSequence"), (42, .class_ 48), (0, u "java/lang/CharSequence$1CodePointIterator"), (10, .class_ 60), (0, u "java/lang/CharSequence$1CharIterator"), (5, .class_ 67), (0, u "java/lang/Object")] 63

/-- java/lang/CharSequence -/
def k4 : Class := { plain "java/lang/CharSequence" (some 0) with
  accessFlags := 1537
  interfaces := #[]
  cf := some (fileOf pool4 2 #[.nestMembers #[47, 59]] #[] 1537 66 #[] #[])
  fields := #[]
  methods := #[]
  instanceTypes := #[]
  staticTypes := #[]
  resolved := Array.replicate 131 none
  statics := none }

def pool5 : Array CpInfo := pool [(1, .class_ 2), (0, u "java/lang/constant/Constable"), (0, .class_ 4), (0, u "java/lang/Object")] 6

/-- java/lang/constant/Constable -/
def k5 : Class := { plain "java/lang/constant/Constable" (some 0) with
  accessFlags := 1537
  interfaces := #[]
  cf := some (fileOf pool5 1 #[] #[] 1537 3 #[] #[])
  fields := #[]
  methods := #[]
  instanceTypes := #[]
  staticTypes := #[]
  resolved := Array.replicate 11 none
  statics := none }

def pool6 : Array CpInfo := pool [(1, .class_ 2), (0, u "java/lang/constant/ConstantDesc"), (0, .class_ 4), (0, u "java/lang/Object")] 32

/-- java/lang/constant/ConstantDesc -/
def k6 : Class := { plain "java/lang/constant/ConstantDesc" (some 0) with
  accessFlags := 1537
  interfaces := #[]
  cf := some (fileOf pool6 1 #[] #[] 1537 3 #[] #[])
  fields := #[]
  methods := #[]
  instanceTypes := #[]
  staticTypes := #[]
  resolved := Array.replicate 37 none
  statics := none }

def pool7 : Array CpInfo := pool [(1, .methodref 2 3), (0, .class_ 4), (0, .nameAndType 5 6), (0, u "java/lang/Object"), (0, u "<init>"), (0, u "()V"), (0, .string 8), (0, u ""), (0, .fieldref 10 11), (0, .class_ 12), (0, .nameAndType 13 14), (0, u "java/lang/String"), (0, u "value"), (0, u "[B"), (0, .fieldref 10 16), (0, .nameAndType 17 18), (0, u "coder"), (0, u "B"), (2, u "hash"), (0, u "I"), (2, u "hashIsZero"), (0, u "Z"), (0, .methodref 10 28), (0, .nameAndType 5 29), (0, u "([CIILjava/lang/Void;)V"), (8, .fieldref 10 39), (0, .nameAndType 40 26), (0, u "COMPACT_STRINGS"), (1, .class_ 44), (1, u "java/lang/StringUTF16"), (0, u "compress"), (1, .methodref 42 48), (0, .nameAndType 49 50), (0, u "coderFromArrayLen"), (0, u "([BI)B"), (2, u "toBytes"), (53, .class_ 109), (1, u "java/lang/StringLatin1"), (32, u "()Z"), (34, .methodref 42 178), (0, .nameAndType 45 179), (0, u "([CII)[B"), (29, .methodref 10 210), (0, .nameAndType 5 211), (0, u "([BB)V"), (122, u "()I"), (0, .methodref 10 336), (0, .nameAndType 17 337), (0, u "()B"), (25, u "([BI)C"), (5, u "(C)Z"), (21, u "(II)V"), (35, u "(I)C"), (64, .methodref 10 493), (0, .nameAndType 494 142), (0, u "isLatin1"), (0, .methodref 107 496), (0, .nameAndType 497 363), (0, u "charAt"), (3, u "checkIndex"), (5, u "length"), (33, .methodref 107 542), (0, .nameAndType 543 544), (0, u "equals"), (0, u "([B[B)Z"), (28, u "(Ljava/lang/Object;)Z"), (1, .class_ 576), (0, u "java/lang/CharSequence"), (22, u "CASE_INSENSITIVE_ORDER"), (0, u "Ljava/util/Comparator;"), (181, u "valueOf"), (0, u "(C)Ljava/lang/String;"), (226, u "([C)V"), (4, .methodref 107 1016), (0, .nameAndType 1017 369), (0, u "canEncode"), (0, .methodref 107 1019), (0, .nameAndType 53 1020), (0, u "(C)[B"), (32, .fieldref 1054 1055), (0, .class_ 1056), (0, .nameAndType 1057 1058), (0, u "jdk/internal/util/Preconditions"), (0, u "SIOOBE_FORMATTER"), (0, u "Ljava/util/function/BiFunction;"), (0, .methodref 1054 1060), (0, .nameAndType 501 1061), (0, u "(IILjava/util/function/BiFunction;)I"), (39, u "serialPersistentFields"), (0, u "[Ljava/io/ObjectStreamField;"), (0, .class_ 1104), (0, u "java/lang/String$CaseInsensitiveComparator"), (1, .class_ 1107), (0, u "java/io/Serializable"), (0, .class_ 1109), (0, u "java/lang/Comparable"), (0, .class_ 1111), (0, u "java/lang/constant/Constable"), (0, .class_ 1113), (0, u "java/lang/constant/ConstantDesc"), (2, u "serialVersionUID"), (0, u "J"), (3, u "REPL"), (0, u "C"), (2, u "LATIN1"), (1, u "UTF16")] 323

def k7m0 : Method := { name := "<init>", desc := "()V", sig := { parameters := [], returnType := none }, accessFlags := 1, code := none }
def k7c1 : Code := { maxStack := 5, maxLocals := 2, code := jdk_42_method_3_code, exceptionTable := #[], attributes := #[] }
def k7m1 : Method := { name := "<init>", desc := "([C)V", sig := { parameters := [(.array .char)], returnType := none }, accessFlags := 1, code := some k7c1 }
def k7c2 : Code := { maxStack := 2, maxLocals := 1, code := jdk_42_method_54_code, exceptionTable := #[], attributes := #[] }
def k7m2 : Method := { name := "length", desc := "()I", sig := { parameters := [], returnType := some .int }, accessFlags := 1, code := some k7c2 }
def k7c3 : Code := { maxStack := 2, maxLocals := 2, code := jdk_42_method_56_code, exceptionTable := #[], attributes := #[] }
def k7m3 : Method := { name := "charAt", desc := "(I)C", sig := { parameters := [.int], returnType := some .char }, accessFlags := 1, code := some k7c3 }
def k7c4 : Code := { maxStack := 2, maxLocals := 3, code := jdk_42_method_66_code, exceptionTable := #[], attributes := #[] }
def k7m4 : Method := { name := "equals", desc := "(Ljava/lang/Object;)Z", sig := { parameters := [(.object "java/lang/Object")], returnType := some .boolean }, accessFlags := 1, code := some k7c4 }
def k7c5 : Code := { maxStack := 4, maxLocals := 1, code := jdk_42_method_139_code, exceptionTable := #[], attributes := #[] }
def k7m5 : Method := { name := "valueOf", desc := "(C)Ljava/lang/String;", sig := { parameters := [.char], returnType := some (.object "java/lang/String") }, accessFlags := 9, code := some k7c5 }
def k7c6 : Code := { maxStack := 4, maxLocals := 6, code := jdk_42_method_149_code, exceptionTable := #[], attributes := #[] }
def k7m6 : Method := { name := "<init>", desc := "([CIILjava/lang/Void;)V", sig := { parameters := [(.array .char), .int, .int, (.object "java/lang/Void")], returnType := none }, accessFlags := 2, code := some k7c6 }
def k7c7 : Code := { maxStack := 2, maxLocals := 3, code := jdk_42_method_151_code, exceptionTable := #[], attributes := #[] }
def k7m7 : Method := { name := "<init>", desc := "([BB)V", sig := { parameters := [(.array .byte), .byte], returnType := none }, accessFlags := 0, code := some k7c7 }
def k7c8 : Code := { maxStack := 1, maxLocals := 1, code := jdk_42_method_152_code, exceptionTable := #[], attributes := #[] }
def k7m8 : Method := { name := "coder", desc := "()B", sig := { parameters := [], returnType := some .byte }, accessFlags := 0, code := some k7c8 }
def k7c9 : Code := { maxStack := 1, maxLocals := 1, code := jdk_42_method_154_code, exceptionTable := #[], attributes := #[] }
def k7m9 : Method := { name := "isLatin1", desc := "()Z", sig := { parameters := [], returnType := some .boolean }, accessFlags := 0, code := some k7c9 }
def k7c10 : Code := { maxStack := 3, maxLocals := 2, code := jdk_42_method_155_code, exceptionTable := #[], attributes := #[] }
def k7m10 : Method := { name := "checkIndex", desc := "(II)V", sig := { parameters := [.int, .int], returnType := none }, accessFlags := 8, code := some k7c10 }
/-- java/lang/String -/
def k7 : Class := { plain "java/lang/String" (some 0) with
  accessFlags := 49
  interfaces := #[2, 3, 4, 5, 6]
  cf := some (fileOf pool7 10 #[.nestMembers #[1103]] #[{ accessFlags := 1, nameIndex := 5, descriptorIndex := 6, attributes := #[] }, { accessFlags := 1, nameIndex := 5, descriptorIndex := 1010, attributes := #[] }, { accessFlags := 1, nameIndex := 507, descriptorIndex := 334, attributes := #[] }, { accessFlags := 1, nameIndex := 497, descriptorIndex := 427, attributes := #[] }, { accessFlags := 1, nameIndex := 543, descriptorIndex := 573, attributes := #[] }, { accessFlags := 9, nameIndex := 782, descriptorIndex := 783, attributes := #[] }, { accessFlags := 2, nameIndex := 5, descriptorIndex := 29, attributes := #[] }, { accessFlags := 0, nameIndex := 5, descriptorIndex := 211, attributes := #[] }, { accessFlags := 0, nameIndex := 17, descriptorIndex := 337, attributes := #[] }, { accessFlags := 0, nameIndex := 494, descriptorIndex := 142, attributes := #[] }, { accessFlags := 8, nameIndex := 501, descriptorIndex := 391, attributes := #[] }] 49 2 #[1106, 1108, 575, 1110, 1112] #[{ accessFlags := 18, nameIndex := 13, descriptorIndex := 14, attributes := #[] }, { accessFlags := 18, nameIndex := 17, descriptorIndex := 18, attributes := #[] }, { accessFlags := 2, nameIndex := 21, descriptorIndex := 22, attributes := #[] }, { accessFlags := 2, nameIndex := 25, descriptorIndex := 26, attributes := #[] }, { accessFlags := 26, nameIndex := 1116, descriptorIndex := 1117, attributes := #[] }, { accessFlags := 24, nameIndex := 40, descriptorIndex := 26, attributes := #[] }, { accessFlags := 26, nameIndex := 1101, descriptorIndex := 1102, attributes := #[] }, { accessFlags := 26, nameIndex := 1121, descriptorIndex := 1122, attributes := #[] }, { accessFlags := 25, nameIndex := 599, descriptorIndex := 600, attributes := #[] }, { accessFlags := 24, nameIndex := 1125, descriptorIndex := 18, attributes := #[] }, { accessFlags := 24, nameIndex := 1127, descriptorIndex := 18, attributes := #[] }])
  fields := #[{ name := "value", type := (.array .byte), accessFlags := 18, slot := 0, constantValue := 0 }, { name := "coder", type := .byte, accessFlags := 18, slot := 1, constantValue := 0 }, { name := "hash", type := .int, accessFlags := 2, slot := 2, constantValue := 0 }, { name := "hashIsZero", type := .boolean, accessFlags := 2, slot := 3, constantValue := 0 }, { name := "serialVersionUID", type := .long, accessFlags := 26, slot := 0, constantValue := 0 }, { name := "COMPACT_STRINGS", type := .boolean, accessFlags := 24, slot := 1, constantValue := 0 }, { name := "serialPersistentFields", type := (.array (.object "java/io/ObjectStreamField")), accessFlags := 26, slot := 2, constantValue := 0 }, { name := "REPL", type := .char, accessFlags := 26, slot := 3, constantValue := 0 }, { name := "CASE_INSENSITIVE_ORDER", type := (.object "java/util/Comparator"), accessFlags := 25, slot := 4, constantValue := 0 }, { name := "LATIN1", type := .byte, accessFlags := 24, slot := 5, constantValue := 0 }, { name := "UTF16", type := .byte, accessFlags := 24, slot := 6, constantValue := 0 }]
  methods := #[k7m0, k7m1, k7m2, k7m3, k7m4, k7m5, k7m6, k7m7, k7m8, k7m9, k7m10]
  instanceTypes := #[(.array .byte), .byte, .int, .boolean]
  staticTypes := #[.long, .boolean, (.array (.object "java/io/ObjectStreamField")), .char, (.object "java/util/Comparator"), .byte, .byte]
  resolved := Array.replicate 1451 none
  statics := some 0 }

def pool8 : Array CpInfo := pool [(1, .class_ 2), (0, u "java/lang/String"), (1, .class_ 6), (1, u "java/lang/Object"), (0, u "<init>"), (0, u "()V"), (0, .methodref 1 10), (0, .nameAndType 11 12), (0, u "checkIndex"), (0, u "(II)V"), (1, .class_ 16), (1, u "java/lang/StringLatin1"), (36, u "([BI)C"), (36, u "canEncode"), (14, u "(C)Z"), (15, u "$assertionsDisabled"), (0, u "Z"), (98, .class_ 223), (1, u "java/lang/StringLatin1$LinesSpliterator"), (28, u "charAt"), (28, u "equals"), (0, u "([B[B)Z"), (97, u "toBytes"), (1, u "(C)[B"), (7, .class_ 391), (0, u "java/lang/StringLatin1$CharsSpliterator")] 3

def k8m0 : Method := { name := "<init>", desc := "()V", sig := { parameters := [], returnType := none }, accessFlags := 0, code := none }
def k8c1 : Code := { maxStack := 2, maxLocals := 2, code := jdk_43_method_2_code, exceptionTable := #[], attributes := #[] }
def k8m1 : Method := { name := "charAt", desc := "([BI)C", sig := { parameters := [(.array .byte), .int], returnType := some .char }, accessFlags := 9, code := some k8c1 }
def k8c2 : Code := { maxStack := 2, maxLocals := 1, code := jdk_43_method_3_code, exceptionTable := #[], attributes := #[] }
def k8m2 : Method := { name := "canEncode", desc := "(C)Z", sig := { parameters := [.char], returnType := some .boolean }, accessFlags := 9, code := some k8c2 }
def k8c3 : Code := { maxStack := 3, maxLocals := 3, code := jdk_43_method_13_code, exceptionTable := #[], attributes := #[] }
def k8m3 : Method := { name := "equals", desc := "([B[B)Z", sig := { parameters := [(.array .byte), (.array .byte)], returnType := some .boolean }, accessFlags := 9, code := some k8c3 }
def k8c4 : Code := { maxStack := 4, maxLocals := 1, code := jdk_43_method_46_code, exceptionTable := #[], attributes := #[] }
def k8m4 : Method := { name := "toBytes", desc := "(C)[B", sig := { parameters := [.char], returnType := some (.array .byte) }, accessFlags := 9, code := some k8c4 }
/-- java/lang/StringLatin1 -/
def k8 : Class := { plain "java/lang/StringLatin1" (some 0) with
  accessFlags := 48
  interfaces := #[]
  cf := some (fileOf pool8 14 #[.nestMembers #[390, 221]] #[{ accessFlags := 0, nameIndex := 7, descriptorIndex := 8, attributes := #[] }, { accessFlags := 9, nameIndex := 252, descriptorIndex := 53, attributes := #[] }, { accessFlags := 9, nameIndex := 90, descriptorIndex := 105, attributes := #[] }, { accessFlags := 9, nameIndex := 281, descriptorIndex := 282, attributes := #[] }, { accessFlags := 9, nameIndex := 380, descriptorIndex := 382, attributes := #[] }] 48 4 #[] #[{ accessFlags := 4120, nameIndex := 121, descriptorIndex := 122, attributes := #[] }])
  fields := #[{ name := "$assertionsDisabled", type := .boolean, accessFlags := 4120, slot := 0, constantValue := 0 }]
  methods := #[k8m0, k8m1, k8m2, k8m3, k8m4]
  instanceTypes := #[]
  staticTypes := #[.boolean]
  resolved := Array.replicate 395 none
  statics := none }

def pool9 : Array CpInfo := pool [(6, .class_ 8), (1, u "java/lang/Object"), (0, u "<init>"), (0, u "()V"), (1, .class_ 14), (1, u "java/lang/StringUTF16"), (31, u "$assertionsDisabled"), (0, u "Z"), (13, u "HI_BYTE_SHIFT"), (0, u "I"), (2, u "LO_BYTE_SHIFT"), (49, .methodref 12 116), (0, .nameAndType 117 118), (0, u "compress"), (0, u "([CI[BII)I"), (3, u "([CII)[B"), (138, u "coderFromArrayLen"), (0, u "([BI)B"), (106, .class_ 371), (1, u "java/lang/StringUTF16$LinesSpliterator"), (58, u "MAX_LENGTH"), (196, .class_ 628), (0, u "java/lang/StringUTF16$CodePointsSpliterator"), (0, .class_ 630), (0, u "java/lang/StringUTF16$CharsSpliterator")] 4

def k9m0 : Method := { name := "<init>", desc := "()V", sig := { parameters := [], returnType := none }, accessFlags := 0, code := none }
def k9c1 : Code := { maxStack := 2, maxLocals := 2, code := jdk_52_method_15_code, exceptionTable := #[], attributes := #[] }
def k9m1 : Method := { name := "coderFromArrayLen", desc := "([BI)B", sig := { parameters := [(.array .byte), .int], returnType := some .byte }, accessFlags := 8, code := some k9c1 }
def k9c2 : Code := { maxStack := 5, maxLocals := 6, code := jdk_52_method_16_code, exceptionTable := #[], attributes := #[] }
def k9m2 : Method := { name := "compress", desc := "([CII)[B", sig := { parameters := [(.array .char), .int, .int], returnType := some (.array .byte) }, accessFlags := 9, code := some k9c2 }
def k9c3 : Code := { maxStack := 3, maxLocals := 7, code := jdk_52_method_21_code, exceptionTable := #[], attributes := #[] }
def k9m3 : Method := { name := "compress", desc := "([CI[BII)I", sig := { parameters := [(.array .char), .int, (.array .byte), .int, .int], returnType := some .int }, accessFlags := 9, code := some k9c3 }
/-- java/lang/StringUTF16 -/
def k9 : Class := { plain "java/lang/StringUTF16" (some 0) with
  accessFlags := 48
  interfaces := #[]
  cf := some (fileOf pool9 12 #[.nestMembers #[627, 629, 369]] #[{ accessFlags := 0, nameIndex := 9, descriptorIndex := 10, attributes := #[] }, { accessFlags := 8, nameIndex := 261, descriptorIndex := 262, attributes := #[] }, { accessFlags := 9, nameIndex := 117, descriptorIndex := 122, attributes := #[] }, { accessFlags := 9, nameIndex := 117, descriptorIndex := 118, attributes := #[] }] 48 6 #[] #[{ accessFlags := 26, nameIndex := 61, descriptorIndex := 62, attributes := #[] }, { accessFlags := 26, nameIndex := 65, descriptorIndex := 62, attributes := #[] }, { accessFlags := 24, nameIndex := 430, descriptorIndex := 62, attributes := #[] }, { accessFlags := 4120, nameIndex := 46, descriptorIndex := 47, attributes := #[] }])
  fields := #[{ name := "HI_BYTE_SHIFT", type := .int, accessFlags := 26, slot := 0, constantValue := 0 }, { name := "LO_BYTE_SHIFT", type := .int, accessFlags := 26, slot := 1, constantValue := 0 }, { name := "MAX_LENGTH", type := .int, accessFlags := 24, slot := 2, constantValue := 0 }, { name := "$assertionsDisabled", type := .boolean, accessFlags := 4120, slot := 3, constantValue := 0 }]
  methods := #[k9m0, k9m1, k9m2, k9m3]
  instanceTypes := #[]
  staticTypes := #[.int, .int, .int, .boolean]
  resolved := Array.replicate 635 none
  statics := none }

def pool10 : Array CpInfo := pool [(2, .class_ 4), (1, u "com/example/tiny_context/tinycontext/Resource"), (0, u "<init>"), (0, u "(Ljava/lang/String;Ljava/lang/Object;)V"), (0, .methodref 2 8), (0, .nameAndType 5 9), (0, u "(Ljava/lang/String;Ljava/lang/Object;Z)V"), (0, .methodref 11 12), (0, .class_ 13), (0, .nameAndType 5 14), (0, u "java/lang/Object"), (0, u "()V"), (0, .methodref 2 16), (0, .nameAndType 17 18), (0, u "checkId"), (0, u "(Ljava/lang/String;)Ljava/lang/String;"), (0, .fieldref 2 20), (0, .nameAndType 21 22), (0, u "id"), (0, u "Ljava/lang/String;"), (0, .fieldref 2 24), (0, .nameAndType 25 26), (0, u "value"), (0, u "Ljava/lang/Object;"), (5, u "attributes"), (0, u "Ljava/util/Map;"), (16, .string 51), (0, u "resource id"), (0, .methodref 53 54), (0, .class_ 55), (0, .nameAndType 56 57), (0, u "java/util/Objects"), (0, u "requireNonNull"), (0, u "(Ljava/lang/Object;Ljava/lang/String;)Ljava/lang/Object;"), (0, .methodref 59 60), (0, .class_ 61), (0, .nameAndType 62 63), (0, u "java/lang/String"), (0, u "length"), (0, u "()I"), (0, .methodref 59 65), (0, .nameAndType 66 67), (0, u "charAt"), (0, u "(I)C"), (31, u "()Ljava/lang/Object;")] 20

def k10c0 : Code := { maxStack := 4, maxLocals := 3, code := prog_37_method_2_code, exceptionTable := #[], attributes := #[] }
def k10m0 : Method := { name := "<init>", desc := "(Ljava/lang/String;Ljava/lang/Object;)V", sig := { parameters := [(.object "java/lang/String"), (.object "java/lang/Object")], returnType := none }, accessFlags := 1, code := some k10c0 }
def k10c1 : Code := { maxStack := 2, maxLocals := 4, code := prog_37_method_3_code, exceptionTable := #[], attributes := #[] }
def k10m1 : Method := { name := "<init>", desc := "(Ljava/lang/String;Ljava/lang/Object;Z)V", sig := { parameters := [(.object "java/lang/String"), (.object "java/lang/Object"), .boolean], returnType := none }, accessFlags := 0, code := some k10c1 }
def k10c2 : Code := { maxStack := 1, maxLocals := 1, code := prog_37_method_5_code, exceptionTable := #[], attributes := #[] }
def k10m2 : Method := { name := "value", desc := "()Ljava/lang/Object;", sig := { parameters := [], returnType := some (.object "java/lang/Object") }, accessFlags := 1, code := some k10c2 }
def k10c3 : Code := { maxStack := 3, maxLocals := 6, code := prog_37_method_8_code, exceptionTable := #[], attributes := #[] }
def k10m3 : Method := { name := "checkId", desc := "(Ljava/lang/String;)Ljava/lang/String;", sig := { parameters := [(.object "java/lang/String")], returnType := some (.object "java/lang/String") }, accessFlags := 8, code := some k10c3 }
/-- com/example/tiny_context/tinycontext/Resource -/
def k10 : Class := { plain "com/example/tiny_context/tinycontext/Resource" (some 0) with
  accessFlags := 33
  interfaces := #[]
  cf := some (fileOf pool10 2 #[] #[{ accessFlags := 1, nameIndex := 5, descriptorIndex := 6, attributes := #[] }, { accessFlags := 0, nameIndex := 5, descriptorIndex := 9, attributes := #[] }, { accessFlags := 1, nameIndex := 25, descriptorIndex := 99, attributes := #[] }, { accessFlags := 8, nameIndex := 17, descriptorIndex := 18, attributes := #[] }] 33 11 #[] #[{ accessFlags := 18, nameIndex := 21, descriptorIndex := 22, attributes := #[] }, { accessFlags := 18, nameIndex := 25, descriptorIndex := 26, attributes := #[] }, { accessFlags := 2, nameIndex := 32, descriptorIndex := 33, attributes := #[] }])
  fields := #[{ name := "id", type := (.object "java/lang/String"), accessFlags := 18, slot := 0, constantValue := 0 }, { name := "value", type := (.object "java/lang/Object"), accessFlags := 18, slot := 1, constantValue := 0 }, { name := "attributes", type := (.object "java/util/Map"), accessFlags := 2, slot := 2, constantValue := 0 }]
  methods := #[k10m0, k10m1, k10m2, k10m3]
  instanceTypes := #[(.object "java/lang/String"), (.object "java/lang/Object"), (.object "java/util/Map")]
  staticTypes := #[]
  resolved := Array.replicate 120 none
  statics := none }

def pool11 : Array CpInfo := pool [(2, .class_ 4), (1, u "java/lang/Object"), (0, u "<init>"), (0, u "()V"), (35, .class_ 44), (1, u "java/util/Objects"), (0, u "requireNonNull"), (48, u "(Ljava/lang/Object;Ljava/lang/String;)Ljava/lang/Object;")] 89

def k11m0 : Method := { name := "<init>", desc := "()V", sig := { parameters := [], returnType := none }, accessFlags := 2, code := none }
def k11c1 : Code := { maxStack := 3, maxLocals := 2, code := jdk_31_method_11_code, exceptionTable := #[], attributes := #[] }
def k11m1 : Method := { name := "requireNonNull", desc := "(Ljava/lang/Object;Ljava/lang/String;)Ljava/lang/Object;", sig := { parameters := [(.object "java/lang/Object"), (.object "java/lang/String")], returnType := some (.object "java/lang/Object") }, accessFlags := 9, code := some k11c1 }
/-- java/util/Objects -/
def k11 : Class := { plain "java/util/Objects" (some 0) with
  accessFlags := 49
  interfaces := #[]
  cf := some (fileOf pool11 42 #[] #[{ accessFlags := 2, nameIndex := 5, descriptorIndex := 6, attributes := #[] }, { accessFlags := 9, nameIndex := 45, descriptorIndex := 94, attributes := #[] }] 49 2 #[] #[])
  fields := #[]
  methods := #[k11m0, k11m1]
  instanceTypes := #[]
  staticTypes := #[]
  resolved := Array.replicate 184 none
  statics := none }

def pool12 : Array CpInfo := pool [(2, .class_ 4), (1, u "java/lang/Object"), (0, u "<init>"), (0, u "()V"), (17, .class_ 26), (1, u "jdk/internal/util/Preconditions"), (6, u "checkIndex"), (21, .class_ 56), (0, u "jdk/internal/util/Preconditions$4"), (57, .class_ 115), (0, u "jdk/internal/util/Preconditions$1"), (7, u "SIOOBE_FORMATTER"), (0, u "Ljava/util/function/BiFunction;"), (0, .class_ 126), (0, u "jdk/internal/util/Preconditions$2"), (3, u "AIOOBE_FORMATTER"), (0, .class_ 132), (0, u "jdk/internal/util/Preconditions$3"), (3, u "IOOBE_FORMATTER"), (41, u "(IILjava/util/function/BiFunction;)I")] 15

def k12m0 : Method := { name := "<init>", desc := "()V", sig := { parameters := [], returnType := none }, accessFlags := 1, code := none }
def k12c1 : Code := { maxStack := 3, maxLocals := 3, code := jdk_41_method_11_code, exceptionTable := #[], attributes := #[] }
def k12m1 : Method := { name := "checkIndex", desc := "(IILjava/util/function/BiFunction;)I", sig := { parameters := [.int, .int, (.object "java/util/function/BiFunction")], returnType := some .int }, accessFlags := 9, code := some k12c1 }
/-- jdk/internal/util/Preconditions -/
def k12 : Class := { plain "jdk/internal/util/Preconditions" (some 0) with
  accessFlags := 33
  interfaces := #[]
  cf := some (fileOf pool12 24 #[.nestMembers #[55, 131, 125, 114]] #[{ accessFlags := 1, nameIndex := 5, descriptorIndex := 6, attributes := #[] }, { accessFlags := 9, nameIndex := 33, descriptorIndex := 178, attributes := #[] }] 33 2 #[] #[{ accessFlags := 25, nameIndex := 123, descriptorIndex := 124, attributes := #[] }, { accessFlags := 25, nameIndex := 130, descriptorIndex := 124, attributes := #[] }, { accessFlags := 25, nameIndex := 136, descriptorIndex := 124, attributes := #[] }])
  fields := #[{ name := "SIOOBE_FORMATTER", type := (.object "java/util/function/BiFunction"), accessFlags := 25, slot := 0, constantValue := 0 }, { name := "AIOOBE_FORMATTER", type := (.object "java/util/function/BiFunction"), accessFlags := 25, slot := 1, constantValue := 0 }, { name := "IOOBE_FORMATTER", type := (.object "java/util/function/BiFunction"), accessFlags := 25, slot := 2, constantValue := 0 }]
  methods := #[k12m0, k12m1]
  instanceTypes := #[]
  staticTypes := #[(.object "java/util/function/BiFunction"), (.object "java/util/function/BiFunction"), (.object "java/util/function/BiFunction")]
  resolved := Array.replicate 194 none
  statics := some 1 }

def pool13 : Array CpInfo := pool [(2, .class_ 4), (1, u "java/lang/Object"), (0, u "<init>"), (0, u "()V"), (8, .methodref 16 17), (0, .class_ 18), (0, .nameAndType 19 20), (0, u "com/example/tiny_context/tinycontext/Resource"), (0, u "value"), (0, u "()Ljava/lang/Object;"), (0, .class_ 22), (0, u "java/lang/String"), (44, .class_ 69), (1, u "com/example/tiny_context/tinycontext/account/Accounts"), (70, u "(Lcom/example/tiny_context/tinycontext/Resource;Ljava/lang/String;)Ljava/lang/String;")] 24

def k13m0 : Method := { name := "<init>", desc := "()V", sig := { parameters := [], returnType := none }, accessFlags := 2, code := none }
def k13c1 : Code := { maxStack := 5, maxLocals := 4, code := prog_51_method_3_code, exceptionTable := #[], attributes := #[] }
def k13m1 : Method := { name := "value", desc := "(Lcom/example/tiny_context/tinycontext/Resource;Ljava/lang/String;)Ljava/lang/String;", sig := { parameters := [(.object "com/example/tiny_context/tinycontext/Resource"), (.object "java/lang/String")], returnType := some (.object "java/lang/String") }, accessFlags := 8, code := some k13c1 }
/-- com/example/tiny_context/tinycontext/account/Accounts -/
def k13 : Class := { plain "com/example/tiny_context/tinycontext/account/Accounts" (some 0) with
  accessFlags := 32
  interfaces := #[]
  cf := some (fileOf pool13 67 #[] #[{ accessFlags := 2, nameIndex := 5, descriptorIndex := 6, attributes := #[] }, { accessFlags := 8, nameIndex := 19, descriptorIndex := 140, attributes := #[] }] 32 2 #[] #[])
  fields := #[]
  methods := #[k13m0, k13m1]
  instanceTypes := #[]
  staticTypes := #[]
  resolved := Array.replicate 165 none
  statics := none }

def pool14 : Array CpInfo := pool [(9, u "<init>"), (6, .class_ 18), (1, u "java/lang/Object"), (0, u "()V"), (1, .class_ 23), (1, u "jdk/internal/util/ArraysSupport"), (0, u "LOG2_ARRAY_LONG_INDEX_SCALE"), (0, u "I"), (2, u "U"), (0, u "Ljdk/internal/misc/Unsafe;"), (8, u "BIG_ENDIAN"), (0, u "Z"), (8, u "LOG2_BYTE_BIT_SIZE"), (4, u "LOG2_ARRAY_INT_INDEX_SCALE"), (54, u "JLA"), (0, u "Ljdk/internal/access/JavaLangAccess;"), (11, u "LOG2_ARRAY_BOOLEAN_INDEX_SCALE"), (9, u "LOG2_ARRAY_BYTE_INDEX_SCALE"), (5, u "LOG2_ARRAY_CHAR_INDEX_SCALE"), (5, u "LOG2_ARRAY_SHORT_INDEX_SCALE"), (18, u "LOG2_ARRAY_FLOAT_INDEX_SCALE"), (24, u "LOG2_ARRAY_DOUBLE_INDEX_SCALE"), (89, u "T_BOOLEAN"), (2, u "T_CHAR"), (1, u "T_FLOAT"), (1, u "T_DOUBLE"), (1, u "T_BYTE"), (1, u "T_SHORT"), (1, u "T_INT"), (1, u "T_LONG"), (1, u "SOFT_MAX_ARRAY_LENGTH")] 83

def k14m0 : Method := { name := "<init>", desc := "()V", sig := { parameters := [], returnType := none }, accessFlags := 2, code := none }
/-- jdk/internal/util/ArraysSupport -/
def k14 : Class := { plain "jdk/internal/util/ArraysSupport" (some 0) with
  accessFlags := 33
  interfaces := #[]
  cf := some (fileOf pool14 21 #[] #[{ accessFlags := 2, nameIndex := 9, descriptorIndex := 19, attributes := #[] }] 33 16 #[] #[{ accessFlags := 24, nameIndex := 28, descriptorIndex := 29, attributes := #[] }, { accessFlags := 26, nameIndex := 38, descriptorIndex := 39, attributes := #[] }, { accessFlags := 25, nameIndex := 121, descriptorIndex := 25, attributes := #[] }, { accessFlags := 25, nameIndex := 131, descriptorIndex := 25, attributes := #[] }, { accessFlags := 25, nameIndex := 137, descriptorIndex := 25, attributes := #[] }, { accessFlags := 25, nameIndex := 143, descriptorIndex := 25, attributes := #[] }, { accessFlags := 25, nameIndex := 53, descriptorIndex := 25, attributes := #[] }, { accessFlags := 25, nameIndex := 24, descriptorIndex := 25, attributes := #[] }, { accessFlags := 25, nameIndex := 162, descriptorIndex := 25, attributes := #[] }, { accessFlags := 25, nameIndex := 187, descriptorIndex := 25, attributes := #[] }, { accessFlags := 26, nameIndex := 48, descriptorIndex := 25, attributes := #[] }, { accessFlags := 25, nameIndex := 277, descriptorIndex := 25, attributes := #[] }, { accessFlags := 25, nameIndex := 280, descriptorIndex := 25, attributes := #[] }, { accessFlags := 25, nameIndex := 282, descriptorIndex := 25, attributes := #[] }, { accessFlags := 25, nameIndex := 284, descriptorIndex := 25, attributes := #[] }, { accessFlags := 25, nameIndex := 286, descriptorIndex := 25, attributes := #[] }, { accessFlags := 25, nameIndex := 288, descriptorIndex := 25, attributes := #[] }, { accessFlags := 25, nameIndex := 290, descriptorIndex := 25, attributes := #[] }, { accessFlags := 25, nameIndex := 292, descriptorIndex := 25, attributes := #[] }, { accessFlags := 26, nameIndex := 108, descriptorIndex := 109, attributes := #[] }, { accessFlags := 25, nameIndex := 294, descriptorIndex := 25, attributes := #[] }])
  fields := #[{ name := "U", type := (.object "jdk/internal/misc/Unsafe"), accessFlags := 24, slot := 0, constantValue := 0 }, { name := "BIG_ENDIAN", type := .boolean, accessFlags := 26, slot := 1, constantValue := 0 }, { name := "LOG2_ARRAY_BOOLEAN_INDEX_SCALE", type := .int, accessFlags := 25, slot := 2, constantValue := 0 }, { name := "LOG2_ARRAY_BYTE_INDEX_SCALE", type := .int, accessFlags := 25, slot := 3, constantValue := 0 }, { name := "LOG2_ARRAY_CHAR_INDEX_SCALE", type := .int, accessFlags := 25, slot := 4, constantValue := 0 }, { name := "LOG2_ARRAY_SHORT_INDEX_SCALE", type := .int, accessFlags := 25, slot := 5, constantValue := 0 }, { name := "LOG2_ARRAY_INT_INDEX_SCALE", type := .int, accessFlags := 25, slot := 6, constantValue := 0 }, { name := "LOG2_ARRAY_LONG_INDEX_SCALE", type := .int, accessFlags := 25, slot := 7, constantValue := 0 }, { name := "LOG2_ARRAY_FLOAT_INDEX_SCALE", type := .int, accessFlags := 25, slot := 8, constantValue := 0 }, { name := "LOG2_ARRAY_DOUBLE_INDEX_SCALE", type := .int, accessFlags := 25, slot := 9, constantValue := 0 }, { name := "LOG2_BYTE_BIT_SIZE", type := .int, accessFlags := 26, slot := 10, constantValue := 0 }, { name := "T_BOOLEAN", type := .int, accessFlags := 25, slot := 11, constantValue := 0 }, { name := "T_CHAR", type := .int, accessFlags := 25, slot := 12, constantValue := 0 }, { name := "T_FLOAT", type := .int, accessFlags := 25, slot := 13, constantValue := 0 }, { name := "T_DOUBLE", type := .int, accessFlags := 25, slot := 14, constantValue := 0 }, { name := "T_BYTE", type := .int, accessFlags := 25, slot := 15, constantValue := 0 }, { name := "T_SHORT", type := .int, accessFlags := 25, slot := 16, constantValue := 0 }, { name := "T_INT", type := .int, accessFlags := 25, slot := 17, constantValue := 0 }, { name := "T_LONG", type := .int, accessFlags := 25, slot := 18, constantValue := 0 }, { name := "JLA", type := (.object "jdk/internal/access/JavaLangAccess"), accessFlags := 26, slot := 19, constantValue := 0 }, { name := "SOFT_MAX_ARRAY_LENGTH", type := .int, accessFlags := 25, slot := 20, constantValue := 0 }]
  methods := #[k14m0]
  instanceTypes := #[]
  staticTypes := #[(.object "jdk/internal/misc/Unsafe"), .boolean, .int, .int, .int, .int, .int, .int, .int, .int, .int, .int, .int, .int, .int, .int, .int, .int, .int, (.object "jdk/internal/access/JavaLangAccess"), .int]
  resolved := Array.replicate 378 none
  statics := none }

def pool15 : Array CpInfo := pool [(1, u "java/lang/Cloneable"), (0, .class_ 1), (0, u "java/lang/Object"), (0, .class_ 3)] 3

/-- java/lang/Cloneable -/
def k15 : Class := { plain "java/lang/Cloneable" (some 0) with
  accessFlags := 1537
  interfaces := #[]
  cf := some (fileOf pool15 2 #[] #[] 1537 4 #[] #[])
  fields := #[]
  methods := #[]
  instanceTypes := #[]
  staticTypes := #[]
  resolved := Array.replicate 8 none
  statics := none }

/-- the primitive byte -/
def k16 : Class := { plain "byte" none with kind := .primitive 'B', accessFlags := 0x411 }
/-- [B -/
def k17 : Class := { plain "[B" (some 0) with kind := .array 16 .byte, interfaces := #[15, 2], accessFlags := 1041 }

/-- the primitive char -/
def k18 : Class := { plain "char" none with kind := .primitive 'C', accessFlags := 0x411 }
/-- [C -/
def k19 : Class := { plain "[C" (some 0) with kind := .array 18 .char, interfaces := #[15, 2], accessFlags := 1041 }

/-- the primitive int -/
def k20 : Class := { plain "int" none with kind := .primitive 'I', accessFlags := 0x411 }
/-- [I -/
def k21 : Class := { plain "[I" (some 0) with kind := .array 20 .int, interfaces := #[15, 2], accessFlags := 1041 }

def heap : Heap := #[{ cls := 7, slots := #[.long 0, .int 1, .null, .int 0, .null, .int 0, .int 0], vm := .statics 7 },
  { cls := 12, slots := #[.null, .null, .null], vm := .statics 12 }]
def classes : Array Class := #[k0, k1, k2, k3, k4, k5, k6, k7, k8, k9, k10, k11, k12, k13, k14, k15, k16, k17, k18, k19, k20, k21]
def interned : List (Array UInt16 × Addr) := []
def slotsUsed : Nat := 10
def theMethod : MethodId := ⟨1, 2⟩
def args0 : Array Value := #[.int 1, .int 2, .int 3, .int 4, .int 5, .int 6]
def aboutOver (below : List Frame) : State where
  vm := { classes := classes, interned := interned.toArray }
  heap := heap
  slotsUsed := slotsUsed
  threads := #[{ frames := .invoking theMethod args0 :: below }]
def below0 : List Frame := [.native { method := ⟨0, 0⟩, args := #[] }]
def about1 : State := aboutOver below0
def p0 : Program := .bare "" "" ""
def e0 : Env := launch0.env 0 0 0
theorem w_frames : about1.frames = Frame.invoking theMethod args0 :: below0 := rfl
set_option maxRecDepth 65536 in
theorem w_args : argsFit about1.vm theMethod args0 = true := by decide +kernel
set_option maxRecDepth 65536 in
theorem w_heap : heapFits about1 = true := by decide +kernel
set_option maxRecDepth 65536 in
theorem w_runnable : about1.curStatus? = some .runnable := by decide +kernel
set_option maxRecDepth 65536 in
theorem w_alone : about1.alone = true := by decide +kernel
set_option maxRecDepth 65536 in
theorem w_named : about1.methodNamed? x = some theMethod := by decide +kernel
set_option maxRecDepth 65536 in
theorem w_hears : about1.hears theMethod below0 = true := by decide +kernel
set_option maxRecDepth 65536 in
theorem w_ripe : about1.ripe theMethod args0 below0 = true := by decide +kernel
theorem w_running : about1.status = .running := rfl
set_option maxRecDepth 65536 in
theorem w_room : about1.hasRoom e0.platform room_1 = true :=
  launch0.hasRoom_least _ room_1 (by decide +kernel) (by decide +kernel) (by decide +kernel) (by decide +kernel) (by decide +kernel) (by decide +kernel)
theorem allAtoms_all (ts : List Jvm.Cond) (a : Array Jvm.Value) (st : Jvm.State) : (allAtoms ts).before a st = ts.all (fun c => c.before a st) := by
  induction ts with
  | nil => rfl
  | cons c t ih =>
    show (Jvm.Cond.and c (allAtoms t)).before a st = _
    rw [Jvm.Cond.before_and, ih, List.all_cons]
def words1 : List Jvm.Cond := Jvm.Cond.code x code maxLocals ret :: tables_1
/-- a 'code' word, met by the world's own term for the bytes: nothing is compared byte by byte -/
theorem code_word {y : MethodName} {bytes : ByteArray} {mx : Nat} {rt : Option FieldType} {a : Array Value} {s : State} {m : MethodId} {meth : Method} {c : Code} (h1 : s.methodNamed? y = some m) (h2 : s.vm.method? m = some meth) (h3 : meth.code = some c) (h4 : c.code = bytes)
    (h5 : (c.maxLocals == mx && c.exceptionTable.isEmpty && decide (c.maxStack ≤ mostOperands) && decide (meth.sig.returnType = rt) && !meth.locks && decide (parseMethodDescriptor y.desc = some meth.sig)) = true) : (Jvm.Cond.code y bytes mx rt).before a s = true := by
  simp only [Bool.and_eq_true, beq_iff_eq, Bool.not_eq_true', decide_eq_true_eq] at h5
  obtain ⟨⟨⟨⟨⟨g1, g2⟩, g3⟩, g4⟩, g5⟩, g6⟩ := h5
  simp [Cond.before, Cond.holds, Cond.value, h1, h2, h3, h4, g1, g2, g3, g4, g5, g6]
def isCode : Jvm.Cond → Bool
  | .code _ _ _ _ => true
  | _ => false
theorem all_split {L : List Jvm.Cond} {P : Jvm.Cond → Bool} (h1 : L.all (fun c => isCode c || P c) = true) (h2 : ∀ c ∈ L.filter isCode, P c = true) : L.all P = true := by
  refine List.all_eq_true.mpr fun c hc => ?_
  have h := List.all_eq_true.mp h1 c hc
  rcases Bool.eq_false_or_eq_true (isCode c) with hi | hi
  · exact h2 c (List.mem_filter.mpr ⟨hc, hi⟩)
  · simpa [hi] using h
set_option maxRecDepth 65536 in
theorem w_c0 : (Jvm.Cond.code x code maxLocals ret).before args0 about1 = true := code_word (m := ⟨1, 2⟩) (meth := k1m2) (c := k1c2) (by decide +kernel) rfl rfl rfl (by decide +kernel)
set_option maxRecDepth 65536 in
theorem w_c1 : (Jvm.Cond.code ({ cls := "java/lang/String", name := "valueOf", desc := "(C)Ljava/lang/String;" } : Jvm.MethodName) jdk_42_method_139_code (1 : Nat) (Option.some (Jvm.ClassFile.FieldType.object "java/lang/String"))).before args0 about1 = true := code_word (m := ⟨7, 5⟩) (meth := k7m5) (c := k7c5) (by decide +kernel) rfl rfl rfl (by decide +kernel)
set_option maxRecDepth 65536 in
theorem w_c2 : (Jvm.Cond.code ({ cls := "java/lang/StringLatin1", name := "canEncode", desc := "(C)Z" } : Jvm.MethodName) jdk_43_method_3_code (1 : Nat) (Option.some Jvm.ClassFile.FieldType.boolean)).before args0 about1 = true := code_word (m := ⟨8, 2⟩) (meth := k8m2) (c := k8c2) (by decide +kernel) rfl rfl rfl (by decide +kernel)
set_option maxRecDepth 65536 in
theorem w_c3 : (Jvm.Cond.code ({ cls := "java/lang/StringLatin1", name := "toBytes", desc := "(C)[B" } : Jvm.MethodName) jdk_43_method_46_code (1 : Nat) (Option.some (Jvm.ClassFile.FieldType.array Jvm.ClassFile.FieldType.byte))).before args0 about1 = true := code_word (m := ⟨8, 4⟩) (meth := k8m4) (c := k8c4) (by decide +kernel) rfl rfl rfl (by decide +kernel)
set_option maxRecDepth 65536 in
theorem w_c4 : (Jvm.Cond.code ({ cls := "java/lang/String", name := "<init>", desc := "([BB)V" } : Jvm.MethodName) jdk_42_method_151_code (3 : Nat) (Option.none : Option Jvm.ClassFile.FieldType)).before args0 about1 = true := code_word (m := ⟨7, 7⟩) (meth := k7m7) (c := k7c7) (by decide +kernel) rfl rfl rfl (by decide +kernel)
set_option maxRecDepth 65536 in
theorem w_c5 : (Jvm.Cond.code ({ cls := "java/lang/Object", name := "<init>", desc := "()V" } : Jvm.MethodName) object_method_1_code (1 : Nat) (Option.none : Option Jvm.ClassFile.FieldType)).before args0 about1 = true := code_word (m := ⟨0, 0⟩) (meth := k0m0) (c := k0c0) (by decide +kernel) rfl rfl rfl (by decide +kernel)
set_option maxRecDepth 65536 in
theorem w_c6 : (Jvm.Cond.code ({ cls := "com/example/tiny_context/tinycontext/account/AccountsValuePinLaw", name := "str", desc := "(ICCC)Ljava/lang/String;" } : Jvm.MethodName) method_2_code (4 : Nat) (Option.some (Jvm.ClassFile.FieldType.object "java/lang/String"))).before args0 about1 = true := code_word (m := ⟨1, 1⟩) (meth := k1m1) (c := k1c1) (by decide +kernel) rfl rfl rfl (by decide +kernel)
set_option maxRecDepth 65536 in
theorem w_c7 : (Jvm.Cond.code ({ cls := "java/lang/String", name := "<init>", desc := "([C)V" } : Jvm.MethodName) jdk_42_method_3_code (2 : Nat) (Option.none : Option Jvm.ClassFile.FieldType)).before args0 about1 = true := code_word (m := ⟨7, 1⟩) (meth := k7m1) (c := k7c1) (by decide +kernel) rfl rfl rfl (by decide +kernel)
set_option maxRecDepth 65536 in
theorem w_c8 : (Jvm.Cond.code ({ cls := "java/lang/String", name := "<init>", desc := "([CIILjava/lang/Void;)V" } : Jvm.MethodName) jdk_42_method_149_code (6 : Nat) (Option.none : Option Jvm.ClassFile.FieldType)).before args0 about1 = true := code_word (m := ⟨7, 6⟩) (meth := k7m6) (c := k7c6) (by decide +kernel) rfl rfl rfl (by decide +kernel)
set_option maxRecDepth 65536 in
theorem w_c9 : (Jvm.Cond.code ({ cls := "java/lang/StringUTF16", name := "compress", desc := "([CII)[B" } : Jvm.MethodName) jdk_52_method_16_code (6 : Nat) (Option.some (Jvm.ClassFile.FieldType.array Jvm.ClassFile.FieldType.byte))).before args0 about1 = true := code_word (m := ⟨9, 2⟩) (meth := k9m2) (c := k9c2) (by decide +kernel) rfl rfl rfl (by decide +kernel)
set_option maxRecDepth 65536 in
theorem w_c10 : (Jvm.Cond.code ({ cls := "java/lang/StringUTF16", name := "compress", desc := "([CI[BII)I" } : Jvm.MethodName) jdk_52_method_21_code (7 : Nat) (Option.some Jvm.ClassFile.FieldType.int)).before args0 about1 = true := code_word (m := ⟨9, 3⟩) (meth := k9m3) (c := k9c3) (by decide +kernel) rfl rfl rfl (by decide +kernel)
set_option maxRecDepth 65536 in
theorem w_c11 : (Jvm.Cond.code ({ cls := "java/lang/StringUTF16", name := "coderFromArrayLen", desc := "([BI)B" } : Jvm.MethodName) jdk_52_method_15_code (2 : Nat) (Option.some Jvm.ClassFile.FieldType.byte)).before args0 about1 = true := code_word (m := ⟨9, 1⟩) (meth := k9m1) (c := k9c1) (by decide +kernel) rfl rfl rfl (by decide +kernel)
set_option maxRecDepth 65536 in
theorem w_c12 : (Jvm.Cond.code ({ cls := "com/example/tiny_context/tinycontext/Resource", name := "<init>", desc := "(Ljava/lang/String;Ljava/lang/Object;)V" } : Jvm.MethodName) prog_37_method_2_code (3 : Nat) (Option.none : Option Jvm.ClassFile.FieldType)).before args0 about1 = true := code_word (m := ⟨10, 0⟩) (meth := k10m0) (c := k10c0) (by decide +kernel) rfl rfl rfl (by decide +kernel)
set_option maxRecDepth 65536 in
theorem w_c13 : (Jvm.Cond.code ({ cls := "com/example/tiny_context/tinycontext/Resource", name := "<init>", desc := "(Ljava/lang/String;Ljava/lang/Object;Z)V" } : Jvm.MethodName) prog_37_method_3_code (4 : Nat) (Option.none : Option Jvm.ClassFile.FieldType)).before args0 about1 = true := code_word (m := ⟨10, 1⟩) (meth := k10m1) (c := k10c1) (by decide +kernel) rfl rfl rfl (by decide +kernel)
set_option maxRecDepth 65536 in
theorem w_c14 : (Jvm.Cond.code ({ cls := "com/example/tiny_context/tinycontext/Resource", name := "checkId", desc := "(Ljava/lang/String;)Ljava/lang/String;" } : Jvm.MethodName) prog_37_method_8_code (6 : Nat) (Option.some (Jvm.ClassFile.FieldType.object "java/lang/String"))).before args0 about1 = true := code_word (m := ⟨10, 3⟩) (meth := k10m3) (c := k10c3) (by decide +kernel) rfl rfl rfl (by decide +kernel)
set_option maxRecDepth 65536 in
theorem w_c15 : (Jvm.Cond.code ({ cls := "java/util/Objects", name := "requireNonNull", desc := "(Ljava/lang/Object;Ljava/lang/String;)Ljava/lang/Object;" } : Jvm.MethodName) jdk_31_method_11_code (2 : Nat) (Option.some (Jvm.ClassFile.FieldType.object "java/lang/Object"))).before args0 about1 = true := code_word (m := ⟨11, 1⟩) (meth := k11m1) (c := k11c1) (by decide +kernel) rfl rfl rfl (by decide +kernel)
set_option maxRecDepth 65536 in
theorem w_c16 : (Jvm.Cond.code ({ cls := "java/lang/String", name := "length", desc := "()I" } : Jvm.MethodName) jdk_42_method_54_code (1 : Nat) (Option.some Jvm.ClassFile.FieldType.int)).before args0 about1 = true := code_word (m := ⟨7, 2⟩) (meth := k7m2) (c := k7c2) (by decide +kernel) rfl rfl rfl (by decide +kernel)
set_option maxRecDepth 65536 in
theorem w_c17 : (Jvm.Cond.code ({ cls := "java/lang/String", name := "coder", desc := "()B" } : Jvm.MethodName) jdk_42_method_152_code (1 : Nat) (Option.some Jvm.ClassFile.FieldType.byte)).before args0 about1 = true := code_word (m := ⟨7, 8⟩) (meth := k7m8) (c := k7c8) (by decide +kernel) rfl rfl rfl (by decide +kernel)
set_option maxRecDepth 65536 in
theorem w_c18 : (Jvm.Cond.code ({ cls := "java/lang/String", name := "charAt", desc := "(I)C" } : Jvm.MethodName) jdk_42_method_56_code (2 : Nat) (Option.some Jvm.ClassFile.FieldType.char)).before args0 about1 = true := code_word (m := ⟨7, 3⟩) (meth := k7m3) (c := k7c3) (by decide +kernel) rfl rfl rfl (by decide +kernel)
set_option maxRecDepth 65536 in
theorem w_c19 : (Jvm.Cond.code ({ cls := "java/lang/String", name := "isLatin1", desc := "()Z" } : Jvm.MethodName) jdk_42_method_154_code (1 : Nat) (Option.some Jvm.ClassFile.FieldType.boolean)).before args0 about1 = true := code_word (m := ⟨7, 9⟩) (meth := k7m9) (c := k7c9) (by decide +kernel) rfl rfl rfl (by decide +kernel)
set_option maxRecDepth 65536 in
theorem w_c20 : (Jvm.Cond.code ({ cls := "java/lang/StringLatin1", name := "charAt", desc := "([BI)C" } : Jvm.MethodName) jdk_43_method_2_code (2 : Nat) (Option.some Jvm.ClassFile.FieldType.char)).before args0 about1 = true := code_word (m := ⟨8, 1⟩) (meth := k8m1) (c := k8c1) (by decide +kernel) rfl rfl rfl (by decide +kernel)
set_option maxRecDepth 65536 in
theorem w_c21 : (Jvm.Cond.code ({ cls := "java/lang/String", name := "checkIndex", desc := "(II)V" } : Jvm.MethodName) jdk_42_method_155_code (2 : Nat) (Option.none : Option Jvm.ClassFile.FieldType)).before args0 about1 = true := code_word (m := ⟨7, 10⟩) (meth := k7m10) (c := k7c10) (by decide +kernel) rfl rfl rfl (by decide +kernel)
set_option maxRecDepth 65536 in
theorem w_c22 : (Jvm.Cond.code ({ cls := "jdk/internal/util/Preconditions", name := "checkIndex", desc := "(IILjava/util/function/BiFunction;)I" } : Jvm.MethodName) jdk_41_method_11_code (3 : Nat) (Option.some Jvm.ClassFile.FieldType.int)).before args0 about1 = true := code_word (m := ⟨12, 1⟩) (meth := k12m1) (c := k12c1) (by decide +kernel) rfl rfl rfl (by decide +kernel)
set_option maxRecDepth 65536 in
theorem w_c23 : (Jvm.Cond.code ({ cls := "com/example/tiny_context/tinycontext/account/Accounts", name := "value", desc := "(Lcom/example/tiny_context/tinycontext/Resource;Ljava/lang/String;)Ljava/lang/String;" } : Jvm.MethodName) prog_51_method_3_code (4 : Nat) (Option.some (Jvm.ClassFile.FieldType.object "java/lang/String"))).before args0 about1 = true := code_word (m := ⟨13, 1⟩) (meth := k13m1) (c := k13c1) (by decide +kernel) rfl rfl rfl (by decide +kernel)
set_option maxRecDepth 65536 in
theorem w_c24 : (Jvm.Cond.code ({ cls := "com/example/tiny_context/tinycontext/Resource", name := "value", desc := "()Ljava/lang/Object;" } : Jvm.MethodName) prog_37_method_5_code (1 : Nat) (Option.some (Jvm.ClassFile.FieldType.object "java/lang/Object"))).before args0 about1 = true := code_word (m := ⟨10, 2⟩) (meth := k10m2) (c := k10c2) (by decide +kernel) rfl rfl rfl (by decide +kernel)
set_option maxRecDepth 65536 in
theorem w_c25 : (Jvm.Cond.code ({ cls := "java/lang/String", name := "equals", desc := "(Ljava/lang/Object;)Z" } : Jvm.MethodName) jdk_42_method_66_code (3 : Nat) (Option.some Jvm.ClassFile.FieldType.boolean)).before args0 about1 = true := code_word (m := ⟨7, 4⟩) (meth := k7m4) (c := k7c4) (by decide +kernel) rfl rfl rfl (by decide +kernel)
set_option maxRecDepth 65536 in
theorem w_c26 : (Jvm.Cond.code ({ cls := "java/lang/StringLatin1", name := "equals", desc := "([B[B)Z" } : Jvm.MethodName) jdk_43_method_13_code (3 : Nat) (Option.some Jvm.ClassFile.FieldType.boolean)).before args0 about1 = true := code_word (m := ⟨8, 3⟩) (meth := k8m3) (c := k8c3) (by decide +kernel) rfl rfl rfl (by decide +kernel)
def codes1 : List Jvm.Cond := [Jvm.Cond.code x code maxLocals ret, Jvm.Cond.code ({ cls := "java/lang/String", name := "valueOf", desc := "(C)Ljava/lang/String;" } : Jvm.MethodName) jdk_42_method_139_code (1 : Nat) (Option.some (Jvm.ClassFile.FieldType.object "java/lang/String")), Jvm.Cond.code ({ cls := "java/lang/StringLatin1", name := "canEncode", desc := "(C)Z" } : Jvm.MethodName) jdk_43_method_3_code (1 : Nat) (Option.some Jvm.ClassFile.FieldType.boolean), Jvm.Cond.code ({ cls := "java/lang/StringLatin1", name := "toBytes", desc := "(C)[B" } : Jvm.MethodName) jdk_43_method_46_code (1 : Nat) (Option.some (Jvm.ClassFile.FieldType.array Jvm.ClassFile.FieldType.byte)), Jvm.Cond.code ({ cls := "java/lang/String", name := "<init>", desc := "([BB)V" } : Jvm.MethodName) jdk_42_method_151_code (3 : Nat) (Option.none : Option Jvm.ClassFile.FieldType), Jvm.Cond.code ({ cls := "java/lang/Object", name := "<init>", desc := "()V" } : Jvm.MethodName) object_method_1_code (1 : Nat) (Option.none : Option Jvm.ClassFile.FieldType), Jvm.Cond.code ({ cls := "com/example/tiny_context/tinycontext/account/AccountsValuePinLaw", name := "str", desc := "(ICCC)Ljava/lang/String;" } : Jvm.MethodName) method_2_code (4 : Nat) (Option.some (Jvm.ClassFile.FieldType.object "java/lang/String")), Jvm.Cond.code ({ cls := "java/lang/String", name := "<init>", desc := "([C)V" } : Jvm.MethodName) jdk_42_method_3_code (2 : Nat) (Option.none : Option Jvm.ClassFile.FieldType), Jvm.Cond.code ({ cls := "java/lang/String", name := "<init>", desc := "([CIILjava/lang/Void;)V" } : Jvm.MethodName) jdk_42_method_149_code (6 : Nat) (Option.none : Option Jvm.ClassFile.FieldType), Jvm.Cond.code ({ cls := "java/lang/StringUTF16", name := "compress", desc := "([CII)[B" } : Jvm.MethodName) jdk_52_method_16_code (6 : Nat) (Option.some (Jvm.ClassFile.FieldType.array Jvm.ClassFile.FieldType.byte)), Jvm.Cond.code ({ cls := "java/lang/StringUTF16", name := "compress", desc := "([CI[BII)I" } : Jvm.MethodName) jdk_52_method_21_code (7 : Nat) (Option.some Jvm.ClassFile.FieldType.int), Jvm.Cond.code ({ cls := "java/lang/StringUTF16", name := "coderFromArrayLen", desc := "([BI)B" } : Jvm.MethodName) jdk_52_method_15_code (2 : Nat) (Option.some Jvm.ClassFile.FieldType.byte), Jvm.Cond.code ({ cls := "com/example/tiny_context/tinycontext/Resource", name := "<init>", desc := "(Ljava/lang/String;Ljava/lang/Object;)V" } : Jvm.MethodName) prog_37_method_2_code (3 : Nat) (Option.none : Option Jvm.ClassFile.FieldType), Jvm.Cond.code ({ cls := "com/example/tiny_context/tinycontext/Resource", name := "<init>", desc := "(Ljava/lang/String;Ljava/lang/Object;Z)V" } : Jvm.MethodName) prog_37_method_3_code (4 : Nat) (Option.none : Option Jvm.ClassFile.FieldType), Jvm.Cond.code ({ cls := "com/example/tiny_context/tinycontext/Resource", name := "checkId", desc := "(Ljava/lang/String;)Ljava/lang/String;" } : Jvm.MethodName) prog_37_method_8_code (6 : Nat) (Option.some (Jvm.ClassFile.FieldType.object "java/lang/String")), Jvm.Cond.code ({ cls := "java/util/Objects", name := "requireNonNull", desc := "(Ljava/lang/Object;Ljava/lang/String;)Ljava/lang/Object;" } : Jvm.MethodName) jdk_31_method_11_code (2 : Nat) (Option.some (Jvm.ClassFile.FieldType.object "java/lang/Object")), Jvm.Cond.code ({ cls := "java/lang/String", name := "length", desc := "()I" } : Jvm.MethodName) jdk_42_method_54_code (1 : Nat) (Option.some Jvm.ClassFile.FieldType.int), Jvm.Cond.code ({ cls := "java/lang/String", name := "coder", desc := "()B" } : Jvm.MethodName) jdk_42_method_152_code (1 : Nat) (Option.some Jvm.ClassFile.FieldType.byte), Jvm.Cond.code ({ cls := "java/lang/String", name := "charAt", desc := "(I)C" } : Jvm.MethodName) jdk_42_method_56_code (2 : Nat) (Option.some Jvm.ClassFile.FieldType.char), Jvm.Cond.code ({ cls := "java/lang/String", name := "isLatin1", desc := "()Z" } : Jvm.MethodName) jdk_42_method_154_code (1 : Nat) (Option.some Jvm.ClassFile.FieldType.boolean), Jvm.Cond.code ({ cls := "java/lang/StringLatin1", name := "charAt", desc := "([BI)C" } : Jvm.MethodName) jdk_43_method_2_code (2 : Nat) (Option.some Jvm.ClassFile.FieldType.char), Jvm.Cond.code ({ cls := "java/lang/String", name := "checkIndex", desc := "(II)V" } : Jvm.MethodName) jdk_42_method_155_code (2 : Nat) (Option.none : Option Jvm.ClassFile.FieldType), Jvm.Cond.code ({ cls := "jdk/internal/util/Preconditions", name := "checkIndex", desc := "(IILjava/util/function/BiFunction;)I" } : Jvm.MethodName) jdk_41_method_11_code (3 : Nat) (Option.some Jvm.ClassFile.FieldType.int), Jvm.Cond.code ({ cls := "com/example/tiny_context/tinycontext/account/Accounts", name := "value", desc := "(Lcom/example/tiny_context/tinycontext/Resource;Ljava/lang/String;)Ljava/lang/String;" } : Jvm.MethodName) prog_51_method_3_code (4 : Nat) (Option.some (Jvm.ClassFile.FieldType.object "java/lang/String")), Jvm.Cond.code ({ cls := "com/example/tiny_context/tinycontext/Resource", name := "value", desc := "()Ljava/lang/Object;" } : Jvm.MethodName) prog_37_method_5_code (1 : Nat) (Option.some (Jvm.ClassFile.FieldType.object "java/lang/Object")), Jvm.Cond.code ({ cls := "java/lang/String", name := "equals", desc := "(Ljava/lang/Object;)Z" } : Jvm.MethodName) jdk_42_method_66_code (3 : Nat) (Option.some Jvm.ClassFile.FieldType.boolean), Jvm.Cond.code ({ cls := "java/lang/StringLatin1", name := "equals", desc := "([B[B)Z" } : Jvm.MethodName) jdk_43_method_13_code (3 : Nat) (Option.some Jvm.ClassFile.FieldType.boolean)]
set_option maxRecDepth 65536 in
theorem codes_eq : words1.filter isCode = codes1 := rfl
theorem w_codes : ∀ c ∈ words1.filter isCode, c.before args0 about1 = true := by
  rw [codes_eq]
  intro c hc
  simp only [codes1, List.mem_cons, List.not_mem_nil, or_false] at hc
  rcases hc with rfl | rfl | rfl | rfl | rfl | rfl | rfl | rfl | rfl | rfl | rfl | rfl | rfl | rfl | rfl | rfl | rfl | rfl | rfl | rfl | rfl | rfl | rfl | rfl | rfl | rfl | rfl
  · exact w_c0
  · exact w_c1
  · exact w_c2
  · exact w_c3
  · exact w_c4
  · exact w_c5
  · exact w_c6
  · exact w_c7
  · exact w_c8
  · exact w_c9
  · exact w_c10
  · exact w_c11
  · exact w_c12
  · exact w_c13
  · exact w_c14
  · exact w_c15
  · exact w_c16
  · exact w_c17
  · exact w_c18
  · exact w_c19
  · exact w_c20
  · exact w_c21
  · exact w_c22
  · exact w_c23
  · exact w_c24
  · exact w_c25
  · exact w_c26
set_option maxRecDepth 65536 in
theorem w_t1 : (words1.take 24).all (fun c => isCode c || c.before args0 about1) = true := by decide +kernel
set_option maxRecDepth 65536 in
theorem w_t2 : ((words1.drop 24).take 24).all (fun c => isCode c || c.before args0 about1) = true := by decide +kernel
set_option maxRecDepth 65536 in
theorem w_t3 : (((words1.drop 24).drop 24).take 24).all (fun c => isCode c || c.before args0 about1) = true := by decide +kernel
set_option maxRecDepth 65536 in
theorem w_t4 : ((((words1.drop 24).drop 24).drop 24).take 24).all (fun c => isCode c || c.before args0 about1) = true := by decide +kernel
set_option maxRecDepth 65536 in
theorem w_t5 : (((((words1.drop 24).drop 24).drop 24).drop 24).take 24).all (fun c => isCode c || c.before args0 about1) = true := by decide +kernel
set_option maxRecDepth 65536 in
theorem w_t6 : (((((words1.drop 24).drop 24).drop 24).drop 24).drop 24).all (fun c => isCode c || c.before args0 about1) = true := by decide +kernel
theorem w_tables : (allAtoms (Jvm.Cond.code x code maxLocals ret :: tables_1)).before args0 about1 = true := by
  rw [allAtoms_all]
  show words1.all (fun c => c.before args0 about1) = true
  refine all_split ?_ w_codes
  rw [← List.take_append_drop 24 words1, List.all_append, w_t1, ← List.take_append_drop 24 (words1.drop 24), List.all_append, w_t2, ← List.take_append_drop 24 ((words1.drop 24).drop 24), List.all_append, w_t3, ← List.take_append_drop 24 (((words1.drop 24).drop 24).drop 24), List.all_append, w_t4, ← List.take_append_drop 24 ((((words1.drop 24).drop 24).drop 24).drop 24), List.all_append, w_t5, w_t6]
  rfl
set_option maxRecDepth 65536 in
theorem w_rest : rest_1_c.before args0 about1 = true := by decide +kernel
set_option maxRecDepth 65536 in
theorem w_case : (Jvm.Cond.and given_1 narrow_1).before args0 about1 = true := by decide +kernel
set_option maxRecDepth 65536 in
theorem w_consts : constsHeld consts_1 about1 := Jvm.Lit.constsHeldB_iff.mp (by decide +kernel)
theorem w_applies : (headSpec (Jvm.Cond.code x code maxLocals ret :: tables_1) room_1).applies x e0.platform about1 = true :=
  (Spec.applies_iff w_frames).mpr ⟨w_running, w_runnable, w_alone, w_named, w_hears, w_ripe, w_room, w_tables⟩
theorem atStart : AtStart classFile x code maxLocals ret World_1 tables_1 room_1 Calls_1 rest_1 Pre_1 launch0 p0 e0 about1 theMethod args0 below0 :=
  ⟨lists_1, trivial, launch0.admits_env _ _ _, launch0.least_env, fairChoices_fair.cas, fairChoices_fair.clock, w_frames, w_args, w_heap, w_applies, ⟨w_consts, trivial⟩, w_rest, w_case⟩
end start1
theorem witness_1 : WitnessClaimed_1 := ⟨start1.p0, start1.e0, start1.about1, start1.theMethod, start1.args0, start1.below0, start1.atStart⟩
end Jvm.Pilot.@@N@@
