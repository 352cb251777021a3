import JvmDerived
import JvmDerived.Pilot.@@N@@Statement
import JvmDerived.Pilot.@@N@@Code
set_option linter.unusedVariables false
set_option linter.unusedSimpArgs false
/- laws to paste: Road.backV (cut by pick.py; bodies as the Statement names them) -/
namespace Jvm.Pilot.@@N@@
namespace StrChars
open Jvm Sem ClassFile Op Lib Jvm.Stand Jvm.Free.XT Jvm.Free.ALB Jvm.Free.JM Jvm.Free
open Jvm.Lib.Cold (StaticIs)
/-- a char array whose places are chars -/
def Ch (a : Addr) (A : Cell) (U : State) : Prop := Arr .char a A U ∧ Typed .char A
theorem Ch.mv {a : Addr} {A : Cell} {U U' : State} (h : Ch a A U) (hal : U.vm.Alike U'.vm) (hh : U'.heap = U.heap) : Ch a A U' := ⟨h.1.mv hal hh, h.2⟩
theorem Ch.keep {a : Addr} {A : Cell} {U U' : State} (h : Ch a A U) (hal : U.vm.Alike U'.vm) (hk : U'.heap[a]? = some A) : Ch a A U' := ⟨h.1.keep hal hk, h.2⟩
/-- what place i of a char[]'s cell holds -/
def cv (A : Cell) (i : Nat) : Int32 := match A.slots[i]? with | some (.int x) => x | _ => 0
theorem Ch.get {a : Addr} {A : Cell} {U : State} (h : Ch a A U) {i : Nat} (hi : i < A.slots.size) : A.slots[i]? = some (.int (cv A i)) := by
  have e := Array.getElem?_eq_getElem hi
  have f := h.2 i _ e
  unfold cv; rw [e]
  generalize A.slots[i] = v at f
  cases v <;> simp [fits] at f ⊢
/-- the byte that i2b leaves of a char -/
def lo8 (x : Int32) : Int32 := x.toInt8.toInt32
theorem fits_lo8 (y : Int32) : fits .byte (.int (lo8 y)) = true := by
  have h1 := y.toInt8.le_toInt
  have h2 := y.toInt8.toInt_lt
  simp only [lo8, fits, Bool.and_eq_true, decide_eq_true_eq, Int32.le_iff_toInt_le, Int8.toInt_toInt32, show (-128 : Int32).toInt = -128 from by decide, show (127 : Int32).toInt = 127 from by decide]
  omega
/-- A' is A but that each place j of lo .. hi - 1 holds f j -/
def Laid (A A' : Cell) (lo hi : Nat) (f : Nat → Value) : Prop := A'.cls = A.cls ∧ A'.vm = A.vm ∧ A'.slots.size = A.slots.size ∧ ∀ i, A'.slots[i]? = if lo ≤ i ∧ i < hi then some (f i) else A.slots[i]?
theorem Laid.zero (A : Cell) (lo : Nat) (f : Nat → Value) : Laid A A lo (lo + 0) f := ⟨rfl, rfl, rfl, fun i => by rw [if_neg (by omega)]⟩
theorem Laid.step {A Ak : Cell} {lo k : Nat} {f : Nat → Value} {v : Value} (h : Laid A Ak lo k f) (hlo : lo ≤ k) (hk : k < Ak.slots.size) (hv : v = f k) : Laid A (Ak.setSlot k v) lo (k + 1) f := by
  refine ⟨h.1, h.2.1, by simpa [Cell.setSlot] using h.2.2.1, fun i => ?_⟩
  by_cases e : k = i
  · subst e; rw [Cell.slots_setSlot_self v hk, if_pos (by omega), hv]
  · rw [Cell.slots_setSlot_ne v e, h.2.2.2 i]
    by_cases q : lo ≤ i ∧ i < k
    · rw [if_pos q, if_pos (by omega)]
    · rw [if_neg q, if_neg (by omega)]
def U16 : String := "java/lang/StringUTF16"
namespace Cmp5
def yN : MethodName := ⟨"java/lang/StringUTF16", "compress", "([CI[BII)I"⟩
abbrev yB : ByteArray := jdk_52_method_21_code
theorem d0 : decode yB 0 = .ok (.iconst 0, 1) := by decide +kernel
theorem d1 : decode yB 1 = .ok (.istore 5, 2) := by decide +kernel
theorem d3 : decode yB 3 = .ok (.iload 5, 2) := by decide +kernel
theorem d5 : decode yB 5 = .ok (.iload 4, 2) := by decide +kernel
theorem d7 : decode yB 7 = .ok (.if_icmp (.ge) 37, 3) := by decide +kernel
theorem d10 : decode yB 10 = .ok (.aload_n 0, 1) := by decide +kernel
theorem d11 : decode yB 11 = .ok (.iload_n 1, 1) := by decide +kernel
theorem d12 : decode yB 12 = .ok (.caload, 1) := by decide +kernel
theorem d13 : decode yB 13 = .ok (.istore 6, 2) := by decide +kernel
theorem d15 : decode yB 15 = .ok (.iload 6, 2) := by decide +kernel
theorem d17 : decode yB 17 = .ok (.sipush 255, 3) := by decide +kernel
theorem d20 : decode yB 20 = .ok (.if_icmp (.le) 6, 3) := by decide +kernel
theorem d26 : decode yB 26 = .ok (.aload_n 2, 1) := by decide +kernel
theorem d27 : decode yB 27 = .ok (.iload_n 3, 1) := by decide +kernel
theorem d28 : decode yB 28 = .ok (.iload 6, 2) := by decide +kernel
theorem d30 : decode yB 30 = .ok (.i2b, 1) := by decide +kernel
theorem d31 : decode yB 31 = .ok (.bastore, 1) := by decide +kernel
theorem d32 : decode yB 32 = .ok (.iinc 1 1, 3) := by decide +kernel
theorem d35 : decode yB 35 = .ok (.iinc 3 1, 3) := by decide +kernel
theorem d38 : decode yB 38 = .ok (.iinc 5 1, 3) := by decide +kernel
theorem d41 : decode yB 41 = .ok (.goto (-38), 3) := by decide +kernel
theorem d44 : decode yB 44 = .ok (.iload 4, 2) := by decide +kernel
theorem d46 : decode yB 46 = .ok (.ireturn, 1) := by decide +kernel
def site : List Cond := []
def tab : Cond := tabOf yN yB 7 (some .int) site
def P (b : Addr) (A : Cell) (d : Addr) (B : Cell) (o q len : Nat) (args : Array Value) (s : State) : Prop := args = #[.ref b, .int (Int32.ofNat o), .ref d, .int (Int32.ofNat q), .int (Int32.ofNat len)] ∧ Ch b A s ∧ Arr .byte d B s ∧ b ≠ d ∧ o + len ≤ A.slots.size ∧ q + len ≤ B.slots.size ∧ ∀ i, i < len → ¬ 255 < cv A (o + i)
def E (b : Addr) (A : Cell) (d : Addr) (B : Cell) (o q len : Nat) (r : Option Value) (s u : State) : Prop := r = some (.int (Int32.ofNat len)) ∧ ∃ B', Put d B' s u ∧ Laid B B' q (q + len) (fun j => Value.int (lo8 (cv A (o + (j - q)))))
/-- no char of the range above 255: len; the places written hold each char's low byte -/
theorem law (l : Launch) (b : Addr) (A : Cell) (d : Addr) (B : Cell) (o q len : Nat) : Law l yN 5 5 0 0 yB 7 (some .int) site (P b A d B o q len) (E b A d B o q len) (copyLocs d q len) 0 0 := by
  refine Law.of_walk (plainFor_of_name (by decide +kernel)) (by decide +kernel) (by decide +kernel) (by decide) (fun _ _ h => by rw [h.1]; rfl) (fun _ U U' hal hh h => ⟨h.1, h.2.1.mv hal hh, h.2.2.1.mv hal hh, h.2.2.2⟩) (fun r U U' V V' h1 hal h2 h => ⟨h.1, h.2.elim fun B' q => ⟨B', q.1.mv h1 h2, q.2⟩⟩) ?_
  intro p e s m args below meth c s₁ X0 hexec hbytes hml hret hlk hnm hown hh0 W hP
  obtain ⟨rfl, hA, hB, hne, l1, l2, hp⟩ := hP
  have c1 : Steps p.tables e below (s₁.setTop (entryFrame m #[.ref b, .int (Int32.ofNat o), .ref d, .int (Int32.ofNat q), .int (Int32.ofNat len)] 7)) (s₁.setTop (mkF m 0 #[.val (.ref b), .val (.int (Int32.ofNat o)), .val (.ref d), .val (.int (Int32.ofNat q)), .val (.int (Int32.ofNat len)), .unset, .unset] [])) := entry rfl
  have hA0 := hA.1.mv X0.warmed.alike hh0
  have hB0 := hB.mv X0.warmed.alike hh0
  have a31 := hA.1.2.2.2
  have c2 : Steps p.tables e below (s₁.setTop (entryFrame m #[.ref b, .int (Int32.ofNat o), .ref d, .int (Int32.ofNat q), .int (Int32.ofNat len)] 7)) (s₁.setTop (mkF m 3 #[.val (.ref b), .val (.int (Int32.ofNat o)), .val (.ref d), .val (.int (Int32.ofNat q)), .val (.int (Int32.ofNat len)), .val (.int 0), .unset] [])) := c1.trans (by
    refine iconstV X0.here hexec rfl 0 (hb hbytes d0) (by decide) ?_
    refine XS.istore X0.here hexec rfl (hb hbytes d1) rfl rfl ?_
    exact Steps.refl _)
  have loop : ∀ (r i : Nat), i + r = len → ∀ (z : Slot), (z = .unset ∨ ∃ w, z = .val w ∧ w.category = 1) → ∀ (Tl : State) (Bk : Cell), Stand p l e { frames := 0, locals := 0, cells := 0, slots := 0 } s m #[.ref b, .int (Int32.ofNat o), .ref d, .int (Int32.ofNat q), .int (Int32.ofNat len)] below meth c Tl ([] ++ copyLocs d q i) 0 0 → Put d Bk s₁ Tl → Laid B Bk q (q + i) (fun j => Value.int (lo8 (cv A (o + (j - q))))) →
      Steps p.tables e below (s₁.setTop (entryFrame m #[.ref b, .int (Int32.ofNat o), .ref d, .int (Int32.ofNat q), .int (Int32.ofNat len)] 7)) (Tl.setTop (mkF m 3 #[.val (.ref b), .val (.int (Int32.ofNat (o + i))), .val (.ref d), .val (.int (Int32.ofNat (q + i))), .val (.int (Int32.ofNat len)), .val (.int (Int32.ofNat i)), z] [])) → ∃ (T' : State) (B' : Cell) (z' : Slot), Stand p l e { frames := 0, locals := 0, cells := 0, slots := 0 } s m #[.ref b, .int (Int32.ofNat o), .ref d, .int (Int32.ofNat q), .int (Int32.ofNat len)] below meth c T' ([] ++ copyLocs d q len) 0 0 ∧ Put d B' s₁ T' ∧ Laid B B' q (q + len) (fun j => Value.int (lo8 (cv A (o + (j - q))))) ∧
      Steps p.tables e below (s₁.setTop (entryFrame m #[.ref b, .int (Int32.ofNat o), .ref d, .int (Int32.ofNat q), .int (Int32.ofNat len)] 7)) (T'.setTop (mkF m 3 #[.val (.ref b), .val (.int (Int32.ofNat (o + len))), .val (.ref d), .val (.int (Int32.ofNat (q + len))), .val (.int (Int32.ofNat len)), .val (.int (Int32.ofNat len)), z'] [])) := by
    intro r
    induction r with
    | zero =>
      intro i hi z hz Tl Bk Xl pl fl cl
      have hil : i = len := by omega
      rw [hil] at Xl fl cl
      exact ⟨Tl, Bk, z, Xl, pl, fl, cl⟩
    | succ r ih =>
      intro i hi z hz Tl Bk Xl pl fl cl
      have all := X0.warmed.alike.symm.trans Xl.warmed.alike
      have hAl := hA0.keep all (pl.other hne hA0.1)
      have hBk := hB0.like all pl.1 fl.1 fl.2.1 fl.2.2.1
      have hlt : q + i < Bk.slots.size := by rw [fl.2.2.1]; omega
      have c3 : Steps p.tables e below (s₁.setTop (entryFrame m #[.ref b, .int (Int32.ofNat o), .ref d, .int (Int32.ofNat q), .int (Int32.ofNat len)] 7)) (Tl.setTop (mkF m 12 #[.val (.ref b), .val (.int (Int32.ofNat (o + i))), .val (.ref d), .val (.int (Int32.ofNat (q + i))), .val (.int (Int32.ofNat len)), .val (.int (Int32.ofNat i)), z] [.int (Int32.ofNat (o + i)), .ref b])) := cl.trans (by
        refine XS.iload Xl.here hexec rfl (hb hbytes d3) rfl ?_
        refine XS.iload Xl.here hexec rfl (hb hbytes d5) rfl ?_
        refine XS.icmpNo Xl.here hexec rfl (hb hbytes d7) rfl (ii_ge_f (lt32 (by omega) (by omega))) ?_
        refine XS.aloadN Xl.here hexec rfl (hb hbytes d10) rfl rfl ?_
        refine XS.iloadN Xl.here hexec rfl (hb hbytes d11) rfl ?_
        exact Steps.refl _)
      have c4 : Steps p.tables e below (s₁.setTop (entryFrame m #[.ref b, .int (Int32.ofNat o), .ref d, .int (Int32.ofNat q), .int (Int32.ofNat len)] 7)) (Tl.setTop (mkF m 13 #[.val (.ref b), .val (.int (Int32.ofNat (o + i))), .val (.ref d), .val (.int (Int32.ofNat (q + i))), .val (.int (Int32.ofNat len)), .val (.int (Int32.ofNat i)), z] [.int (cv A (o + i))])) := c3.trans (by
        refine Xl.aget hexec hAl rfl (hA.get (i := o + i) (by omega)) rfl rfl (hb hbytes d12) ?_
        exact Steps.refl _)
      have c5 : Steps p.tables e below (s₁.setTop (entryFrame m #[.ref b, .int (Int32.ofNat o), .ref d, .int (Int32.ofNat q), .int (Int32.ofNat len)] 7)) (Tl.setTop (mkF m 15 #[.val (.ref b), .val (.int (Int32.ofNat (o + i))), .val (.ref d), .val (.int (Int32.ofNat (q + i))), .val (.int (Int32.ofNat len)), .val (.int (Int32.ofNat i)), .val (.int (cv A (o + i)))] [])) := c4.trans (by
        refine XS.istoreS Xl.here hexec rfl (hb hbytes d13) rfl rfl hz ?_
        exact Steps.refl _)
      have c6 : Steps p.tables e below (s₁.setTop (entryFrame m #[.ref b, .int (Int32.ofNat o), .ref d, .int (Int32.ofNat q), .int (Int32.ofNat len)] 7)) (Tl.setTop (mkF m 31 #[.val (.ref b), .val (.int (Int32.ofNat (o + i))), .val (.ref d), .val (.int (Int32.ofNat (q + i))), .val (.int (Int32.ofNat len)), .val (.int (Int32.ofNat i)), .val (.int (cv A (o + i)))] [.int (lo8 (cv A (o + i))), .int (Int32.ofNat (q + i)), .ref d])) := c5.trans (by
        refine XS.iload Xl.here hexec rfl (hb hbytes d15) rfl ?_
        refine sipushV Xl.here hexec rfl 255 (hb hbytes d17) (by decide) ?_
        refine XS.icmpYes Xl.here hexec rfl (pc0 := 20) rfl (hb hbytes d20) rfl (ii_le_t (hp i (by omega))) (by decide) rfl ?_
        refine XS.aloadN Xl.here hexec rfl (hb hbytes d26) rfl rfl ?_
        refine XS.iloadN Xl.here hexec rfl (hb hbytes d27) rfl ?_
        refine XS.iload Xl.here hexec rfl (hb hbytes d28) rfl ?_
        refine i2b Xl.here hexec rfl (hb hbytes d30) rfl ?_
        exact Steps.refl _)
      obtain ⟨T7, X7, p7, st7⟩ := Xl.aput hexec hBk rfl hlt rfl (fits_lo8 (cv A (o + i))) (g := (mkF m 31 #[.val (.ref b), .val (.int (Int32.ofNat (o + i))), .val (.ref d), .val (.int (Int32.ofNat (q + i))), .val (.int (Int32.ofNat len)), .val (.int (Int32.ofNat i)), .val (.int (cv A (o + i)))] [.int (lo8 (cv A (o + i))), .int (Int32.ofNat (q + i)), .ref d])) rfl (rest := []) rfl (hb hbytes d31)
      have c8 : Steps p.tables e below (s₁.setTop (entryFrame m #[.ref b, .int (Int32.ofNat o), .ref d, .int (Int32.ofNat q), .int (Int32.ofNat len)] 7)) (T7.setTop (mkF m 32 #[.val (.ref b), .val (.int (Int32.ofNat (o + i))), .val (.ref d), .val (.int (Int32.ofNat (q + i))), .val (.int (Int32.ofNat len)), .val (.int (Int32.ofNat i)), .val (.int (cv A (o + i)))] [])) := c6.trans (st7 _ (Steps.refl _))
      have c9 : Steps p.tables e below (s₁.setTop (entryFrame m #[.ref b, .int (Int32.ofNat o), .ref d, .int (Int32.ofNat q), .int (Int32.ofNat len)] 7)) (T7.setTop (mkF m 3 #[.val (.ref b), .val (.int (Int32.ofNat (o + i) + 1)), .val (.ref d), .val (.int (Int32.ofNat (q + i) + 1)), .val (.int (Int32.ofNat len)), .val (.int (Int32.ofNat i + 1)), .val (.int (cv A (o + i)))] [])) := c8.trans (by
        refine iincV X7.here hexec rfl 1 (hb hbytes d32) (by decide) rfl rfl ?_
        refine iincV X7.here hexec rfl 1 (hb hbytes d35) (by decide) rfl rfl ?_
        refine iincV X7.here hexec rfl 1 (hb hbytes d38) (by decide) rfl rfl ?_
        refine XS.goto X7.here hexec rfl (pc0 := 41) rfl (hb hbytes d41) (by decide) rfl ?_
        exact Steps.refl _)
      have c10 : Steps p.tables e below (s₁.setTop (entryFrame m #[.ref b, .int (Int32.ofNat o), .ref d, .int (Int32.ofNat q), .int (Int32.ofNat len)] 7)) (T7.setTop (mkF m 3 #[.val (.ref b), .val (.int (Int32.ofNat (o + (i + 1)))), .val (.ref d), .val (.int (Int32.ofNat (q + (i + 1)))), .val (.int (Int32.ofNat len)), .val (.int (Int32.ofNat (i + 1))), .val (.int (cv A (o + i)))] [])) := by
        have := c9
        rw [succ32, succ32, succ32] at this
        exact this
      exact ih (i + 1) (by omega) _ (Or.inr ⟨_, rfl, rfl⟩) T7 _ (by rw [copyLocs_step, ← List.append_assoc]; exact X7) (pl.trans p7) (fl.step (by omega) hlt (by simp)) c10
  obtain ⟨T9, B9, z9, X9, p9, f9, g9⟩ := loop len 0 (by omega) .unset (Or.inl rfl) s₁ B (by simpa [copyLocs] using X0) ⟨hB0.1, fun _ _ => rfl, rfl⟩ (Laid.zero _ _ _) c2
  have c11 : Steps p.tables e below (s₁.setTop (entryFrame m #[.ref b, .int (Int32.ofNat o), .ref d, .int (Int32.ofNat q), .int (Int32.ofNat len)] 7)) (T9.setTop (mkF m 46 #[.val (.ref b), .val (.int (Int32.ofNat (o + len))), .val (.ref d), .val (.int (Int32.ofNat (q + len))), .val (.int (Int32.ofNat len)), .val (.int (Int32.ofNat len)), z9] [.int (Int32.ofNat len)])) := g9.trans (by
    refine XS.iload X9.here hexec rfl (hb hbytes d3) rfl ?_
    refine XS.iload X9.here hexec rfl (hb hbytes d5) rfl ?_
    refine XS.icmpYes X9.here hexec rfl (pc0 := 7) rfl (hb hbytes d7) rfl (ii_ge_t (nlt32 (by omega) (Nat.le_refl _))) (by decide) rfl ?_
    refine XS.iload X9.here hexec rfl (hb hbytes d44) rfl ?_
    exact Steps.refl _)
  exact ⟨T9, some (.int (Int32.ofNat len)), _, _, _, X9, by simp, rfl, rfl, (fun h => by cases h), ⟨rfl, B9, p9.from hh0, f9⟩, fun fs hl => c11.trans (X9.ireturnOut hexec hret rfl (Or.inl rfl) (hb hbytes d46) hl)⟩
end Cmp5
namespace Cmp3
def yN : MethodName := ⟨"java/lang/StringUTF16", "compress", "([CII)[B"⟩
abbrev yB : ByteArray := jdk_52_method_16_code
theorem d0 : decode yB 0 = .ok (.iload_n 2, 1) := by decide +kernel
theorem d1 : decode yB 1 = .ok (.newarray .byte, 2) := by decide +kernel
theorem d3 : decode yB 3 = .ok (.astore_n 3, 1) := by decide +kernel
theorem d4 : decode yB 4 = .ok (.aload_n 0, 1) := by decide +kernel
theorem d5 : decode yB 5 = .ok (.iload_n 1, 1) := by decide +kernel
theorem d6 : decode yB 6 = .ok (.aload_n 3, 1) := by decide +kernel
theorem d7 : decode yB 7 = .ok (.iconst 0, 1) := by decide +kernel
theorem d8 : decode yB 8 = .ok (.iload_n 2, 1) := by decide +kernel
theorem d9 : decode yB 9 = .ok (.invokestatic 115, 3) := by decide +kernel
theorem d12 : decode yB 12 = .ok (.istore 4, 2) := by decide +kernel
theorem d14 : decode yB 14 = .ok (.iload 4, 2) := by decide +kernel
theorem d16 : decode yB 16 = .ok (.iload_n 2, 1) := by decide +kernel
theorem d17 : decode yB 17 = .ok (.if_icmp (.eq) 40, 3) := by decide +kernel
theorem d57 : decode yB 57 = .ok (.aload_n 3, 1) := by decide +kernel
theorem d58 : decode yB 58 = .ok (.areturn, 1) := by decide +kernel
def site : List Cond := [.arrayClass .byte, Cmp5.tab] ++ staticW U16 115 Cmp5.yN
def tab : Cond := tabOf yN yB 6 (some (.array .byte)) site
def P (b : Addr) (A : Cell) (o len : Nat) (args : Array Value) (s : State) : Prop := args = #[.ref b, .int (Int32.ofNat o), .int (Int32.ofNat len)] ∧ Ch b A s ∧ o + len ≤ A.slots.size ∧ len ≤ 536870912 ∧ ∀ i, i < len → ¬ 255 < cv A (o + i)
def E (b : Addr) (A : Cell) (o len : Nat) (r : Option Value) (s u : State) : Prop := NewArr .byte "[B" len (fun j => .int (lo8 (cv A (o + j)))) r s u ∧ u.heap.size = s.heap.size + 1
/-- no char of the range above 255: a new byte[] of their low bytes -/
theorem law (l : Launch) (b : Addr) (A : Cell) (o len : Nat) : Law l yN 3 3 1 18 yB 6 (some (.array .byte)) site (P b A o len) (E b A o len) [] 1 len := by
  refine Law.of_walk (plainFor_of_name (by decide +kernel)) (by decide +kernel) (by decide +kernel) (by decide) (fun _ _ h => by rw [h.1]; rfl) (fun _ U U' hal hh h => ⟨h.1, h.2.1.mv hal hh, h.2.2⟩) (fun r U U' V V' h1 hal h2 h => ⟨NewArr.mv r U U' V V' h1 hal h2 h.1, by rw [h1, h2]; exact h.2⟩) ?_
  intro p e s m args below meth c s₁ X0 hexec hbytes hml hret hlk hnm hown hh0 W hP
  obtain ⟨rfl, hA, l1, l2, hp⟩ := hP
  have a31 := hA.1.2.2.2
  have c1 : Steps p.tables e below (s₁.setTop (entryFrame m #[.ref b, .int (Int32.ofNat o), .int (Int32.ofNat len)] 6)) (s₁.setTop (mkF m 0 #[.val (.ref b), .val (.int (Int32.ofNat o)), .val (.int (Int32.ofNat len)), .unset, .unset, .unset] [])) := entry rfl
  have c2 : Steps p.tables e below (s₁.setTop (entryFrame m #[.ref b, .int (Int32.ofNat o), .int (Int32.ofNat len)] 6)) (s₁.setTop (mkF m 1 #[.val (.ref b), .val (.int (Int32.ofNat o)), .val (.int (Int32.ofNat len)), .unset, .unset, .unset] [.int (Int32.ofNat len)])) := c1.trans (by
    refine XS.iloadN X0.here hexec rfl (hb hbytes d0) rfl ?_
    exact Steps.refl _)
  obtain ⟨T3, B3, X3, ba3, bs3, bv3, bh3, bf3, st3⟩ := X0.anew hexec (atype := .byte) (wk W (.arrayClass .byte)) rfl (by show len * 1 ≤ _; omega) (by omega) (g := (mkF m 1 #[.val (.ref b), .val (.int (Int32.ofNat o)), .val (.int (Int32.ofNat len)), .unset, .unset, .unset] [.int (Int32.ofNat len)])) rfl (hb hbytes d1) (rest := []) rfl (Nat.le_refl _) (by show 0 + len ≤ len; omega)
  rw [hh0] at ba3 st3
  have kp3 : XT.Kept s T3 := (XT.Kept.of_eq hh0).push bh3
  have hA3 := hA.keep X3.warmed.alike (kp3 _ _ hA.1.1)
  have hne : b ≠ s.heap.size := hA.1.ne
  have c4 : Steps p.tables e below (s₁.setTop (entryFrame m #[.ref b, .int (Int32.ofNat o), .int (Int32.ofNat len)] 6)) (T3.setTop (mkF m 3 #[.val (.ref b), .val (.int (Int32.ofNat o)), .val (.int (Int32.ofNat len)), .unset, .unset, .unset] [.ref s.heap.size])) := c2.trans (st3 _ (Steps.refl _))
  have c5 : Steps p.tables e below (s₁.setTop (entryFrame m #[.ref b, .int (Int32.ofNat o), .int (Int32.ofNat len)] 6)) (T3.setTop (mkF m 9 #[.val (.ref b), .val (.int (Int32.ofNat o)), .val (.int (Int32.ofNat len)), .val (.ref s.heap.size), .unset, .unset] [.int (Int32.ofNat len), .int 0, .ref s.heap.size, .int (Int32.ofNat o), .ref b])) := c4.trans (by
    refine XS.astoreN X3.here hexec rfl (hb hbytes d3) rfl rfl rfl ?_
    refine XS.aloadN X3.here hexec rfl (hb hbytes d4) rfl rfl ?_
    refine XS.iloadN X3.here hexec rfl (hb hbytes d5) rfl ?_
    refine XS.aloadN X3.here hexec rfl (hb hbytes d6) rfl rfl ?_
    refine iconstV X3.here hexec rfl 0 (hb hbytes d7) (by decide) ?_
    refine XS.iloadN X3.here hexec rfl (hb hbytes d8) rfl ?_
    exact Steps.refl _)
  obtain ⟨v6, T6, X6, E6, g6⟩ := X3.callS hexec (Cmp5.law l b A s.heap.size B3 o 0 len) hown (wks W (staticW U16 115 Cmp5.yN)) (wk W Cmp5.tab) (W := 0) (Nat.le_of_ble_eq_true rfl) (Nat.le_of_ble_eq_true rfl) (Nat.le_refl _) (by show 0 + len + 0 ≤ len; omega) (g := (mkF m 9 #[.val (.ref b), .val (.int (Int32.ofNat o)), .val (.int (Int32.ofNat len)), .val (.ref s.heap.size), .unset, .unset] [.int (Int32.ofNat len), .int (Int32.ofNat 0), .ref s.heap.size, .int (Int32.ofNat o), .ref b])) rfl (by rw [hml]; rfl) c5 (argsL := [.ref b, .int (Int32.ofNat o), .ref s.heap.size, .int (Int32.ofNat 0), .int (Int32.ofNat len)]) (rest := []) rfl rfl (by show 2 * 0 + 0 ≤ _; decide) (hb hbytes d9) (⟨rfl, hA3, ba3, hne, l1, by rw [bs3]; simp, hp⟩)
  obtain ⟨rfl, B6, p6, f6⟩ := E6
  have c7 : Steps p.tables e below (s₁.setTop (entryFrame m #[.ref b, .int (Int32.ofNat o), .int (Int32.ofNat len)] 6)) (T6.setTop (mkF m 12 #[.val (.ref b), .val (.int (Int32.ofNat o)), .val (.int (Int32.ofNat len)), .val (.ref s.heap.size), .unset, .unset] [.int (Int32.ofNat len)])) := g6
  have c8 : Steps p.tables e below (s₁.setTop (entryFrame m #[.ref b, .int (Int32.ofNat o), .int (Int32.ofNat len)] 6)) (T6.setTop (mkF m 58 #[.val (.ref b), .val (.int (Int32.ofNat o)), .val (.int (Int32.ofNat len)), .val (.ref s.heap.size), .val (.int (Int32.ofNat len)), .unset] [.ref s.heap.size])) := c7.trans (by
    refine XS.istore X6.here hexec rfl (hb hbytes d12) rfl rfl ?_
    refine XS.iload X6.here hexec rfl (hb hbytes d14) rfl ?_
    refine XS.iloadN X6.here hexec rfl (hb hbytes d16) rfl ?_
    refine XS.icmpYes X6.here hexec rfl (pc0 := 17) rfl (hb hbytes d17) rfl (ii_eq_t rfl) (by decide) rfl ?_
    refine XS.aloadN X6.here hexec rfl (hb hbytes d57) rfl rfl ?_
    exact Steps.refl _)
  have X8 := X6.wide (L' := []) (cells' := 1) (slots' := len) (fun x hx hlt => by
    simp only [List.nil_append, copyLocs, List.mem_map, List.mem_range] at hx
    obtain ⟨i, -, rfl⟩ := hx
    exact absurd hlt (Nat.lt_irrefl _)) (Nat.le_refl _) (by omega)
  exact ⟨T6, some (.ref s.heap.size), _, _, _, X8, rfl, rfl, rfl, (fun h => by cases h), ⟨⟨rfl, B6, ba3.like (X3.warmed.alike.symm.trans X6.warmed.alike) p6.1 f6.1 f6.2.1 f6.2.2.1, f6.2.1.trans bv3, by rw [X6.warmed.alike.findClass, f6.1]; exact bf3, by rw [f6.2.2.1, bs3]; simp, fun j hj => by rw [f6.2.2.2 j, if_pos (by omega)]; rfl, kp3.put p6 (Nat.le_refl _)⟩, by rw [p6.2.2, bh3, hh0]; simp⟩, fun fs hl => c8.trans (X8.areturnOut hexec rfl hret rfl (hb hbytes d58) hl)⟩
end Cmp3
namespace CodL
def yN : MethodName := ⟨"java/lang/StringUTF16", "coderFromArrayLen", "([BI)B"⟩
abbrev yB : ByteArray := jdk_52_method_15_code
theorem d0 : decode yB 0 = .ok (.iload_n 1, 1) := by decide +kernel
theorem d1 : decode yB 1 = .ok (.aload_n 0, 1) := by decide +kernel
theorem d2 : decode yB 2 = .ok (.arraylength, 1) := by decide +kernel
theorem d3 : decode yB 3 = .ok (.isub, 1) := by decide +kernel
theorem d4 : decode yB 4 = .ok (.bipush 31, 2) := by decide +kernel
theorem d6 : decode yB 6 = .ok (.iushr, 1) := by decide +kernel
theorem d7 : decode yB 7 = .ok (.i2b, 1) := by decide +kernel
theorem d8 : decode yB 8 = .ok (.ireturn, 1) := by decide +kernel
def site : List Cond := []
def tab : Cond := tabOf yN yB 2 (some .byte) site
def P (d : Addr) (B : Cell) (args : Array Value) (s : State) : Prop := args = #[.ref d, .int (Int32.ofNat B.slots.size)] ∧ Arr .byte d B s
def E (r : Option Value) (s u : State) : Prop := XT.PureE (some (.int 0)) r s u
/-- an array as long as the number of chars: LATIN1 -/
theorem law (l : Launch) (d : Addr) (B : Cell) : Law l yN 2 2 0 0 yB 2 (some .byte) site (P d B) E [] 0 0 := by
  refine Law.of_walk (plainFor_of_name (by decide +kernel)) (by decide +kernel) (by decide +kernel) (by decide) (fun _ _ h => by rw [h.1]; rfl) (fun _ U U' hal hh h => ⟨h.1, h.2.mv hal hh⟩) (fun r U U' V V' h1 hal h2 h => XT.PureE.mv r U U' V V' h1 hal h2 h) ?_
  intro p e s m args below meth c s₁ X0 hexec hbytes hml hret hlk hnm hown hh0 W hP
  obtain ⟨rfl, hB⟩ := hP
  have hB0 := hB.mv X0.warmed.alike hh0
  have c1 : Steps p.tables e below (s₁.setTop (entryFrame m #[.ref d, .int (Int32.ofNat B.slots.size)] 2)) (s₁.setTop (mkF m 0 #[.val (.ref d), .val (.int (Int32.ofNat B.slots.size))] [])) := entry rfl
  have c2 : Steps p.tables e below (s₁.setTop (entryFrame m #[.ref d, .int (Int32.ofNat B.slots.size)] 2)) (s₁.setTop (mkF m 2 #[.val (.ref d), .val (.int (Int32.ofNat B.slots.size))] [.ref d, .int (Int32.ofNat B.slots.size)])) := c1.trans (by
    refine XS.iloadN X0.here hexec rfl (hb hbytes d0) rfl ?_
    refine XS.aloadN X0.here hexec rfl (hb hbytes d1) rfl rfl ?_
    exact Steps.refl _)
  have c3 : Steps p.tables e below (s₁.setTop (entryFrame m #[.ref d, .int (Int32.ofNat B.slots.size)] 2)) (s₁.setTop (mkF m 8 #[.val (.ref d), .val (.int (Int32.ofNat B.slots.size))] [.int (lo8 (ushr (Int32.ofNat B.slots.size - Int32.ofNat B.slots.size) 31))])) := c2.trans (by
    refine X0.alen hexec hB0 rfl rfl (hb hbytes d2) ?_
    refine XS.isub X0.here hexec rfl (hb hbytes d3) rfl ?_
    refine bipushV X0.here hexec rfl 31 (hb hbytes d4) (by decide) ?_
    refine iushr X0.here hexec rfl (hb hbytes d6) rfl ?_
    refine i2b X0.here hexec rfl (hb hbytes d7) rfl ?_
    exact Steps.refl _)
  have e0 : lo8 (ushr (Int32.ofNat B.slots.size - Int32.ofNat B.slots.size) 31) = 0 := by rw [Int32.sub_self]; decide
  rw [e0] at c3
  exact ⟨s₁, some (.int 0), _, _, _, X0, rfl, rfl, rfl, (fun h => by cases h), ⟨rfl, hh0⟩, fun fs hl => c3.trans (X0.ireturnOut hexec hret rfl (Or.inr (Or.inr (Or.inl rfl))) (hb hbytes d8) hl)⟩
end CodL
/-- the String at a is Latin-1 over a new byte[] (the heap's one new cell): the low bytes of the len chars of A from o on; every cell but a is kept -/
def Got (a : Addr) (D : Cell) (fV fC : Field) (A : Cell) (o len : Nat) (r : Option Value) (s u : State) : Prop := r = none ∧ ∃ D' V : Cell, Blank "java/lang/String" a D' u ∧ Same D D' [fV.slot, fC.slot] ∧ D'.slots[fV.slot]? = some (.ref s.heap.size) ∧ D'.slots[fC.slot]? = some (.int 0) ∧ Arr .byte s.heap.size V u ∧ V.vm = .none ∧ u.vm.findClass "[B" = some V.cls ∧ V.slots.size = len ∧ (∀ j, j < len → V.slots[j]? = some (.int (lo8 (cv A (o + j))))) ∧ (∀ (y : Addr) (c : Cell), y ≠ a → s.heap[y]? = some c → u.heap[y]? = some c) ∧ u.heap.size = s.heap.size + 1
theorem Got.mv {a : Addr} {D A : Cell} {fV fC : Field} {o len : Nat} : ∀ r (U U' V V' : State), U'.heap = U.heap → V.vm.Alike V'.vm → V'.heap = V.heap → Got a D fV fC A o len r U V → Got a D fV fC A o len r U' V' :=
  fun r U U' V V' h1 hal h2 ⟨e0, D', X, a1, a2, a3, a4, a5, a6, a7, a8, a9, a10, a11⟩ => ⟨e0, D', X, a1.mv hal h2, a2, by rw [h1]; exact a3, a4, by rw [h1]; exact a5.mv hal h2, a6, by rw [hal.findClass]; exact a7, a8, a9, by rw [h1, h2]; exact a10, by rw [h1, h2]; exact a11⟩
namespace New4
def yN : MethodName := ⟨"java/lang/String", "<init>", "([CIILjava/lang/Void;)V"⟩
abbrev yB : ByteArray := jdk_42_method_149_code
theorem d0 : decode yB 0 = .ok (.aload_n 0, 1) := by decide +kernel
theorem d1 : decode yB 1 = .ok (.invokespecial 1, 3) := by decide +kernel
theorem d4 : decode yB 4 = .ok (.iload_n 3, 1) := by decide +kernel
theorem d5 : decode yB 5 = .ok (.ifCond (.ne) 22, 3) := by decide +kernel
theorem d27 : decode yB 27 = .ok (.getstatic 38, 3) := by decide +kernel
theorem d30 : decode yB 30 = .ok (.ifCond (.eq) 28, 3) := by decide +kernel
theorem d33 : decode yB 33 = .ok (.aload_n 1, 1) := by decide +kernel
theorem d34 : decode yB 34 = .ok (.iload_n 2, 1) := by decide +kernel
theorem d35 : decode yB 35 = .ok (.iload_n 3, 1) := by decide +kernel
theorem d36 : decode yB 36 = .ok (.invokestatic 177, 3) := by decide +kernel
theorem d39 : decode yB 39 = .ok (.astore 5, 2) := by decide +kernel
theorem d41 : decode yB 41 = .ok (.aload_n 0, 1) := by decide +kernel
theorem d42 : decode yB 42 = .ok (.aload 5, 2) := by decide +kernel
theorem d44 : decode yB 44 = .ok (.iload_n 3, 1) := by decide +kernel
theorem d45 : decode yB 45 = .ok (.invokestatic 47, 3) := by decide +kernel
theorem d48 : decode yB 48 = .ok (.putfield 15, 3) := by decide +kernel
theorem d51 : decode yB 51 = .ok (.aload_n 0, 1) := by decide +kernel
theorem d52 : decode yB 52 = .ok (.aload 5, 2) := by decide +kernel
theorem d54 : decode yB 54 = .ok (.putfield 9, 3) := by decide +kernel
theorem d57 : decode yB 57 = .ok (.return_, 1) := by decide +kernel
def site : List Cond := [.fieldLink "java/lang/String" 38 "java/lang/String" "COMPACT_STRINGS" "Z", Cmp3.tab, CodL.tab, .laysFinal "java/lang/String" "java/lang/String" "value" "[B", .fieldLink "java/lang/String" 9 "java/lang/String" "value" "[B", .laysFinal "java/lang/String" "java/lang/String" "coder" "B", .fieldLink "java/lang/String" 15 "java/lang/String" "coder" "B"] ++ objW "java/lang/String" 1 ++ staticW "java/lang/String" 177 Cmp3.yN ++ staticW "java/lang/String" 47 CodL.yN
def tab : Cond := tabOf yN yB 6 none site
def P (a : Addr) (D : Cell) (fV fC : Field) (b : Addr) (A : Cell) (z : Int32) (o len : Nat) (args : Array Value) (s : State) : Prop := args = #[.ref a, .ref b, .int (Int32.ofNat o), .int (Int32.ofNat len), .null] ∧ Blank "java/lang/String" a D s ∧ Found "java/lang/String" "value" "[B" fV s ∧ Found "java/lang/String" "coder" "B" fC s ∧ Ch b A s ∧ StaticIs s "java/lang/String" "COMPACT_STRINGS" "Z" (.int z) ∧ ¬ z = 0 ∧ 0 < len ∧ o + len ≤ A.slots.size ∧ len ≤ 536870912 ∧ ∀ i, i < len → ¬ 255 < cv A (o + i)
def E (a : Addr) (D : Cell) (fV fC : Field) (A : Cell) (o len : Nat) (r : Option Value) (s u : State) : Prop := Got a D fV fC A o len r s u
/-- len > 0, no char of the range above 255: a Latin-1 String of their low bytes -/
theorem law (l : Launch) (a : Addr) (D : Cell) (fV fC : Field) (b : Addr) (A : Cell) (z : Int32) (o len : Nat) : Law l yN 5 4 2 35 yB 6 none site (P a D fV fC b A z o len) (E a D fV fC A o len) [⟨a, fC.slot⟩, ⟨a, fV.slot⟩] 1 len := by
  refine Law.of_walk (plainFor_of_name (by decide +kernel)) (by decide +kernel) (by decide +kernel) (by decide) (fun _ _ h => by rw [h.1]; rfl) (fun _ U U' hal hh h => ⟨h.1, h.2.1.mv hal hh, h.2.2.1.al hal, h.2.2.2.1.al hal, h.2.2.2.2.1.mv hal hh, h.2.2.2.2.2.1.there hal hh, h.2.2.2.2.2.2⟩) (fun r U U' V V' h1 hal h2 h => Got.mv r U U' V V' h1 hal h2 h) ?_
  intro p e s m args below meth c s₁ X0 hexec hbytes hml hret hlk hnm hown hh0 W hP
  obtain ⟨rfl, hB, f1, f2, hA, s1, hz, l0, l1, l2, hp⟩ := hP
  have a31 := hA.1.2.2.2
  have c1 : Steps p.tables e below (s₁.setTop (entryFrame m #[.ref a, .ref b, .int (Int32.ofNat o), .int (Int32.ofNat len), .null] 6)) (s₁.setTop (mkF m 0 #[.val (.ref a), .val (.ref b), .val (.int (Int32.ofNat o)), .val (.int (Int32.ofNat len)), .val .null, .unset] [])) := entry rfl
  have c2 : Steps p.tables e below (s₁.setTop (entryFrame m #[.ref a, .ref b, .int (Int32.ofNat o), .int (Int32.ofNat len), .null] 6)) (s₁.setTop (mkF m 1 #[.val (.ref a), .val (.ref b), .val (.int (Int32.ofNat o)), .val (.int (Int32.ofNat len)), .val .null, .unset] [.ref a])) := c1.trans (by
    refine XS.aloadN X0.here hexec rfl (hb hbytes d0) rfl rfl ?_
    exact Steps.refl _)
  obtain ⟨T3, X3, q3, st3⟩ := X0.oinit hexec hown (wks W (objW "java/lang/String" 1)) (g := (mkF m 1 #[.val (.ref a), .val (.ref b), .val (.int (Int32.ofNat o)), .val (.int (Int32.ofNat len)), .val .null, .unset] [.ref a])) rfl (by rw [hml]; rfl) (rest := []) rfl (hb hbytes d1) (W := 0) (by show 2 * 0 + 0 ≤ _; decide) (Nat.le_of_ble_eq_true rfl) (Nat.le_of_ble_eq_true rfl)
  have hh3 := q3.trans hh0
  have c4 : Steps p.tables e below (s₁.setTop (entryFrame m #[.ref a, .ref b, .int (Int32.ofNat o), .int (Int32.ofNat len), .null] 6)) (T3.setTop (mkF m 27 #[.val (.ref a), .val (.ref b), .val (.int (Int32.ofNat o)), .val (.int (Int32.ofNat len)), .val .null, .unset] [])) := (c2.trans (st3 _ (Steps.refl _))).trans (by
    refine XS.iloadN X3.here hexec rfl (hb hbytes d4) rfl ?_
    refine XS.ifYes X3.here hexec rfl (pc0 := 5) rfl (hb hbytes d5) rfl (i0_ne_t (nz32 (by omega) l0)) (by decide) rfl ?_
    exact Steps.refl _)
  obtain ⟨T5, X5, q5, st5⟩ := X3.sget hexec hown (wk W (.fieldLink "java/lang/String" 38 "java/lang/String" "COMPACT_STRINGS" "Z")) s1 (fun _ _ h => by rw [hh3]; exact h) (g := (mkF m 27 #[.val (.ref a), .val (.ref b), .val (.int (Int32.ofNat o)), .val (.int (Int32.ofNat len)), .val .null, .unset] [])) rfl (hb hbytes d27)
  have hh5 := q5.trans hh3
  have c6 : Steps p.tables e below (s₁.setTop (entryFrame m #[.ref a, .ref b, .int (Int32.ofNat o), .int (Int32.ofNat len), .null] 6)) (T5.setTop (mkF m 30 #[.val (.ref a), .val (.ref b), .val (.int (Int32.ofNat o)), .val (.int (Int32.ofNat len)), .val .null, .unset] [.int z])) := c4.trans (st5 _ (Steps.refl _))
  have c7 : Steps p.tables e below (s₁.setTop (entryFrame m #[.ref a, .ref b, .int (Int32.ofNat o), .int (Int32.ofNat len), .null] 6)) (T5.setTop (mkF m 36 #[.val (.ref a), .val (.ref b), .val (.int (Int32.ofNat o)), .val (.int (Int32.ofNat len)), .val .null, .unset] [.int (Int32.ofNat len), .int (Int32.ofNat o), .ref b])) := c6.trans (by
    refine XS.ifNo X5.here hexec rfl (hb hbytes d30) rfl (i0_eq_f hz) ?_
    refine XS.aloadN X5.here hexec rfl (hb hbytes d33) rfl rfl ?_
    refine XS.iloadN X5.here hexec rfl (hb hbytes d34) rfl ?_
    refine XS.iloadN X5.here hexec rfl (hb hbytes d35) rfl ?_
    exact Steps.refl _)
  obtain ⟨v8, T8, X8, E8, g8⟩ := X5.callS hexec (Cmp3.law l b A o len) hown (wks W (staticW "java/lang/String" 177 Cmp3.yN)) (wk W Cmp3.tab) (W := 0) (Nat.le_of_ble_eq_true rfl) (Nat.le_of_ble_eq_true rfl) (Nat.le_refl _) (by show 0 + len ≤ len; omega) (g := (mkF m 36 #[.val (.ref a), .val (.ref b), .val (.int (Int32.ofNat o)), .val (.int (Int32.ofNat len)), .val .null, .unset] [.int (Int32.ofNat len), .int (Int32.ofNat o), .ref b])) rfl (by rw [hml]; rfl) c7 (argsL := [.ref b, .int (Int32.ofNat o), .int (Int32.ofNat len)]) (rest := []) rfl rfl (by show 2 * 0 + 0 ≤ _; decide) (hb hbytes d36) (⟨rfl, hA.mv X5.warmed.alike hh5, l1, l2, hp⟩)
  obtain ⟨e8, z8⟩ := E8
  obtain ⟨rfl, N, n1, n2, n3, n4, n5, n6⟩ := NewArr.mv _ T5 s _ _ hh5.symm (Vm.Alike.refl _) rfl e8
  rw [hh5] at z8
  have hB1 := hB.keep X8.warmed.alike (n6 _ _ hB.1)
  have hne : s.heap.size ≠ a := (Nat.ne_of_lt (Array.getElem?_eq_some_iff.mp hB.1).1).symm
  have c9 : Steps p.tables e below (s₁.setTop (entryFrame m #[.ref a, .ref b, .int (Int32.ofNat o), .int (Int32.ofNat len), .null] 6)) (T8.setTop (mkF m 39 #[.val (.ref a), .val (.ref b), .val (.int (Int32.ofNat o)), .val (.int (Int32.ofNat len)), .val .null, .unset] [.ref s.heap.size])) := g8
  have c10 : Steps p.tables e below (s₁.setTop (entryFrame m #[.ref a, .ref b, .int (Int32.ofNat o), .int (Int32.ofNat len), .null] 6)) (T8.setTop (mkF m 45 #[.val (.ref a), .val (.ref b), .val (.int (Int32.ofNat o)), .val (.int (Int32.ofNat len)), .val .null, .val (.ref s.heap.size)] [.int (Int32.ofNat N.slots.size), .ref s.heap.size, .ref a])) := by
    have hc : Steps p.tables e below (s₁.setTop (entryFrame m #[.ref a, .ref b, .int (Int32.ofNat o), .int (Int32.ofNat len), .null] 6)) (T8.setTop (mkF m 45 #[.val (.ref a), .val (.ref b), .val (.int (Int32.ofNat o)), .val (.int (Int32.ofNat len)), .val .null, .val (.ref s.heap.size)] [.int (Int32.ofNat len), .ref s.heap.size, .ref a])) := c9.trans (by
      refine XS.astore X8.here hexec rfl (hb hbytes d39) rfl rfl rfl ?_
      refine XS.aloadN X8.here hexec rfl (hb hbytes d41) rfl rfl ?_
      refine XS.aload X8.here hexec rfl (hb hbytes d42) rfl rfl ?_
      refine XS.iloadN X8.here hexec rfl (hb hbytes d44) rfl ?_
      exact Steps.refl _)
    rw [n4]; exact hc
  obtain ⟨v11, T11, X11, E11, g11⟩ := X8.callS hexec (CodL.law l s.heap.size N) hown (wks W (staticW "java/lang/String" 47 CodL.yN)) (wk W CodL.tab) (W := 1) (Nat.le_of_ble_eq_true rfl) (Nat.le_of_ble_eq_true rfl) (Nat.le_refl _) (by show 0 + len + 0 ≤ len; omega) (g := (mkF m 45 #[.val (.ref a), .val (.ref b), .val (.int (Int32.ofNat o)), .val (.int (Int32.ofNat len)), .val .null, .val (.ref s.heap.size)] [.int (Int32.ofNat N.slots.size), .ref s.heap.size, .ref a])) rfl (by rw [hml]; rfl) c10 (argsL := [.ref s.heap.size, .int (Int32.ofNat N.slots.size)]) (rest := [.ref a]) rfl rfl (by show 2 * 0 + (1 + 0) ≤ _; decide) (hb hbytes d45) (⟨rfl, n1⟩)
  obtain ⟨rfl, q11⟩ := E11
  have hB11 := hB1.mv (X8.warmed.alike.symm.trans X11.warmed.alike) q11
  have c12 : Steps p.tables e below (s₁.setTop (entryFrame m #[.ref a, .ref b, .int (Int32.ofNat o), .int (Int32.ofNat len), .null] 6)) (T11.setTop (mkF m 48 #[.val (.ref a), .val (.ref b), .val (.int (Int32.ofNat o)), .val (.int (Int32.ofNat len)), .val .null, .val (.ref s.heap.size)] [.int 0, .ref a])) := g11
  obtain ⟨T13, X13, p13, bl13, sl13, st13⟩ := X11.finit hexec hown (wk W (.fieldLink "java/lang/String" 15 "java/lang/String" "coder" "B")) (Or.inr ⟨_, (wk W (.laysFinal "java/lang/String" "java/lang/String" "coder" "B"))⟩) (Or.inl ⟨rfl, hnm⟩) f2 (Or.inl rfl) hB11 (t := .byte) (by decide +kernel) rfl (g := (mkF m 48 #[.val (.ref a), .val (.ref b), .val (.int (Int32.ofNat o)), .val (.int (Int32.ofNat len)), .val .null, .val (.ref s.heap.size)] [.int 0, .ref a])) rfl (rest := []) rfl (hb hbytes d48)
  have c14 : Steps p.tables e below (s₁.setTop (entryFrame m #[.ref a, .ref b, .int (Int32.ofNat o), .int (Int32.ofNat len), .null] 6)) (T13.setTop (mkF m 54 #[.val (.ref a), .val (.ref b), .val (.int (Int32.ofNat o)), .val (.int (Int32.ofNat len)), .val .null, .val (.ref s.heap.size)] [.ref s.heap.size, .ref a])) := (c12.trans (st13 _ (Steps.refl _))).trans (by
    refine XS.aloadN X13.here hexec rfl (hb hbytes d51) rfl rfl ?_
    refine XS.aload X13.here hexec rfl (hb hbytes d52) rfl rfl ?_
    exact Steps.refl _)
  obtain ⟨T15, X15, p15, bl15, sl15, st15⟩ := X13.finit hexec hown (wk W (.fieldLink "java/lang/String" 9 "java/lang/String" "value" "[B")) (Or.inr ⟨_, (wk W (.laysFinal "java/lang/String" "java/lang/String" "value" "[B"))⟩) (Or.inl ⟨rfl, hnm⟩) f1 (Or.inl rfl) bl13 (t := (.array .byte)) (by decide +kernel) rfl (g := (mkF m 54 #[.val (.ref a), .val (.ref b), .val (.int (Int32.ofNat o)), .val (.int (Int32.ofNat len)), .val .null, .val (.ref s.heap.size)] [.ref s.heap.size, .ref a])) rfl (rest := []) rfl (hb hbytes d54)
  have c16 : Steps p.tables e below (s₁.setTop (entryFrame m #[.ref a, .ref b, .int (Int32.ofNat o), .int (Int32.ofNat len), .null] 6)) (T15.setTop (mkF m 57 #[.val (.ref a), .val (.ref b), .val (.int (Int32.ofNat o)), .val (.int (Int32.ofNat len)), .val .null, .val (.ref s.heap.size)] [])) := c14.trans (st15 _ (Steps.refl _))
  have ap := apart (Or.inr ⟨_, (wk W (.laysFinal "java/lang/String" "java/lang/String" "value" "[B"))⟩) (Or.inr ⟨_, (wk W (.laysFinal "java/lang/String" "java/lang/String" "coder" "B"))⟩) f1 f2 (t₁ := .array .byte) (t₂ := .byte) (by decide +kernel) (by decide +kernel) (by decide)
  have al := X8.warmed.alike.symm.trans X15.warmed.alike
  have n7 : T11.heap[s.heap.size]? = some N := by rw [q11]; exact n1.1
  exact ⟨T15, none, _, _, _, X15, by simp, rfl, by omega, (fun _ => rfl), ⟨rfl, _, N, bl15, ((Same.refl D _).set _ (by simp)).set _ (by simp), sl15, (Cell.slots_setSlot_ne _ ap).trans sl13, n1.keep al (p15.other hne (p13.other hne n7)), n2, by rw [al.findClass]; exact n3, n4, n5, fun y c h1 h2 => p15.other h1 (p13.other h1 (by rw [q11]; exact n6 y c h2)), by rw [p15.2.2, p13.2.2, q11]; exact z8⟩, fun fs hl => c16.trans (X15.returnOut hexec hret (hb hbytes d57) hl)⟩
end New4
namespace New1
def yN : MethodName := ⟨"java/lang/String", "<init>", "([C)V"⟩
abbrev yB : ByteArray := jdk_42_method_3_code
theorem d0 : decode yB 0 = .ok (.aload_n 0, 1) := by decide +kernel
theorem d1 : decode yB 1 = .ok (.aload_n 1, 1) := by decide +kernel
theorem d2 : decode yB 2 = .ok (.iconst 0, 1) := by decide +kernel
theorem d3 : decode yB 3 = .ok (.aload_n 1, 1) := by decide +kernel
theorem d4 : decode yB 4 = .ok (.arraylength, 1) := by decide +kernel
theorem d5 : decode yB 5 = .ok (.aconst_null, 1) := by decide +kernel
theorem d6 : decode yB 6 = .ok (.invokespecial 27, 3) := by decide +kernel
theorem d9 : decode yB 9 = .ok (.return_, 1) := by decide +kernel
def site : List Cond := [New4.tab] ++ initW "java/lang/String" 27 New4.yN
def tab : Cond := tabOf yN yB 2 none site
def P (a : Addr) (D : Cell) (fV fC : Field) (b : Addr) (A : Cell) (z : Int32) (args : Array Value) (s : State) : Prop := args = #[.ref a, .ref b] ∧ Blank "java/lang/String" a D s ∧ Found "java/lang/String" "value" "[B" fV s ∧ Found "java/lang/String" "coder" "B" fC s ∧ Ch b A s ∧ StaticIs s "java/lang/String" "COMPACT_STRINGS" "Z" (.int z) ∧ ¬ z = 0 ∧ 0 < A.slots.size ∧ A.slots.size ≤ 536870912 ∧ ∀ i, i < A.slots.size → ¬ 255 < cv A i
def E (a : Addr) (D : Cell) (fV fC : Field) (A : Cell) (r : Option Value) (s u : State) : Prop := Got a D fV fC A 0 A.slots.size r s u
/-- new String(chars), not empty, no char above 255: a Latin-1 String of their low bytes -/
theorem law (l : Launch) (a : Addr) (D : Cell) (fV fC : Field) (b : Addr) (A : Cell) (z : Int32) : Law l yN 2 1 3 52 yB 2 none site (P a D fV fC b A z) (E a D fV fC A) [⟨a, fC.slot⟩, ⟨a, fV.slot⟩] 1 A.slots.size := by
  refine Law.of_walk (plainFor_of_name (by decide +kernel)) (by decide +kernel) (by decide +kernel) (by decide) (fun _ _ h => by rw [h.1]; rfl) (fun _ U U' hal hh h => ⟨h.1, h.2.1.mv hal hh, h.2.2.1.al hal, h.2.2.2.1.al hal, h.2.2.2.2.1.mv hal hh, h.2.2.2.2.2.1.there hal hh, h.2.2.2.2.2.2⟩) (fun r U U' V V' h1 hal h2 h => Got.mv r U U' V V' h1 hal h2 h) ?_
  intro p e s m args below meth c s₁ X0 hexec hbytes hml hret hlk hnm hown hh0 W hP
  obtain ⟨rfl, hB, f1, f2, hA, s1, hz, l0, l2, hp⟩ := hP
  have c1 : Steps p.tables e below (s₁.setTop (entryFrame m #[.ref a, .ref b] 2)) (s₁.setTop (mkF m 0 #[.val (.ref a), .val (.ref b)] [])) := entry rfl
  have c2 : Steps p.tables e below (s₁.setTop (entryFrame m #[.ref a, .ref b] 2)) (s₁.setTop (mkF m 6 #[.val (.ref a), .val (.ref b)] [.null, .int (Int32.ofNat A.slots.size), .int 0, .ref b, .ref a])) := c1.trans (by
    refine XS.aloadN X0.here hexec rfl (hb hbytes d0) rfl rfl ?_
    refine XS.aloadN X0.here hexec rfl (hb hbytes d1) rfl rfl ?_
    refine iconstV X0.here hexec rfl 0 (hb hbytes d2) (by decide) ?_
    refine XS.aloadN X0.here hexec rfl (hb hbytes d3) rfl rfl ?_
    refine X0.alen hexec (hA.1.mv X0.warmed.alike hh0) rfl rfl (hb hbytes d4) ?_
    refine XS.aconstNull X0.here hexec rfl (hb hbytes d5) ?_
    exact Steps.refl _)
  obtain ⟨v3, T3, X3, E3, g3⟩ := X0.callN hexec (New4.law l a D fV fC b A z 0 A.slots.size) rfl hown (wks W (initW "java/lang/String" 27 New4.yN)) (W New4.tab (by simp only [site, List.mem_cons, List.mem_append, true_or, or_true])) (W := 0) (Nat.le_of_ble_eq_true rfl) (Nat.le_of_ble_eq_true rfl) (Nat.le_refl _) (by show 0 + A.slots.size ≤ A.slots.size; omega) (g := (mkF m 6 #[.val (.ref a), .val (.ref b)] [.null, .int (Int32.ofNat A.slots.size), .int (Int32.ofNat 0), .ref b, .ref a])) rfl (by rw [hml]; rfl) c2 (argsL := [.ref b, .int (Int32.ofNat 0), .int (Int32.ofNat A.slots.size), .null]) (rest := []) rfl rfl (by show 2 * 0 + 0 ≤ _; decide) (hb hbytes d6) (⟨rfl, hB.mv X0.warmed.alike hh0, f1.al X0.warmed.alike, f2.al X0.warmed.alike, hA.mv X0.warmed.alike hh0, s1.there X0.warmed.alike hh0, hz, l0, by omega, l2, fun i hi => by rw [Nat.zero_add]; exact hp i hi⟩)
  have e0 := Got.mv _ s₁ s _ _ hh0.symm (Vm.Alike.refl _) rfl E3
  obtain rfl := e0.1
  have c4 : Steps p.tables e below (s₁.setTop (entryFrame m #[.ref a, .ref b] 2)) (T3.setTop (mkF m 9 #[.val (.ref a), .val (.ref b)] [])) := g3
  exact ⟨T3, none, _, _, _, X3, by simp, rfl, by omega, (fun _ => rfl), e0, fun fs hl => c4.trans (X3.returnOut hexec hret (hb hbytes d9) hl)⟩
theorem pays {l : Launch} {R : Room} {p : Program} {e : Env} {below : List Frame} {s : State} {sargs : Array Value} {len W : Nat} (a : Addr) (D : Cell) (fV fC : Field) (b : Addr) (A : Cell) (z : Int32) (htab : tab.before sargs s = true) (hfr : 4 ≤ R.frames) (hlo : W + 65 ≤ R.locals) :
    Back l R p e below s sargs yN len W (fun A₁ a₁ => A₁.cells + 1 ≤ R.cells ∧ A₁.slots + A.slots.size ≤ R.slots ∧ P a D fV fC b A z a₁ A₁.U) (fun A₁ _ v₁ B₁ => E a D fV fC A v₁ A₁.U B₁.U ∧ B₁.locs = A₁.locs ++ [⟨a, fC.slot⟩, ⟨a, fV.slot⟩] ∧ B₁.cells = A₁.cells + 1 ∧ B₁.slots = A₁.slots + A.slots.size) :=
  (law l a D fV fC b A z).pays htab hfr (by omega)
end New1
end StrChars
namespace StrChars.Road
open Jvm Sem ClassFile Op Lib Jvm.Stand Jvm.Free Jvm.Free.XT
open Jvm.Lib.Cold (StaticIs)
abbrev ST : String := "java/lang/String"
/-- every table word that New1's law asks, flat -/
abbrev words : List Jvm.Cond := [.code New1.yN New1.yB 2 none, .initialized ST, .methodLink ST 27 New4.yN, .instanceMethod New4.yN,
  .code New4.yN New4.yB 6 none, .fieldLink ST 38 ST "COMPACT_STRINGS" "Z", .laysFinal ST ST "value" "[B", .fieldLink ST 9 ST "value" "[B", .laysFinal ST ST "coder" "B", .fieldLink ST 15 ST "coder" "B",
  .methodLink ST 1 Lib.objectInit, .instanceMethod Lib.objectInit, .code Lib.objectInit ⟨#[0xb1]⟩ 1 none, .methodLink ST 177 Cmp3.yN, .static Cmp3.yN, .methodLink ST 47 CodL.yN, .static CodL.yN,
  .code Cmp3.yN Cmp3.yB 6 (some (.array .byte)), .initialized U16, .arrayClass .byte, .methodLink U16 115 Cmp5.yN, .static Cmp5.yN, .code Cmp5.yN Cmp5.yB 7 (some .int), .code CodL.yN CodL.yB 2 (some .byte)]
theorem tab_of {a : Array Value} {s : State} (h : ∀ w ∈ words, w.before a s = true) : New1.tab.before a s = true := by
  have h5 : Cmp5.tab.before a s = true := unparts (wk h (.code Cmp5.yN Cmp5.yB 7 (some .int))) (wks h (.initialized Cmp5.yN.cls :: Cmp5.site))
  have hc : CodL.tab.before a s = true := unparts (wk h (.code CodL.yN CodL.yB 2 (some .byte))) (wks h (.initialized CodL.yN.cls :: CodL.site))
  have q5 : ∀ w ∈ Cmp5.tab :: words, w.before a s = true := fun w hw => (List.mem_cons.mp hw).elim (fun e => e ▸ h5) (h w)
  have h3 : Cmp3.tab.before a s = true := unparts (wk q5 (.code Cmp3.yN Cmp3.yB 6 (some (.array .byte)))) (wks q5 (.initialized Cmp3.yN.cls :: Cmp3.site))
  have q3 : ∀ w ∈ Cmp3.tab :: CodL.tab :: words, w.before a s = true := fun w hw => (List.mem_cons.mp hw).elim (fun e => e ▸ h3) fun hw => (List.mem_cons.mp hw).elim (fun e => e ▸ hc) (h w)
  have h4 : New4.tab.before a s = true := unparts (wk q3 (.code New4.yN New4.yB 6 none)) (wks q3 (.initialized New4.yN.cls :: New4.site))
  have q4 : ∀ w ∈ New4.tab :: words, w.before a s = true := fun w hw => (List.mem_cons.mp hw).elim (fun e => e ▸ h4) (h w)
  exact unparts (wk q4 (.code New1.yN New1.yB 2 none)) (wks q4 (.initialized New1.yN.cls :: New1.site))
/-- the words ride from the start Z to the walk's own state -/
theorem moved {Z s : State} {a0 args : Array Value} (hZ : Z.Warmed39 s.vm) (hw : ∀ d ∈ words, d.before a0 Z = true) : ∀ d ∈ words, d.before args s = true := fun d hd => by
  have q := hw d hd
  have t : ∀ d ∈ words, d = .arrayClass .byte ∨ (d.onTables && d.keepsFace) = true := by decide +kernel
  rcases t d hd with rfl | t
  · exact RoadKit.mvA hZ q
  · exact RoadKit.mv hZ q t
/-- WHAT COMES BACK, over the tables of the start Z: h the heap at the call, h' behind it -/
def Q (Z : State) (x : Addr) (A : Cell) (h : Heap) (v : Option Value) (h' : Heap) (L : List Loc) : Prop := v = none ∧ (∀ y ∈ L, y.base = x) ∧ RoadKit.Keep h h' [x] ∧ h'.size = h.size + 1 ∧ RoadKit.Exa Z h' x ST ∧ RoadKit.Fld Z h' x ST "value" "[B" (.ref h.size) ∧ RoadKit.Fld Z h' x ST "coder" "B" (.int 0) ∧
  (∃ V : Cell, RoadKit.Arr Z h' h.size V .byte ∧ V.vm = .none ∧ Z.vm.findClass "[B" = some V.cls ∧ V.slots.size = A.slots.size ∧ ∀ j, j < A.slots.size → V.slots[j]? = some (.int (lo8 (cv A j)))) ∧
  ∀ (O n d : String) (w : Value), RoadKit.Fld Z h x O n d w → RoadKit.slotOf Z O n d ≠ RoadKit.slotOf Z ST "value" "[B" → RoadKit.slotOf Z O n d ≠ RoadKit.slotOf Z ST "coder" "B" → RoadKit.Fld Z h' x O n d w
/-- **new String(chars) AT A CALL, IN THE ROAD'S FORM**: for specialBack behind newO: x the fresh String, b the char[] with the cell A -/
theorem back {p : Program} {l : Launch} {e : Env} {R : Room} {s : State} {args : Array Value} {below : List Frame} {len W : Nat} {Z : State} {a0 : Array Value} {h : Heap} (hZ : Z.Warmed39 s.vm) (hw : ∀ d ∈ words, d.before a0 Z = true) {kI : Nat} (wi : (Jvm.Cond.instantiable ST kI).before a0 Z = true)
    {x b : Addr} {A : Cell} {z : Int32} {v0 c0 : Value} (E : RoadKit.Exa Z h x ST) (V : RoadKit.Fld Z h x ST "value" "[B" v0) (C : RoadKit.Fld Z h x ST "coder" "B" c0) (K : RoadKit.Arr Z h b A .char) (hty : Typed .char A) (S : RoadKit.Sta Z h ST "COMPACT_STRINGS" "Z" (.int z)) (hz : ¬ z = 0)
    (l0 : 0 < A.slots.size) (l2 : A.slots.size ≤ 536870912) (hp : ∀ i, i < A.slots.size → ¬ 255 < cv A i) (hfr : 4 ≤ R.frames) (hlo : W + 65 ≤ R.locals) :
    Back l R p e below s args New1.yN len W (fun P a => a = #[.ref x, .ref b] ∧ P.U.heap = h ∧ P.cells + 1 ≤ R.cells ∧ P.slots + A.slots.size ≤ R.slots)
      (fun P _ v B => ∃ L, Q Z x A h v B.U.heap L ∧ B.locs = P.locs ++ L ∧ B.cells = P.cells + 1 ∧ B.slots = P.slots + A.slots.size) := by
  intro m meth c P g ig mk a X hg hsize hdg hW hn hp'
  obtain ⟨rfl, rfl, r1, r2⟩ := hp'
  have al : Z.vm.Alike P.U.vm := hZ.alike.trans X.warmed.alike
  obtain ⟨D, cfV, kV, iV, fV, hD, gV, stV, knV, obV, asV, slV⟩ := id V
  obtain ⟨D', cfC, kC, iC, fC, hD', gC, stC, -, -, asC, slC⟩ := id C
  cases hD.symm.trans hD'
  obtain ⟨D2, kD, e1, e2, e3, e4, e5⟩ := id E
  cases hD.symm.trans e1
  obtain ⟨c2, k2, i1, i2, i3, -⟩ := Cond.instantiable_spec wi
  cases e2.symm.trans i1
  cases e3.symm.trans i2
  obtain ⟨kU, u1, u2⟩ := al.2.2 _ _ e3
  have hB : Blank ST x D P.U := ⟨hD, ⟨knV, fun q hq => by rw [hq] at obV; cases obV⟩, by rw [al.findClass]; exact e2, kU, u1, by rw [u2]; exact i3, by rw [u2]; exact e5 i3⟩
  have F1 : Found ST "value" "[B" fV P.U := ⟨SBG.found_only al ⟨cfV, kV, iV, gV⟩, stV⟩
  have F2 : Found ST "coder" "B" fC P.U := ⟨SBG.found_only al ⟨cfC, kC, iC, gC⟩, stC⟩
  have hA : Ch b A P.U := ⟨⟨K.1, State.isArrayOf_alike al K.2.1, K.2.2, by omega⟩, hty⟩
  have hS : StaticIs P.U ST "COMPACT_STRINGS" "Z" (.int z) := by
    obtain ⟨cfS, iS, kS, fS, st, cS, t1, t2, t3, t4, t5, t6, t7⟩ := S
    exact StaticIs.there (s := { Z with heap := P.U.heap }) ⟨cfS, iS, kS, fS, st, cS, t1, t2, t3, t4, t5, (fun q => by rw [q] at t6; cases t6), t7⟩ al rfl
  obtain ⟨v, B, X', ⟨⟨hv, E', V', q1, q2, q3, q4, q5, q6, q7, q8, q9, q10, q11⟩, hl, hc, hs⟩, st⟩ := New1.pays x D fV fC b A z (tab_of (moved hZ hw)) hfr hlo m meth c P g ig mk _ X hg hsize hdg hW hn ⟨r1, r2, rfl, hB, F1, F2, hA, hS, hz, l0, l2, hp⟩
  have al' : Z.vm.Alike B.U.vm := hZ.alike.trans X'.warmed.alike
  have hsz : E'.slots.size = D.slots.size := by
    obtain ⟨-, -, -, kB, w1, w2, w3⟩ := q1
    obtain ⟨kB', y1, y2⟩ := al'.2.2 _ _ e3
    rw [q2.2.1] at w1
    cases w1.symm.trans y1
    rw [w3, e5 i3, y2]
  refine ⟨v, B, X', ⟨_, ⟨hv, ?_, ⟨by omega, fun y cy hy hn' => q10 y cy (by simpa using hn') hy, fun y cy hy => ?_⟩, q11, ⟨E', _, q1.1, by rw [q2.2.1]; exact e2, by rw [q2.2.1]; exact e3, by rw [q2.1]; exact obV, fun _ => by rw [hsz]; exact e5 i3⟩,
    ⟨E', cfV, kV, iV, fV, q1.1, gV, stV, by rw [q2.1]; exact knV, by rw [q2.1]; exact obV, by rw [q2.2.1]; exact asV, q3⟩, ⟨E', cfC, kC, iC, fC, q1.1, gC, stC, by rw [q2.1]; exact knV, by rw [q2.1]; exact obV, by rw [q2.2.1]; exact asC, q4⟩,
    ⟨V', ⟨q5.1, State.isArrayOf_alike al'.symm q5.2.1, q5.2.2.1⟩, q6, by rw [← al'.findClass]; exact q7, q8, fun j hj => by have := q9 j hj; rwa [Nat.zero_add] at this⟩, fun O n d w F n1 n2 => ?_⟩, hl, hc, hs⟩, st⟩
  · intro y hy
    simp only [List.mem_cons, List.not_mem_nil, or_false] at hy
    rcases hy with rfl | rfl <;> rfl
  · by_cases q : y = x
    · subst q
      cases hD.symm.trans hy
      exact ⟨E', q1.1, q2.2.1, q2.1, hsz⟩
    · exact ⟨cy, q10 y cy q hy, rfl, rfl, rfl⟩
  · obtain ⟨D3, cf, k, i, f, g1, g2, g3, g4, g5, g6, g7⟩ := F
    cases hD.symm.trans g1
    simp only [RoadKit.slotOf, g2, gV, gC, Option.map_some, Option.getD_some] at n1 n2
    exact ⟨E', cf, k, i, f, q1.1, g2, g3, by rw [q2.1]; exact g4, by rw [q2.1]; exact g5, by rw [q2.2.1]; exact g6, by rw [q2.2.2 f.slot (by simp [n1, n2])]; exact g7⟩
end StrChars.Road
namespace StrChars.Road
open Jvm Sem ClassFile Op Lib Jvm.Stand Jvm.Free Jvm.Free.XT
/-- WHAT COMES BACK, the byte[] as a list of values -/
def QA (Z : State) (x : Addr) (zn : Int32) (cs : List Int32) (h : Heap) (v : Option Value) (h' : Heap) (L : List Loc) : Prop := v = none ∧ (∀ y ∈ L, y.base = x) ∧ RoadKit.Keep h h' [x] ∧ h'.size = h.size + 1 ∧ RoadKit.Exa Z h' x ST ∧ RoadKit.Fld Z h' x ST "value" "[B" (.ref h.size) ∧ RoadKit.Fld Z h' x ST "coder" "B" (.int 0) ∧
  (∃ kb, Z.vm.findClass "[B" = some kb ∧ RoadKit.Arv Z h' h.size kb .byte zn (cs.map fun c => .int (lo8 c)) (.int 0)) ∧
  ∀ (O n d : String) (w : Value), RoadKit.Fld Z h x O n d w → RoadKit.slotOf Z O n d ≠ RoadKit.slotOf Z ST "value" "[B" → RoadKit.slotOf Z O n d ≠ RoadKit.slotOf Z ST "coder" "B" → RoadKit.Fld Z h' x O n d w
/-- **new String(chars) AT A CALL, THE ARRAYS AS LISTS**: the char[] at b holds cs, not empty, no char above 255 -/
theorem backArv {p : Program} {l : Launch} {e : Env} {R : Room} {s : State} {args : Array Value} {below : List Frame} {len W : Nat} {Z : State} {a0 : Array Value} {h : Heap} (hZ : Z.Warmed39 s.vm) (hw : ∀ d ∈ words, d.before a0 Z = true) {kI : Nat} (wi : (Jvm.Cond.instantiable ST kI).before a0 Z = true)
    {x b : Addr} {k : ClassId} {zn z : Int32} {cs : List Int32} {dv v0 c0 : Value} (E : RoadKit.Exa Z h x ST) (V : RoadKit.Fld Z h x ST "value" "[B" v0) (C : RoadKit.Fld Z h x ST "coder" "B" c0) (K : RoadKit.Arv Z h b k .char zn (cs.map Value.int) dv) (S : RoadKit.Sta Z h ST "COMPACT_STRINGS" "Z" (.int z)) (hz : ¬ z = 0)
    (hlen : zn.toNatClampNeg = cs.length) (h0 : 0 < cs.length) (hbig : cs.length ≤ 536870912) (hall : ∀ c ∈ cs, ¬ 255 < c) (hfr : 4 ≤ R.frames) (hlo : W + 65 ≤ R.locals) :
    Back l R p e below s args New1.yN len W (fun P a => a = #[.ref x, .ref b] ∧ P.U.heap = h ∧ P.cells + 1 ≤ R.cells ∧ P.slots + cs.length ≤ R.slots)
      (fun P _ v B => ∃ L, QA Z x zn cs h v B.U.heap L ∧ B.locs = P.locs ++ L ∧ B.cells = P.cells + 1 ∧ B.slots = P.slots + cs.length) := by
  obtain ⟨A, K1, K2, K3, K4, K5, K6⟩ := K
  have e : A.slots.size = cs.length := K3.trans hlen
  have hat : ∀ (i : Nat) (hi : i < cs.length), A.slots[i]? = some (.int cs[i]) := fun i hi => by rw [K5 i (by omega)]; simp [List.getD_eq_getElem?_getD, hi]
  have hcv : ∀ (i : Nat) (hi : i < cs.length), cv A i = cs[i] := fun i hi => by unfold cv; rw [hat i hi]
  have hty : Typed .char A := fun i v hv => by
    have hi : i < A.slots.size := (Array.getElem?_eq_some_iff.mp hv).1
    have q := K5 i hi
    rw [hv] at q
    rw [Option.some.inj q]
    exact K6 i hi
  refine Back.mono (back hZ hw wi E V C K1 hty S hz (by omega) (by omega) (fun i hi => by rw [hcv i (by omega)]; exact hall _ (List.getElem_mem _)) hfr hlo) (fun P a hp => ⟨hp.1, hp.2.1, hp.2.2.1, by rw [e]; exact hp.2.2.2⟩) (fun P a v B hp hq => ?_)
  obtain ⟨L, ⟨q1, q2, q3, q4, q5, q6, q7, ⟨V', v1, v2, v3, v4, v5⟩, q9⟩, hl, hc, hs⟩ := hq
  refine ⟨L, ⟨q1, q2, q3, q4, q5, q6, q7, ⟨V'.cls, v3, V', v1, rfl, by rw [v4, e, hlen], K4, fun i hi => ?_, fun i hi => ?_⟩, q9⟩, hl, hc, by rw [hs, e]⟩
  · have hi' : i < cs.length := by omega
    rw [v5 i (by omega), hcv i hi']; simp [List.getD_eq_getElem?_getD, hi']
  · have hi' : i < cs.length := by omega
    simp only [List.getD_eq_getElem?_getD, List.getElem?_map, List.getElem?_eq_getElem hi', Option.map_some, Option.getD_some]
    exact fits_lo8 _
end StrChars.Road
namespace StrChars.Road
open Jvm Sem ClassFile Op Lib Jvm.Stand Jvm.Free Jvm.Free.XT
/-- WHAT COMES BACK, in the writer's own shape -/
def QV (Z : State) (x : Addr) (N : Int32) (bs : List Int32) (h : Heap) (n0 : Nat) (v : Option Value) (h' : Heap) (L : List Loc) : Prop := v = none ∧ RoadKit.Fr n0 L ∧ RoadKit.Keep h h' [x] ∧ RoadKit.Exa Z h' x ST ∧ RoadKit.Fld Z h' x ST "coder" "B" (.int 0) ∧
  ∃ (t : Addr) (kb : ClassId), n0 ≤ t ∧ h.size ≤ t ∧ ¬ t = x ∧ RoadKit.Fld Z h' x ST "value" "[B" (.ref t) ∧ RoadKit.Arv Z h' t kb .byte N (bs.map Value.int) (.int 0)
/-- **new String(chars) AT A CALL, FOR THE WRITER**: a char[] of n known ints, each 0 to 255 -/
theorem backV {p : Program} {l : Launch} {e : Env} {R : Room} {s : State} {args : Array Value} {below : List Frame} {len W : Nat} {Z : State} {a0 : Array Value} {h : Heap} (hZ : Z.Warmed39 s.vm) (hw : ∀ d ∈ words, d.before a0 Z = true) {kI : Nat} (wi : (Jvm.Cond.instantiable ST kI).before a0 Z = true)
    {x b : Addr} {kC : ClassId} {cs bs : List Int32} {d v0 c0 : Value} {z N : Int32} {n n0 : Nat} (hx0 : n0 ≤ x) (hh0 : n0 ≤ h.size) (E : RoadKit.Exa Z h x ST) (V : RoadKit.Fld Z h x ST "value" "[B" v0) (C : RoadKit.Fld Z h x ST "coder" "B" c0) (K : RoadKit.Arv Z h b kC .char N (cs.map Value.int) d) (S : RoadKit.Sta Z h ST "COMPACT_STRINGS" "Z" (.int z)) (hz : ¬ z = 0)
    (hn : cs.length = n) (hN : N = Int32.ofNat n) (l0 : 0 < n) (l2 : n ≤ 4000) (hp : ∀ c ∈ cs, ¬ c < 0 ∧ ¬ (255 : Int32) < c) (hb : bs = cs.map (fun c => c.toInt8.toInt32)) (hfr : 4 ≤ R.frames) (hlo : W + 65 ≤ R.locals) :
    Back l R p e below s args (⟨"java/lang/String", "<init>", "([C)V"⟩ : MethodName) len W (fun P a => a = #[.ref x, .ref b] ∧ P.U.heap = h ∧ P.cells + 1 ≤ R.cells ∧ P.slots + n ≤ R.slots)
      (fun P _ v B => ∃ L, QV Z x N bs h n0 v B.U.heap L ∧ B.locs = P.locs ++ L ∧ B.cells = P.cells + 1 ∧ B.slots = P.slots + n) := by
  subst hn hN hb
  refine Back.mono (backArv hZ hw wi E V C K S hz (n32 (by omega)) l0 (by omega) (fun c hc => (hp c hc).2) hfr hlo) (fun P a hp => hp) (fun P a v B hp hq => ?_)
  obtain ⟨L, ⟨q1, q2, q3, q4, q5, q6, q7, ⟨kb, v1, v2⟩, q9⟩, hl, hc, hs⟩ := hq
  exact ⟨L, ⟨q1, fun y hy => by rw [q2 y hy]; exact hx0, q3, q5, q7, h.size, kb, hh0, Nat.le_refl _, Nat.ne_of_gt E.lt, q6, by rw [List.map_map]; exact v2⟩, hl, hc, hs⟩
end StrChars.Road
end Jvm.Pilot.@@N@@
namespace Jvm.Pilot.@@N@@
open Jvm Jvm.ClassFile Sem Op Lib Jvm.Free Jvm.Stand Jvm.LawKit Jvm.RoadKit Bundle Jvm.Pilot.@@N@@.Jvm.D
def own_Go (tb : Tables) (e : Env) (below : List Frame) (P : State → Prop) (A : State) : Prop := ∃ t, Steps tb e below A t ∧ P t
theorem own_go {tb : Tables} {e : Env} {below : List Frame} {P : State → Prop} {A B : State} (h : ∀ t, Steps tb e below B t → Steps tb e below A t) (g : own_Go tb e below P B) : own_Go tb e below P A := by
  obtain ⟨t, h1, h2⟩ := g
  exact ⟨t, h t h1, h2⟩
theorem own_fin {tb : Tables} {e : Env} {below : List Frame} {A : State} {Qq : Outcome → State → Prop} (g : own_Go tb e below (fun t => ∃ o, t.status = .running ∧ Ended t below o ∧ Qq o t) A) : ∃ t o, Steps tb e below A t ∧ t.status = .running ∧ Ended t below o ∧ Qq o t := by
  obtain ⟨t, h1, o, h2, h3, h4⟩ := g
  exact ⟨t, o, h1, h2, h3, h4⟩
theorem own_ret {tb : Tables} {e : Env} {below : List Frame} {P : State → Prop} {A t : State} (h : Steps tb e below A t) (q : P t) : own_Go tb e below P A := ⟨t, h, q⟩
def own_M (l : Launch) (y : MethodName) (bytes : ByteArray) (maxL : Nat) (ret : Option FieldType) (ws : List Jvm.Cond) (rm : Room) (Z : State) (as : Array Value) (h0 : Heap) (Q : Option Value → Heap → List Loc → Prop) : Prop := MetFree l y (head1 (Jvm.Cond.code y bytes maxL ret :: ws) rm) (fun aR UR => aR = as ∧ Z.Warmed39 UR.vm ∧ UR.heap = h0) (fun _ _ _ _ _ => True) (fun _ UR oR UR' => ∃ vR LR, oR = .returned vR ∧ Q vR UR'.heap LR ∧ FrameEnd UR oR UR' LR rm.cells rm.slots)
theorem own_body {l : Launch} {y : MethodName} {bytes : ByteArray} {maxL : Nat} {ret : Option FieldType} {ws : List Jvm.Cond} {rm : Room} {Z : State} {as : Array Value} {h0 : Heap} {Q : Option Value → Heap → List Loc → Prop} {own : String} {f : MethodId → JFrame} (ho : y.cls = own) (hx : plainFor y = true) (ef : ∀ m, entryFrame m as maxL = f m) (k : ∀ (p : Program) (e : Env) (s : State) (m : MethodId) (below : List Frame) (meth : Method) (c : Code) (s₁ : State), BodyLoose p l y (head1 (Jvm.Cond.code y bytes maxL ret :: ws) rm) bytes maxL ret e s m as below meth c s₁ → c.maxLocals = maxL → Z.Warmed39 s.vm → s.heap = h0 → p.tables.exec = Jvm.exec → c.code = bytes → s.vm.findClass own = some m.cls → Stand p l e rm s m as below meth c s₁ [] 0 0 → s₁.heap = h0 → own_Go p.tables e below (fun t => ∃ o, t.status = .running ∧ Ended t below o ∧ ∃ vR LR, o = .returned vR ∧ Q vR t.heap LR ∧ FrameEnd s o t LR rm.cells rm.slots) (s₁.setTop (f m))) : own_M l y bytes maxL ret ws rm Z as h0 Q := by
  subst ho
  refine MetFree.of_bodySF hx hisR ?_
  intro p e s m args below meth c s₁ Bd hml hP hK
  obtain ⟨rfl, hZ, hh⟩ := hP
  exact own_fin (own_go (fun tT kK => castTop (ef m) kK) (k p e s m below meth c s₁ Bd hml hZ hh Bd.exec Bd.bytes (findClass_of_methodNamed Bd.named) (Stand.of_body Bd) (by rw [← hh, Bd.state]; rfl)))
def own_MH (l : Launch) (y : MethodName) (bytes : ByteArray) (maxL : Nat) (ret : Option FieldType) (ws : List Jvm.Cond) (rm : Room) (Z : State) (as : Array Value) (h0 : Heap) (Q : Option Value → Heap → List Loc → Prop) (EL : List (String × Nat)) : Prop := MetFree l y (head1 (Jvm.Cond.code y bytes maxL ret :: ws) rm) (fun aR UR => aR = as ∧ Z.Warmed39 UR.vm ∧ UR.heap = h0 ∧ CHv Z EL UR.vm h0) (fun _ _ _ _ _ => True) (fun _ UR oR UR' => ∃ vR LR, oR = .returned vR ∧ Q vR UR'.heap LR ∧ CHr Z EL UR.vm UR.heap UR'.vm UR'.heap ∧ ReturnedEndW UR oR UR' LR rm.cells rm.slots)
theorem own_bodyH {l : Launch} {y : MethodName} {bytes : ByteArray} {maxL : Nat} {ret : Option FieldType} {ws : List Jvm.Cond} {rm : Room} {Z : State} {as : Array Value} {h0 : Heap} {Q : Option Value → Heap → List Loc → Prop} {EL : List (String × Nat)} {own : String} {f : MethodId → JFrame} (ho : y.cls = own) (hx : plainFor y = true) (ef : ∀ m, entryFrame m as maxL = f m) (k : ∀ (p : Program) (e : Env) (s : State) (m : MethodId) (below : List Frame) (meth : Method) (c : Code) (s₁ : State), BodyLoose p l y (head1 (Jvm.Cond.code y bytes maxL ret :: ws) rm) bytes maxL ret e s m as below meth c s₁ → c.maxLocals = maxL → Z.Warmed39 s.vm → s.heap = h0 → p.tables.exec = Jvm.exec → c.code = bytes → s.vm.findClass own = some m.cls → Stand p l e rm s m as below meth c s₁ [] 0 0 → s₁.heap = h0 → s.Since s.vm h0.size → CHv Z EL s.vm h0 → own_Go p.tables e below (fun t => ∃ o, t.status = .running ∧ Ended t below o ∧ ∃ vR LR, o = .returned vR ∧ Q vR t.heap LR ∧ CHr Z EL s.vm s.heap t.vm t.heap ∧ ReturnedEndW s o t LR rm.cells rm.slots) (s₁.setTop (f m))) : own_MH l y bytes maxL ret ws rm Z as h0 Q EL := by
  subst ho
  refine MetFree.of_bodySF hx hisR ?_
  intro p e s m args below meth c s₁ Bd hml hP hK
  obtain ⟨rfl, hZ, hh, CH0⟩ := hP
  exact own_fin (own_go (fun tT kK => castTop (ef m) kK) (k p e s m below meth c s₁ Bd hml hZ hh Bd.exec Bd.bytes (findClass_of_methodNamed Bd.named) (Stand.of_body Bd) (by rw [← hh, Bd.state]; rfl) ((State.WarmedH.refl s).since _) CH0))
theorem own_sh {tb : Tables} {e : Env} {below : List Frame} {P : State → Prop} {T : State} {m : MethodId} (pc : Nat) (Ls : Array Slot) (st : List Value) (g : own_Go tb e below P (T.setTop (mkF m pc Ls st))) : own_Go tb e below P (T.setTop (mkF m pc Ls st)) := g
theorem own_nn {a b : Nat} (h : ¬ a = b) : a ≠ b := h
theorem own_ll {a b : Nat} (h : a < b) : a < b := h
theorem own_w {Z : State} {a0 : Array Value} {tab : List Jvm.Cond} (hw : ∀ d ∈ tab, d.before a0 Z = true) (i : Nat) {d : Jvm.Cond} (h : tab[i]? = some d) : d.before a0 Z = true := hw d (List.mem_of_getElem? h)
theorem own_iloadN {tb : Tables} [Ours tb] {e : Env} {below : List Frame} {T : State} {m : MethodId} {c : Code} {P : State → Prop} {pc : Nat} {Ls : Array Slot} {st : List Value} {bc : ByteArray} (h : At T m c below) (hx : tb.exec = Jvm.exec) (hby : c.code = bc) {k : Fin 4} {v : Int32} (hd : decode bc pc = .ok (.iload_n k, 1)) (hl : Ls[k.val]? = some (.val (.int v))) (g : own_Go tb e below P (T.setTop (mkF m (pc + 1) Ls ((.int v) :: st)))) : own_Go tb e below P (T.setTop (mkF m pc Ls (st))) := own_go (fun t k => XS.iloadN h hx rfl (hb hby hd) hl k) g
theorem own_iload {tb : Tables} [Ours tb] {e : Env} {below : List Frame} {T : State} {m : MethodId} {c : Code} {P : State → Prop} {pc : Nat} {Ls : Array Slot} {st : List Value} {bc : ByteArray} (h : At T m c below) (hx : tb.exec = Jvm.exec) (hby : c.code = bc) {k : Nat} {v : Int32} (hd : decode bc pc = .ok (.iload k, 2)) (hl : Ls[k]? = some (.val (.int v))) (g : own_Go tb e below P (T.setTop (mkF m (pc + 2) Ls ((.int v) :: st)))) : own_Go tb e below P (T.setTop (mkF m pc Ls (st))) := own_go (fun t k => XS.iload h hx rfl (hb hby hd) hl k) g
theorem own_aloadN {tb : Tables} [Ours tb] {e : Env} {below : List Frame} {T : State} {m : MethodId} {c : Code} {P : State → Prop} {pc : Nat} {Ls : Array Slot} {st : List Value} {bc : ByteArray} (h : At T m c below) (hx : tb.exec = Jvm.exec) (hby : c.code = bc) {k : Fin 4} {v : Value} (hd : decode bc pc = .ok (.aload_n k, 1)) (hl : Ls[k.val]? = some (.val v)) (hv : v.isRef = true) (g : own_Go tb e below P (T.setTop (mkF m (pc + 1) Ls (v :: st)))) : own_Go tb e below P (T.setTop (mkF m pc Ls (st))) := own_go (fun t k => XS.aloadN h hx rfl (hb hby hd) hl hv k) g
theorem own_aload {tb : Tables} [Ours tb] {e : Env} {below : List Frame} {T : State} {m : MethodId} {c : Code} {P : State → Prop} {pc : Nat} {Ls : Array Slot} {st : List Value} {bc : ByteArray} (h : At T m c below) (hx : tb.exec = Jvm.exec) (hby : c.code = bc) {k : Nat} {v : Value} (hd : decode bc pc = .ok (.aload k, 2)) (hl : Ls[k]? = some (.val v)) (hv : v.isRef = true) (g : own_Go tb e below P (T.setTop (mkF m (pc + 2) Ls (v :: st)))) : own_Go tb e below P (T.setTop (mkF m pc Ls (st))) := own_go (fun t k => XS.aload h hx rfl (hb hby hd) hl hv k) g
theorem own_istoreN {tb : Tables} [Ours tb] {e : Env} {below : List Frame} {T : State} {m : MethodId} {c : Code} {P : State → Prop} {pc : Nat} {Ls : Array Slot} {st : List Value} {bc : ByteArray} (h : At T m c below) (hx : tb.exec = Jvm.exec) (hby : c.code = bc) {k : Fin 4} {x : Int32} {l' : Array Slot} (hd : decode bc pc = .ok (.istore_n k, 1)) (hl : storeLocals Ls k.val (.int x) = some l') (g : own_Go tb e below P (T.setTop (mkF m (pc + 1) l' (st)))) : own_Go tb e below P (T.setTop (mkF m pc Ls ((.int x) :: st))) := own_go (fun t k => XS.istoreN h hx rfl (hb hby hd) rfl hl k) g
theorem own_istore {tb : Tables} [Ours tb] {e : Env} {below : List Frame} {T : State} {m : MethodId} {c : Code} {P : State → Prop} {pc : Nat} {Ls : Array Slot} {st : List Value} {bc : ByteArray} (h : At T m c below) (hx : tb.exec = Jvm.exec) (hby : c.code = bc) {k : Nat} {x : Int32} {l' : Array Slot} (hd : decode bc pc = .ok (.istore k, 2)) (hl : storeLocals Ls k (.int x) = some l') (g : own_Go tb e below P (T.setTop (mkF m (pc + 2) l' (st)))) : own_Go tb e below P (T.setTop (mkF m pc Ls ((.int x) :: st))) := own_go (fun t k => XS.istore h hx rfl (hb hby hd) rfl hl k) g
theorem own_astoreN {tb : Tables} [Ours tb] {e : Env} {below : List Frame} {T : State} {m : MethodId} {c : Code} {P : State → Prop} {pc : Nat} {Ls : Array Slot} {st : List Value} {bc : ByteArray} (h : At T m c below) (hx : tb.exec = Jvm.exec) (hby : c.code = bc) {k : Fin 4} {x : Value} {l' : Array Slot} (hd : decode bc pc = .ok (.astore_n k, 1)) (hv : x.isRef = true) (hl : storeLocals Ls k.val x = some l') (g : own_Go tb e below P (T.setTop (mkF m (pc + 1) l' (st)))) : own_Go tb e below P (T.setTop (mkF m pc Ls (x :: st))) := own_go (fun t k => XS.astoreN h hx rfl (hb hby hd) rfl hv hl k) g
theorem own_astore {tb : Tables} [Ours tb] {e : Env} {below : List Frame} {T : State} {m : MethodId} {c : Code} {P : State → Prop} {pc : Nat} {Ls : Array Slot} {st : List Value} {bc : ByteArray} (h : At T m c below) (hx : tb.exec = Jvm.exec) (hby : c.code = bc) {k : Nat} {x : Value} {l' : Array Slot} (hd : decode bc pc = .ok (.astore k, 2)) (hv : x.isRef = true) (hl : storeLocals Ls k x = some l') (g : own_Go tb e below P (T.setTop (mkF m (pc + 2) l' (st)))) : own_Go tb e below P (T.setTop (mkF m pc Ls (x :: st))) := own_go (fun t k => XS.astore h hx rfl (hb hby hd) rfl hv hl k) g
theorem own_iconst {tb : Tables} [Ours tb] {e : Env} {below : List Frame} {T : State} {m : MethodId} {c : Code} {P : State → Prop} {pc : Nat} {Ls : Array Slot} {st : List Value} {bc : ByteArray} (h : At T m c below) (hx : tb.exec = Jvm.exec) (hby : c.code = bc) {i : Int} {v : Int32} (hd : decode bc pc = .ok (.iconst i, 1)) (hv : Int32.ofInt i = v) (g : own_Go tb e below P (T.setTop (mkF m (pc + 1) Ls ((.int v) :: st)))) : own_Go tb e below P (T.setTop (mkF m pc Ls st)) := by
  subst hv
  exact own_go (fun t k => XS.iconst h hx rfl (hb hby hd) k) g
theorem own_bipush {tb : Tables} [Ours tb] {e : Env} {below : List Frame} {T : State} {m : MethodId} {c : Code} {P : State → Prop} {pc : Nat} {Ls : Array Slot} {st : List Value} {bc : ByteArray} (h : At T m c below) (hx : tb.exec = Jvm.exec) (hby : c.code = bc) {i : Int} {v : Int32} (hd : decode bc pc = .ok (.bipush i, 2)) (hv : (Int8.ofInt i).toInt32 = v) (g : own_Go tb e below P (T.setTop (mkF m (pc + 2) Ls ((.int v) :: st)))) : own_Go tb e below P (T.setTop (mkF m pc Ls st)) := by
  subst hv
  exact own_go (fun t k => XS.bipush h hx rfl (hb hby hd) k) g
theorem own_sipush {tb : Tables} [Ours tb] {e : Env} {below : List Frame} {T : State} {m : MethodId} {c : Code} {P : State → Prop} {pc : Nat} {Ls : Array Slot} {st : List Value} {bc : ByteArray} (h : At T m c below) (hx : tb.exec = Jvm.exec) (hby : c.code = bc) {i : Int} {v : Int32} (hd : decode bc pc = .ok (.sipush i, 3)) (hv : (Int16.ofInt i).toInt32 = v) (g : own_Go tb e below P (T.setTop (mkF m (pc + 3) Ls ((.int v) :: st)))) : own_Go tb e below P (T.setTop (mkF m pc Ls st)) := by
  subst hv
  exact own_go (fun t k => XS.sipush h hx rfl (hb hby hd) k) g
theorem own_aconstNull {tb : Tables} [Ours tb] {e : Env} {below : List Frame} {T : State} {m : MethodId} {c : Code} {P : State → Prop} {pc : Nat} {Ls : Array Slot} {st : List Value} {bc : ByteArray} (h : At T m c below) (hx : tb.exec = Jvm.exec) (hby : c.code = bc)  (hd : decode bc pc = .ok (.aconst_null, 1)) (g : own_Go tb e below P (T.setTop (mkF m (pc + 1) Ls (.null :: st)))) : own_Go tb e below P (T.setTop (mkF m pc Ls (st))) := own_go (fun t k => XS.aconstNull h hx rfl (hb hby hd)  k) g
theorem own_iadd {tb : Tables} [Ours tb] {e : Env} {below : List Frame} {T : State} {m : MethodId} {c : Code} {P : State → Prop} {pc : Nat} {Ls : Array Slot} {st : List Value} {bc : ByteArray} (h : At T m c below) (hx : tb.exec = Jvm.exec) (hby : c.code = bc) {x y v : Int32} (hd : decode bc pc = .ok (.iadd, 1)) (hv : (x + y) = v) (g : own_Go tb e below P (T.setTop (mkF m (pc + 1) Ls ((.int v) :: st)))) : own_Go tb e below P (T.setTop (mkF m pc Ls ((.int y) :: (.int x) :: st))) := by
  subst hv
  exact own_go (fun t k => XS.iadd h hx rfl (hb hby hd) rfl k) g
theorem own_isub {tb : Tables} [Ours tb] {e : Env} {below : List Frame} {T : State} {m : MethodId} {c : Code} {P : State → Prop} {pc : Nat} {Ls : Array Slot} {st : List Value} {bc : ByteArray} (h : At T m c below) (hx : tb.exec = Jvm.exec) (hby : c.code = bc) {x y v : Int32} (hd : decode bc pc = .ok (.isub, 1)) (hv : (x - y) = v) (g : own_Go tb e below P (T.setTop (mkF m (pc + 1) Ls ((.int v) :: st)))) : own_Go tb e below P (T.setTop (mkF m pc Ls ((.int y) :: (.int x) :: st))) := by
  subst hv
  exact own_go (fun t k => XS.isub h hx rfl (hb hby hd) rfl k) g
theorem own_iand {tb : Tables} [Ours tb] {e : Env} {below : List Frame} {T : State} {m : MethodId} {c : Code} {P : State → Prop} {pc : Nat} {Ls : Array Slot} {st : List Value} {bc : ByteArray} (h : At T m c below) (hx : tb.exec = Jvm.exec) (hby : c.code = bc) {x y v : Int32} (hd : decode bc pc = .ok (.iand, 1)) (hv : (x &&& y) = v) (g : own_Go tb e below P (T.setTop (mkF m (pc + 1) Ls ((.int v) :: st)))) : own_Go tb e below P (T.setTop (mkF m pc Ls ((.int y) :: (.int x) :: st))) := by
  subst hv
  exact own_go (fun t k => XS.iand h hx rfl (hb hby hd) rfl k) g
theorem own_ishl {tb : Tables} [Ours tb] {e : Env} {below : List Frame} {T : State} {m : MethodId} {c : Code} {P : State → Prop} {pc : Nat} {Ls : Array Slot} {st : List Value} {bc : ByteArray} (h : At T m c below) (hx : tb.exec = Jvm.exec) (hby : c.code = bc) {x y v : Int32} (hd : decode bc pc = .ok (.ishl, 1)) (hv : (x <<< (y &&& 31)) = v) (g : own_Go tb e below P (T.setTop (mkF m (pc + 1) Ls ((.int v) :: st)))) : own_Go tb e below P (T.setTop (mkF m pc Ls ((.int y) :: (.int x) :: st))) := by
  subst hv
  exact own_go (fun t k => XS.ishl h hx rfl (hb hby hd) rfl k) g
theorem own_ishr {tb : Tables} [Ours tb] {e : Env} {below : List Frame} {T : State} {m : MethodId} {c : Code} {P : State → Prop} {pc : Nat} {Ls : Array Slot} {st : List Value} {bc : ByteArray} (h : At T m c below) (hx : tb.exec = Jvm.exec) (hby : c.code = bc) {x y v : Int32} (hd : decode bc pc = .ok (.ishr, 1)) (hv : (x >>> (y &&& 31)) = v) (g : own_Go tb e below P (T.setTop (mkF m (pc + 1) Ls ((.int v) :: st)))) : own_Go tb e below P (T.setTop (mkF m pc Ls ((.int y) :: (.int x) :: st))) := by
  subst hv
  exact own_go (fun t k => XS.ishr h hx rfl (hb hby hd) rfl k) g
theorem own_iushr {tb : Tables} [Ours tb] {e : Env} {below : List Frame} {T : State} {m : MethodId} {c : Code} {P : State → Prop} {pc : Nat} {Ls : Array Slot} {st : List Value} {bc : ByteArray} (h : At T m c below) (hx : tb.exec = Jvm.exec) (hby : c.code = bc) {x y v : Int32} (hd : decode bc pc = .ok (.iushr, 1)) (hv : ((x.toUInt32 >>> (y &&& 31).toUInt32).toInt32) = v) (g : own_Go tb e below P (T.setTop (mkF m (pc + 1) Ls ((.int v) :: st)))) : own_Go tb e below P (T.setTop (mkF m pc Ls ((.int y) :: (.int x) :: st))) := by
  subst hv
  exact own_go (fun t k => XS.iushr h hx rfl (hb hby hd) rfl k) g
theorem own_i2c {tb : Tables} [Ours tb] {e : Env} {below : List Frame} {T : State} {m : MethodId} {c : Code} {P : State → Prop} {pc : Nat} {Ls : Array Slot} {st : List Value} {bc : ByteArray} (h : At T m c below) (hx : tb.exec = Jvm.exec) (hby : c.code = bc) {x : Int32} {v : Int32} (hd : decode bc pc = .ok (.i2c, 1)) (hv : (x.toUInt32.toUInt16.toUInt32.toInt32) = v) (g : own_Go tb e below P (T.setTop (mkF m (pc + 1) Ls ((.int v) :: st)))) : own_Go tb e below P (T.setTop (mkF m pc Ls ((.int x) :: st))) := by
  subst hv
  exact own_go (fun t k => XS.i2c h hx rfl (hb hby hd) rfl k) g
theorem own_dup {tb : Tables} [Ours tb] {e : Env} {below : List Frame} {T : State} {m : MethodId} {c : Code} {P : State → Prop} {pc : Nat} {Ls : Array Slot} {st : List Value} {bc : ByteArray} (h : At T m c below) (hx : tb.exec = Jvm.exec) (hby : c.code = bc) {x : Value} (hd : decode bc pc = .ok (.dup, 1)) (hc : x.category = 1) (g : own_Go tb e below P (T.setTop (mkF m (pc + 1) Ls (x :: x :: st)))) : own_Go tb e below P (T.setTop (mkF m pc Ls (x :: st))) := own_go (fun t k => XS.dup h hx rfl (hb hby hd) rfl hc k) g
theorem own_pop {tb : Tables} [Ours tb] {e : Env} {below : List Frame} {T : State} {m : MethodId} {c : Code} {P : State → Prop} {pc : Nat} {Ls : Array Slot} {st : List Value} {bc : ByteArray} (h : At T m c below) (hx : tb.exec = Jvm.exec) (hby : c.code = bc) {x : Value} (hd : decode bc pc = .ok (.pop, 1)) (hc : x.category = 1) (g : own_Go tb e below P (T.setTop (mkF m (pc + 1) Ls (st)))) : own_Go tb e below P (T.setTop (mkF m pc Ls (x :: st))) := own_go (fun t k => XS.pop h hx rfl (hb hby hd) rfl hc k) g
theorem own_goto {tb : Tables} [Ours tb] {e : Env} {below : List Frame} {T : State} {m : MethodId} {c : Code} {P : State → Prop} {pc : Nat} {Ls : Array Slot} {st : List Value} {bc : ByteArray} (h : At T m c below) (hx : tb.exec = Jvm.exec) (hby : c.code = bc) {o : Int} {pc' : Nat} (hd : decode bc pc = .ok (.goto o, 3)) (ho : 0 ≤ (pc : Int) + o) (hp : ((pc : Int) + o).toNat = pc') (g : own_Go tb e below P (T.setTop (mkF m pc' Ls st))) : own_Go tb e below P (T.setTop (mkF m pc Ls st)) := own_go (fun t k => XS.goto h hx rfl (pc0 := pc) rfl (hb hby hd) ho hp k) g
theorem own_ifYes {tb : Tables} [Ours tb] {e : Env} {below : List Frame} {T : State} {m : MethodId} {c : Code} {P : State → Prop} {pc : Nat} {Ls : Array Slot} {st : List Value} {bc : ByteArray} (h : At T m c below) (hx : tb.exec = Jvm.exec) (hby : c.code = bc) {cd : ClassFile.Cond} {o : Int} {pc' : Nat} {x : Int32} (hd : decode bc pc = .ok (.ifCond cd o, 3)) (hc : ifCond.holds cd x = true) (ho : 0 ≤ (pc : Int) + o) (hp : ((pc : Int) + o).toNat = pc') (g : own_Go tb e below P (T.setTop (mkF m pc' Ls st))) : own_Go tb e below P (T.setTop (mkF m pc Ls ((.int x) :: st))) := own_go (fun t k => XS.ifYes h hx rfl (pc0 := pc) rfl (hb hby hd) rfl hc ho hp k) g
theorem own_ifNo {tb : Tables} [Ours tb] {e : Env} {below : List Frame} {T : State} {m : MethodId} {c : Code} {P : State → Prop} {pc : Nat} {Ls : Array Slot} {st : List Value} {bc : ByteArray} (h : At T m c below) (hx : tb.exec = Jvm.exec) (hby : c.code = bc) {cd : ClassFile.Cond} {o : Int} {x : Int32} (hd : decode bc pc = .ok (.ifCond cd o, 3)) (hc : ifCond.holds cd x = false) (g : own_Go tb e below P (T.setTop (mkF m (pc + 3) Ls st))) : own_Go tb e below P (T.setTop (mkF m pc Ls ((.int x) :: st))) := own_go (fun t k => XS.ifNo h hx rfl (hb hby hd) rfl hc k) g
theorem own_icmpYes {tb : Tables} [Ours tb] {e : Env} {below : List Frame} {T : State} {m : MethodId} {c : Code} {P : State → Prop} {pc : Nat} {Ls : Array Slot} {st : List Value} {bc : ByteArray} (h : At T m c below) (hx : tb.exec = Jvm.exec) (hby : c.code = bc) {cd : ClassFile.Cond} {o : Int} {pc' : Nat} {x y : Int32} (hd : decode bc pc = .ok (.if_icmp cd o, 3)) (hc : if_icmp.holds cd x y = true) (ho : 0 ≤ (pc : Int) + o) (hp : ((pc : Int) + o).toNat = pc') (g : own_Go tb e below P (T.setTop (mkF m pc' Ls st))) : own_Go tb e below P (T.setTop (mkF m pc Ls ((.int y) :: (.int x) :: st))) := own_go (fun t k => XS.icmpYes h hx rfl (pc0 := pc) rfl (hb hby hd) rfl hc ho hp k) g
theorem own_icmpNo {tb : Tables} [Ours tb] {e : Env} {below : List Frame} {T : State} {m : MethodId} {c : Code} {P : State → Prop} {pc : Nat} {Ls : Array Slot} {st : List Value} {bc : ByteArray} (h : At T m c below) (hx : tb.exec = Jvm.exec) (hby : c.code = bc) {cd : ClassFile.Cond} {o : Int} {x y : Int32} (hd : decode bc pc = .ok (.if_icmp cd o, 3)) (hc : if_icmp.holds cd x y = false) (g : own_Go tb e below P (T.setTop (mkF m (pc + 3) Ls st))) : own_Go tb e below P (T.setTop (mkF m pc Ls ((.int y) :: (.int x) :: st))) := own_go (fun t k => XS.icmpNo h hx rfl (hb hby hd) rfl hc k) g
theorem own_ifnonnullYes {tb : Tables} [Ours tb] {e : Env} {below : List Frame} {T : State} {m : MethodId} {c : Code} {P : State → Prop} {pc : Nat} {Ls : Array Slot} {st : List Value} {bc : ByteArray} (h : At T m c below) (hx : tb.exec = Jvm.exec) (hby : c.code = bc) {o : Int} {pc' : Nat} {b : Addr} (hd : decode bc pc = .ok (.ifnonnull o, 3)) (ho : 0 ≤ (pc : Int) + o) (hp : ((pc : Int) + o).toNat = pc') (g : own_Go tb e below P (T.setTop (mkF m pc' Ls st))) : own_Go tb e below P (T.setTop (mkF m pc Ls ((.ref b) :: st))) := own_go (fun t k => XS.ifnonnullYes h hx rfl (pc0 := pc) rfl (hb hby hd) rfl ho hp k) g
section OwnGo
variable {p : Program} {l : Launch} {e : Env} {R : Room} {s : State} {m : MethodId} {args : Array Value} {below : List Frame} {meth : Method} {c : Code} {T : State} {locs : List Loc} {cells slots : Nat} {Z : State} {a0 : Array Value} {h : Heap} {P : State → Prop} {pc : Nat} {Ls : Array Slot} {st : List Value} {bc : ByteArray} {n0 : Nat}
theorem own_getF (X : Stand p l e R s m args below meth c T locs cells slots) (hx : p.tables.exec = Jvm.exec) (hZ : Z.Warmed39 s.vm) {own R0 O n d host : String} {index : Nat} (hown : s.vm.findClass own = some m.cls) (w : (Cond.fieldLink own index R0 n d).before a0 Z = true ∨ (Cond.fieldLinkNest own index R0 n d host).before a0 Z = true) (via : Via Z R0 O n d) (eT : T.heap = h) {a : Addr} {v : Value} (F : Fld Z h a O n d v) (hby : c.code = bc) (hd : decode bc pc = .ok (.getfield index, 3)) (k : ∀ T', Stand p l e R s m args below meth c T' locs cells slots → T'.heap = h → own_Go p.tables e below P (T'.setTop (mkF m (pc + 3) Ls (v :: st)))) : own_Go p.tables e below P (T.setTop (mkF m pc Ls ((.ref a) :: st))) := by
  obtain ⟨T', X', e', sp⟩ := getF X hx hZ hown w via eT F (g := mkF m pc Ls ((.ref a) :: st)) rfl rfl (hb hby hd)
  exact own_go sp (k T' X' e')
theorem own_getS (X : Stand p l e R s m args below meth c T locs cells slots) (hx : p.tables.exec = Jvm.exec) (hZ : Z.Warmed39 s.vm) {own R0 O n d host : String} {index : Nat} (hown : s.vm.findClass own = some m.cls) (w : (Cond.fieldLink own index R0 n d).before a0 Z = true ∨ (Cond.fieldLinkNest own index R0 n d host).before a0 Z = true) (via : Via Z R0 O n d) (eT : T.heap = h) {v : Value} (F : Sta Z h O n d v) (hby : c.code = bc) (hd : decode bc pc = .ok (.getstatic index, 3)) (k : ∀ T', Stand p l e R s m args below meth c T' locs cells slots → T'.heap = h → own_Go p.tables e below P (T'.setTop (mkF m (pc + 3) Ls (v :: st)))) : own_Go p.tables e below P (T.setTop (mkF m pc Ls st)) := by
  obtain ⟨T', X', e', sp⟩ := getS2 X hx hZ hown w via eT F (g := mkF m pc Ls st) rfl (hb hby hd)
  exact own_go sp (k T' X' e')
theorem own_putF (X : Stand p l e R s m args below meth c T locs cells slots) (hx : p.tables.exec = Jvm.exec) (hZ : Z.Warmed39 s.vm) {C : String} {kk : Nat} {ty : FieldType} {own R0 O n d host : String} {index : Nat} (hown : s.vm.findClass own = some m.cls) (w : (Cond.fieldLink own index R0 n d).before a0 Z = true ∨ (Cond.fieldLinkNest own index R0 n d host).before a0 Z = true) (via : Via Z R0 O n d) (eT : T.heap = h) {a : Addr} {v old : Value} (F : Fld Z h a O n d old) (E : Exa Z h a C) (L : (Cond.lays C O n d).before a0 Z = true ∨ ((Cond.laysFinal C O n d).before a0 Z = true ∧ own = O ∧ meth.name = "<init>")) (wi : (Cond.instantiable C kk).before a0 Z = true) (hty : parseFieldDescriptor d = some ty) (hn : narrow ty v = v) (hf : fits ty v = true) (hby : c.code = bc) (hd : decode bc pc = .ok (.putfield index, 3)) (N : Fr n0 locs) (ge : n0 ≤ a) (k : ∀ T' h' locs', Stand p l e R s m args below meth c T' locs' cells slots → T'.heap = h' → Fr n0 locs' → Wr h h' a (Jvm.RoadKit.slotOf Z O n d) v → Fld Z h' a O n d v → h.size ≤ h'.size → own_Go p.tables e below P (T'.setTop (mkF m (pc + 3) Ls st))) : own_Go p.tables e below P (T.setTop (mkF m pc Ls (v :: (.ref a) :: st))) := by
  obtain ⟨T', h', X', e', W, sp⟩ := putF X hx hZ hown w via eT F E L wi hty hn hf (g := mkF m pc Ls (v :: (.ref a) :: st)) rfl rfl (hb hby hd)
  exact own_go sp (k T' h' _ X' e' (Fr.snoc X' N ge) W (F.same W) (Keep.of_wr W).1)
theorem own_putFN (X : Stand p l e R s m args below meth c T locs cells slots) (hx : p.tables.exec = Jvm.exec) (hZ : Z.Warmed39 s.vm) {own R0 O n d C : String} {index kk : Nat} {ty : FieldType} (hown : s.vm.findClass own = some m.cls) (w : (Cond.fieldLink own index R0 n d).before a0 Z = true) (via : Via Z R0 O n d) (eT : T.heap = h) {a : Addr} {v v' old : Value} (F : Fld Z h a O n d old) (E : Exa Z h a C) (L : (Cond.lays C O n d).before a0 Z = true ∨ ((Cond.laysFinal C O n d).before a0 Z = true ∧ own = O ∧ meth.name = "<init>")) (wi : (Cond.instantiable C kk).before a0 Z = true) (hty : parseFieldDescriptor d = some ty) (hn : narrow ty v = v') (hf : fits ty v' = true) (hby : c.code = bc) (hd : decode bc pc = .ok (.putfield index, 3)) (N : Fr n0 locs) (ge : n0 ≤ a) (k : ∀ T' h' locs', Stand p l e R s m args below meth c T' locs' cells slots → T'.heap = h' → Fr n0 locs' → Wr h h' a (Jvm.RoadKit.slotOf Z O n d) v' → Fld Z h' a O n d v' → h.size ≤ h'.size → own_Go p.tables e below P (T'.setTop (mkF m (pc + 3) Ls st))) : own_Go p.tables e below P (T.setTop (mkF m pc Ls (v :: (.ref a) :: st))) := by
  obtain ⟨T', h', X', e', W, sp⟩ := putFN X hx hZ hown w via eT F E L wi hty hn hf (g := mkF m pc Ls (v :: (.ref a) :: st)) rfl rfl (hb hby hd)
  exact own_go sp (k T' h' _ X' e' (Fr.snoc X' N ge) W (F.same W) (Keep.of_wr W).1)
theorem own_newO (X : Stand p l e R s m args below meth c T locs cells slots) (hx : p.tables.exec = Jvm.exec) (hZ : Z.Warmed39 s.vm) {own C : String} {index n : Nat} (hown : s.vm.findClass own = some m.cls) (w : (Cond.classLink own index C).before a0 Z = true) (wi : (Cond.instantiable C n).before a0 Z = true) (wz : (Cond.initialized C).before a0 Z = true) (eT : T.heap = h) (hby : c.code = bc) (hd : decode bc pc = .ok (.new index, 3)) (hc : cells + 1 ≤ R.cells) (hl : slots + n ≤ R.slots) (k : ∀ T' h' b, Stand p l e R s m args below meth c T' locs (cells + 1) (slots + n) → T'.heap = h' → Ext h h' → b = h.size → Exa Z h' b C → (∀ {O nm d : String} {ty : FieldType}, Laid Z a0 C O nm d → parseFieldDescriptor d = some ty → Fld Z h' b O nm d (defaultValue ty)) → b < h'.size → own_Go p.tables e below P (T'.setTop (mkF m (pc + 3) Ls ((.ref b) :: st)))) : own_Go p.tables e below P (T.setTop (mkF m pc Ls st)) := by
  obtain ⟨T', h', X', e', E, A, D, -, sp⟩ := newO X hx hZ hown w wi wz eT (g := mkF m pc Ls st) rfl (hb hby hd) hc hl
  exact own_go sp (k T' h' _ X' e' E rfl A D A.lt)
theorem own_newP (X : Stand p l e R s m args below meth c T locs cells slots) (hx : p.tables.exec = Jvm.exec) (hZ : Z.Warmed39 s.vm) {aty : ArrayType} (w : (Cond.arrayClass (newarray.typeOf aty)).before a0 Z = true) (eT : T.heap = h) (hby : c.code = bc) (hd : decode bc pc = .ok (.newarray aty, 2)) {n : Int32} (hn : ¬ n < 0) (cap : Nat) (hcap : n.toNatClampNeg ≤ cap) (hb8 : cap * 8 ≤ 536870912) (hc : cells + 1 ≤ R.cells) (hl : slots + cap ≤ R.slots) {ad : String} (had : "[" ++ (newarray.typeOf aty).toString = ad) (k : ∀ T' h' cA b, Stand p l e R s m args below meth c T' locs (cells + 1) (slots + cap) → T'.heap = h' → Ext h h' → b = h.size → Arv Z h' b cA (newarray.typeOf aty) n [] (defaultValue (newarray.typeOf aty)) → Exa Z h' b ad → b < h'.size → own_Go p.tables e below P (T'.setTop (mkF m (pc + 2) Ls ((.ref b) :: st)))) : own_Go p.tables e below P (T.setTop (mkF m pc Ls ((.int n) :: st))) := by
  obtain ⟨T', h', cA, X', e', E, A, C, sp⟩ := newPE X hx hZ w eT (g := mkF m pc Ls ((.int n) :: st)) rfl (hb hby hd) rfl hn (cap := cap) hcap hb8 hc hl had
  exact own_go sp (k T' h' cA _ X' e' E rfl (Arv.new A hn) C C.lt)
theorem own_castore (X : Stand p l e R s m args below meth c T locs cells slots) (hx : p.tables.exec = Jvm.exec) (hZ : Z.Warmed39 s.vm) (eT : T.heap = h) {a : Addr} {kc : ClassId} {z j : Int32} {x : Int32} {w : Value} {vs : List Value} {dv : Value} (V : Arv Z h a kc .char z vs dv) (hj : ¬ j < 0 ∧ j < z) (i : Nat) (hi : j.toNatClampNeg = i) (hl : i < vs.length) (hv : (.int (nar .char x)) = w) (hby : c.code = bc) (hd : decode bc pc = .ok (.castore, 1)) (N : Fr n0 locs) (ge : n0 ≤ a) (k : ∀ T' h' locs', Stand p l e R s m args below meth c T' locs' cells slots → T'.heap = h' → Fr n0 locs' → Wr h h' a i w → Arv Z h' a kc .char z (vs.set i w) dv → h.size ≤ h'.size → own_Go p.tables e below P (T'.setTop (mkF m (pc + 1) Ls st))) : own_Go p.tables e below P (T.setTop (mkF m pc Ls ((.int x) :: (.int j) :: (.ref a) :: st))) := by
  subst hv hi
  obtain ⟨cl, A, q, S, M, H, G⟩ := V
  obtain ⟨T', h', X', e', W, sp⟩ := stC X hx hZ eT A (j := j) (inb_of S hj) (g := mkF m pc Ls ((.int x) :: (.int j) :: (.ref a) :: st)) rfl rfl (hb hby hd)
  exact own_go sp (k T' h' _ X' e' (Fr.snoc X' N ge) W (Arv.set A q S M H G (fits_nar_char _) W _ rfl hl) (Keep.of_wr W).1)
theorem own_baload (X : Stand p l e R s m args below meth c T locs cells slots) (hx : p.tables.exec = Jvm.exec) (hZ : Z.Warmed39 s.vm) (eT : T.heap = h) {a : Addr} {kc : ClassId} {z j : Int32} {v : Value} {vs : List Value} {dv : Value} (V : Arv Z h a kc .byte z vs dv) (hj : ¬ j < 0 ∧ j < z) (hv : vs.getD j.toNatClampNeg dv = v) (hby : c.code = bc) (hd : decode bc pc = .ok (.baload, 1)) (k : own_Go p.tables e below P (T.setTop (mkF m (pc + 1) Ls (v :: st)))) : own_Go p.tables e below P (T.setTop (mkF m pc Ls ((.int j) :: (.ref a) :: st))) := by
  obtain ⟨cl, A, q, S, M, H, G⟩ := V
  exact own_go (fun t q => X.baloadBytes hx (by rw [eT]; exact A.1) (State.isArrayOf_alike hZ.alike A.2.1) A.2.2 (inb_of S hj) (Has.at H (inb_of S hj) hv) (g := mkF m pc Ls ((.int j) :: (.ref a) :: st)) rfl rfl (hb hby hd) t q) k
theorem own_alen (X : Stand p l e R s m args below meth c T locs cells slots) (hx : p.tables.exec = Jvm.exec) (hZ : Z.Warmed39 s.vm) (eT : T.heap = h) {a : Addr} {kc : ClassId} {ty : FieldType} {z : Int32} {vs : List Value} {dv : Value} (V : Arv Z h a kc ty z vs dv) (hby : c.code = bc) (hd : decode bc pc = .ok (.arraylength, 1)) (k : own_Go p.tables e below P (T.setTop (mkF m (pc + 1) Ls ((.int z) :: st)))) : own_Go p.tables e below P (T.setTop (mkF m pc Ls ((.ref a) :: st))) := by
  obtain ⟨cl, A, q, S, M, H, G⟩ := V
  refine own_go (fun t q => X.arraylength hx (by rw [eT]; exact A.1) (State.isArrayOf_alike hZ.alike A.2.1) (g := mkF m pc Ls ((.ref a) :: st)) rfl rfl (hb hby hd) t q) ?_
  rw [len_of S M]; exact k
theorem own_initO (X : Stand p l e R s m args below meth c T locs cells slots) (hx : p.tables.exec = Jvm.exec) (hZ : Z.Warmed39 s.vm) {own : String} {idx : Nat} (hown : s.vm.findClass own = some m.cls) (w1 : (Cond.methodLink own idx Lib.objectInit).before a0 Z = true) (w2 : (Cond.instanceMethod Lib.objectInit).before a0 Z = true) (w3 : (Cond.code Lib.objectInit ⟨#[0xb1]⟩ 1 none).before a0 Z = true) (eT : T.heap = h) (hsize : Ls.size = c.maxLocals) {a : Addr} (hby : c.code = bc) (hd : decode bc pc = .ok (.invokespecial idx, 3)) (hf : 1 ≤ R.frames) (W : Nat) (hW : 2 * 0 + (st.map fun v => v.category).sum ≤ W) (hl : W + 12 ≤ R.locals) (k : ∀ T', Stand p l e R s m args below meth c T' locs cells slots → T'.heap = h → own_Go p.tables e below P (T'.setTop (mkF m (pc + 3) Ls st))) : own_Go p.tables e below P (T.setTop (mkF m pc Ls ((.ref a) :: st))) := by
  obtain ⟨T', X', e', sp⟩ := initO X hx hZ hown w1 w2 w3 eT (g := mkF m pc Ls ((.ref a) :: st)) rfl hsize rfl (hb hby hd) hf (W := W) hW hl
  exact own_go sp (k T' X' e')
theorem own_callS (X : Stand p l e R s m args below meth c T locs cells slots) (hx : p.tables.exec = Jvm.exec) (hZ : Z.Warmed39 s.vm) {own : String} {index : Nat} {y : MethodName} {bytes : ByteArray} {maxL : Nat} {ret : Option FieldType} {rm : Room} {Qc : Option Value → Heap → List Loc → Prop} {as' : Array Value} (hown : s.vm.findClass own = some m.cls) (w1 : (Cond.methodLink own index y).before a0 Z = true) (w2 : (Cond.static y).before a0 Z = true) (w3 : (Cond.initialized y.cls).before a0 Z = true) (w4 : (Cond.code y bytes maxL ret).before a0 Z = true) (hy : y.cls ≠ "java/lang/invoke/MethodHandle" ∧ y.cls ≠ "java/lang/invoke/VarHandle") (hM : MetFree l y (head1 [Cond.code y bytes maxL ret] rm) (fun a U => a = as' ∧ Z.Warmed39 U.vm ∧ U.heap = h) (fun _ _ _ _ _ => True) (fun _ U o U' => ∃ v L, o = .returned v ∧ Qc v U'.heap L ∧ FrameEnd U o U' L rm.cells rm.slots)) (W : Nat) (hW : 2 * 0 + (st.map fun v => v.category).sum ≤ W) (hf : rm.frames + 1 ≤ R.frames) (hl : W + (maxL + 11) + rm.locals ≤ R.locals) (hsize : Ls.size = c.maxLocals) {argsL stk : List Value} (hlen : ∀ sig, parseMethodDescriptor y.desc = some sig → argsL.length = sig.parameters.length) (hstk : stk = argsL.reverse ++ st) (has : argsL.toArray = as') (hc : cells + rm.cells ≤ R.cells) (hs : slots + rm.slots ≤ R.slots) (eT : T.heap = h) (hby : c.code = bc) (hd : decode bc pc = .ok (.invokestatic index, 3)) (k : ∀ T' v L, Stand p l e R s m args below meth c T' (locs ++ L) (cells + rm.cells) (slots + rm.slots) → Qc v T'.heap L → own_Go p.tables e below P (T'.setTop (mkF m (pc + 3) Ls (v.toList ++ st)))) : own_Go p.tables e below P (T.setTop (mkF m pc Ls stk)) := by
  subst hstk
  obtain ⟨v, _, ⟨T', L', k', n'⟩, -, X', ⟨L, hQ, hl', hy', hz'⟩, sp⟩ := Jvm.LawKit.callS X hx hown (mvT hZ w1) (mvT hZ w2) (mvT hZ w3) (mvT hZ w4) hy (backOf (W := W) hM hZ w4 w3 hf hl) (g := mkF m pc Ls (argsL.reverse ++ st)) rfl hsize (argsL := argsL) (rest := st) hlen rfl hW (hb hby hd) (fun _ _ => ⟨has, eT, hc, hs⟩)
  dsimp only [Pt.U, Pt.locs, Pt.cells, Pt.slots] at X' hl' hy' hz' sp hQ
  subst hl' hy' hz'
  exact own_go sp (k T' v L X' hQ)
theorem own_special (X : Stand p l e R s m args below meth c T locs cells slots) (hx : p.tables.exec = Jvm.exec) (hZ : Z.Warmed39 s.vm) {own : String} {index : Nat} {y : MethodName} {bytes : ByteArray} {maxL : Nat} {rm : Room} {Qc : Option Value → Heap → List Loc → Prop} {as' : Array Value} (hy1 : y.name = "<init>") (hown : s.vm.findClass own = some m.cls) (w1 : (Cond.methodLink own index y).before a0 Z = true) (w2 : (Cond.instanceMethod y).before a0 Z = true) (w3 : (Cond.initialized y.cls).before a0 Z = true) (w4 : (Cond.code y bytes maxL none).before a0 Z = true) (hy : y.cls ≠ "java/lang/invoke/MethodHandle" ∧ y.cls ≠ "java/lang/invoke/VarHandle") (hM : MetFree l y (head1 [Cond.code y bytes maxL none] rm) (fun a U => a = as' ∧ Z.Warmed39 U.vm ∧ U.heap = h) (fun _ _ _ _ _ => True) (fun _ U o U' => ∃ v L, o = .returned v ∧ Qc v U'.heap L ∧ FrameEnd U o U' L rm.cells rm.slots)) (W : Nat) (hW : 2 * 0 + (st.map fun v => v.category).sum ≤ W) (hf : rm.frames + 1 ≤ R.frames) (hl : W + (maxL + 11) + rm.locals ≤ R.locals) (hsize : Ls.size = c.maxLocals) {argsL stk : List Value} {a : Addr} (hlen : ∀ sig, parseMethodDescriptor y.desc = some sig → argsL.length = sig.parameters.length) (hstk : stk = argsL.reverse ++ (.ref a) :: st) (has : ((.ref a) :: argsL).toArray = as') (hc : cells + rm.cells ≤ R.cells) (hs : slots + rm.slots ≤ R.slots) (eT : T.heap = h) (hby : c.code = bc) (hd : decode bc pc = .ok (.invokespecial index, 3)) (k : ∀ T' v L, Stand p l e R s m args below meth c T' (locs ++ L) (cells + rm.cells) (slots + rm.slots) → Qc v T'.heap L → own_Go p.tables e below P (T'.setTop (mkF m (pc + 3) Ls (v.toList ++ st)))) : own_Go p.tables e below P (T.setTop (mkF m pc Ls stk)) := by
  subst hstk
  obtain ⟨v, _, ⟨T', L', k', n'⟩, -, X', ⟨L, hQ, hl', hy', hz'⟩, sp⟩ := X.specialBack hx hy1 hown (mvT hZ w1) (mvT hZ w2) (mvT hZ w4) hy (backOf (W := W) hM hZ w4 w3 hf hl) (g := mkF m pc Ls (argsL.reverse ++ (.ref a) :: st)) rfl hsize (Steps.refl _) (a := a) (argsL := argsL) (rest := st) hlen rfl hW (hb hby hd) (fun _ _ => ⟨has, eT, hc, hs⟩)
  dsimp only [Pt.U, Pt.locs, Pt.cells, Pt.slots] at X' hl' hy' hz' sp hQ
  subst hl' hy' hz'
  exact own_go (fun t q => sp.trans q) (k T' v L X' hQ)
theorem own_virtual (X : Stand p l e R s m args below meth c T locs cells slots) (hx : p.tables.exec = Jvm.exec) (hZ : Z.Warmed39 s.vm) {own C : String} {index : Nat} {y z : MethodName} {bytes : ByteArray} {maxL : Nat} {ret : Option FieldType} {rm : Room} {Qc : Option Value → Heap → List Loc → Prop} {as' : Array Value} (hown : s.vm.findClass own = some m.cls) (w1 : (Cond.methodLink own index y).before a0 Z = true) (w2 : (Cond.declares y).before a0 Z = true) (nf : NotFace s y) (w5 : (Cond.selects C y z).before a0 Z = true) (w6 : (Cond.instanceMethod z).before a0 Z = true) (w3 : (Cond.initialized z.cls).before a0 Z = true) (w4 : (Cond.code z bytes maxL ret).before a0 Z = true) (hy : y.cls ≠ "java/lang/invoke/MethodHandle" ∧ y.cls ≠ "java/lang/invoke/VarHandle") (hM : MetFree l z (head1 [Cond.code z bytes maxL ret] rm) (fun a U => a = as' ∧ Z.Warmed39 U.vm ∧ U.heap = h) (fun _ _ _ _ _ => True) (fun _ U o U' => ∃ v L, o = .returned v ∧ Qc v U'.heap L ∧ FrameEnd U o U' L rm.cells rm.slots)) (W : Nat) (hW : 2 * 0 + (st.map fun v => v.category).sum ≤ W) (hf : rm.frames + 1 ≤ R.frames) (hl : W + (maxL + 11) + rm.locals ≤ R.locals) (hsize : Ls.size = c.maxLocals) {argsL stk : List Value} {a : Addr} (E : Exa Z h a C) (hlen : ∀ sig, parseMethodDescriptor y.desc = some sig → argsL.length = sig.parameters.length) (hstk : stk = argsL.reverse ++ (.ref a) :: st) (has : ((.ref a) :: argsL).toArray = as') (hc : cells + rm.cells ≤ R.cells) (hs : slots + rm.slots ≤ R.slots) (eT : T.heap = h) (hby : c.code = bc) (hd : decode bc pc = .ok (.invokevirtual index, 3)) (k : ∀ T' v L, Stand p l e R s m args below meth c T' (locs ++ L) (cells + rm.cells) (slots + rm.slots) → Qc v T'.heap L → own_Go p.tables e below P (T'.setTop (mkF m (pc + 3) Ls (v.toList ++ st)))) : own_Go p.tables e below P (T.setTop (mkF m pc Ls stk)) := by
  subst hstk
  obtain ⟨cq, kq, qa, qb, qc⟩ := isOf hZ eT E
  obtain ⟨v, _, ⟨T', L', k', n'⟩, -, X', ⟨L, hQ, hl', hy', hz'⟩, sp⟩ := X.virtualBack hx hown (mvT hZ w1) (mvT hZ w2) nf (mvT hZ w5) (mvT hZ w6) hy (backOf (W := W) hM hZ w4 w3 hf hl) qa qc (g := mkF m pc Ls (argsL.reverse ++ (.ref a) :: st)) rfl hsize (Steps.refl _) (argsL := argsL) (rest := st) hlen rfl hW (hb hby hd) (fun _ _ => ⟨has, eT, hc, hs⟩)
  dsimp only [Pt.U, Pt.locs, Pt.cells, Pt.slots] at X' hl' hy' hz' sp hQ
  subst hl' hy' hz'
  exact own_go (fun t q => sp.trans q) (k T' v L X' hQ)
theorem own_super (X : Stand p l e R s m args below meth c T locs cells slots) (hx : p.tables.exec = Jvm.exec) (hZ : Z.Warmed39 s.vm) {own C : String} {index : Nat} {y : MethodName} {bytes : ByteArray} {maxL : Nat} {ret : Option FieldType} {rm : Room} {Qc : Option Value → Heap → List Loc → Prop} {as' : Array Value} (hn : y.name ≠ "<init>") (hown : s.vm.findClass own = some m.cls) (w1 : (Cond.methodLink own index y).before a0 Z = true) (w2 : (Cond.sameMethod y.cls y.cls y.name y.desc).before a0 Z = true) (w6 : (Cond.instanceMethod y).before a0 Z = true) (w7 : (Cond.superclass own y.cls).before a0 Z = true) (w3 : (Cond.initialized y.cls).before a0 Z = true) (w4 : (Cond.code y bytes maxL ret).before a0 Z = true) (hM : MetFree l y (head1 [Cond.code y bytes maxL ret] rm) (fun a U => a = as' ∧ Z.Warmed39 U.vm ∧ U.heap = h) (fun _ _ _ _ _ => True) (fun _ U o U' => ∃ v L, o = .returned v ∧ Qc v U'.heap L ∧ FrameEnd U o U' L rm.cells rm.slots)) (W : Nat) (hW : 2 * 0 + (st.map fun v => v.category).sum ≤ W) (hf : rm.frames + 1 ≤ R.frames) (hl : W + (maxL + 11) + rm.locals ≤ R.locals) (hsize : Ls.size = c.maxLocals) {argsL stk : List Value} {a : Addr} (E : Exa Z h a C) (hlen : ∀ sig, parseMethodDescriptor y.desc = some sig → argsL.length = sig.parameters.length) (hstk : stk = argsL.reverse ++ (.ref a) :: st) (has : ((.ref a) :: argsL).toArray = as') (hc : cells + rm.cells ≤ R.cells) (hs : slots + rm.slots ≤ R.slots) (eT : T.heap = h) (hby : c.code = bc) (hd : decode bc pc = .ok (.invokespecial index, 3)) (k : ∀ T' v L, Stand p l e R s m args below meth c T' (locs ++ L) (cells + rm.cells) (slots + rm.slots) → Qc v T'.heap L → own_Go p.tables e below P (T'.setTop (mkF m (pc + 3) Ls (v.toList ++ st)))) : own_Go p.tables e below P (T.setTop (mkF m pc Ls stk)) := by
  subst hstk
  obtain ⟨v, _, ⟨T', L', k', n'⟩, -, X', ⟨L, hQ, hl', hy', hz'⟩, sp⟩ := superBack X hx hZ hown w1 w2 w6 w7 hn (backOf (W := W) hM hZ w4 w3 hf hl) eT (Ins.self E) (g := mkF m pc Ls (argsL.reverse ++ (.ref a) :: st)) rfl hsize w4 (argsL := argsL) (rest := st) hlen rfl hW (hb hby hd) (fun _ _ => ⟨has, eT, hc, hs⟩)
  dsimp only [Pt.U, Pt.locs, Pt.cells, Pt.slots] at X' hl' hy' hz' sp hQ
  subst hl' hy' hz'
  exact own_go (fun t q => sp.trans q) (k T' v L X' hQ)
theorem own_privateS (X : Stand p l e R s m args below meth c T locs cells slots) (hx : p.tables.exec = Jvm.exec) (hZ : Z.Warmed39 s.vm) {own C : String} {index : Nat} {y : MethodName} {bytes : ByteArray} {maxL : Nat} {ret : Option FieldType} {rm : Room} {Qc : Option Value → Heap → List Loc → Prop} {as' : Array Value} (hown : s.vm.findClass own = some m.cls) (w1 : (Cond.methodLink own index y).before a0 Z = true) (w6 : (Cond.instanceMethod y).before a0 Z = true) (w5 : (Cond.selects C y y).before a0 Z = true) (w7 : (Cond.privateMethod y).before a0 Z = true) (w3 : (Cond.initialized y.cls).before a0 Z = true) (w4 : (Cond.code y bytes maxL ret).before a0 Z = true) (hy : y.cls ≠ "java/lang/invoke/MethodHandle" ∧ y.cls ≠ "java/lang/invoke/VarHandle") (hM : MetFree l y (head1 [Cond.code y bytes maxL ret] rm) (fun a U => a = as' ∧ Z.Warmed39 U.vm ∧ U.heap = h) (fun _ _ _ _ _ => True) (fun _ U o U' => ∃ v L, o = .returned v ∧ Qc v U'.heap L ∧ FrameEnd U o U' L rm.cells rm.slots)) (W : Nat) (hW : 2 * 0 + (st.map fun v => v.category).sum ≤ W) (hf : rm.frames + 1 ≤ R.frames) (hl : W + (maxL + 11) + rm.locals ≤ R.locals) (hsize : Ls.size = c.maxLocals) {argsL stk : List Value} {a : Addr} (E : Exa Z h a C) (hlen : ∀ sig, parseMethodDescriptor y.desc = some sig → argsL.length = sig.parameters.length) (hstk : stk = argsL.reverse ++ (.ref a) :: st) (has : ((.ref a) :: argsL).toArray = as') (hc : cells + rm.cells ≤ R.cells) (hs : slots + rm.slots ≤ R.slots) (eT : T.heap = h) (hby : c.code = bc) (hd : decode bc pc = .ok (.invokevirtual index, 3)) (k : ∀ T' v L, Stand p l e R s m args below meth c T' (locs ++ L) (cells + rm.cells) (slots + rm.slots) → Qc v T'.heap L → own_Go p.tables e below P (T'.setTop (mkF m (pc + 3) Ls (v.toList ++ st)))) : own_Go p.tables e below P (T.setTop (mkF m pc Ls stk)) := by
  subst hstk
  obtain ⟨cq, q1, q2⟩ := E.cell
  have hp : s.PrivateAt y := Cond.privateMethod_at (mvP hZ w7 (args := #[]))
  obtain ⟨mk, methM, hnamed, hmethM, -, -⟩ := Cond.instanceMethod_spec (mvT (args := args) hZ w6)
  obtain ⟨kr, hkr, hni⟩ := notFace_of_selects (args := args) (mvT hZ w5) mk hnamed
  obtain ⟨v, _, ⟨T', L', k', n'⟩, -, X', ⟨L, hQ, hl', hy', hz'⟩, sp⟩ := X.privateBack hx hown (mvT hZ w1) (mvT hZ w6) (selects_self_of_private (findClass_of_methodNamed hnamed) hkr hni hp (mvT hZ w6) hy) hp (mvT hZ w4) hy (backOf (W := W) hM hZ w4 w3 hf hl) (g := mkF m pc Ls (argsL.reverse ++ (.ref a) :: st)) rfl hsize (Steps.refl _) (a := a) (by rw [eT]; exact q1) q2 (argsL := argsL) (rest := st) hlen rfl hW (hb hby hd) (fun _ _ => ⟨has, eT, hc, hs⟩)
  dsimp only [Pt.U, Pt.locs, Pt.cells, Pt.slots] at X' hl' hy' hz' sp hQ
  subst hl' hy' hz'
  exact own_go (fun t q => sp.trans q) (k T' v L X' hQ)
theorem own_specialB (X : Stand p l e R s m args below meth c T locs cells slots) (hx : p.tables.exec = Jvm.exec) (hZ : Z.Warmed39 s.vm) {own : String} {index : Nat} {y : MethodName} {bytes : ByteArray} {maxL W : Nat} (hy1 : y.name = "<init>") (hown : s.vm.findClass own = some m.cls) (w1 : (Cond.methodLink own index y).before a0 Z = true) (w2 : (Cond.instanceMethod y).before a0 Z = true) (w4 : (Cond.code y bytes maxL none).before a0 Z = true) (hy : y.cls ≠ "java/lang/invoke/MethodHandle" ∧ y.cls ≠ "java/lang/invoke/VarHandle") {Qc : Option Value → Heap → List Loc → Prop} {as' : Array Value} {kc ks : Nat} (hK : Back l R p e below s args y 3 W (fun A a => a = as' ∧ A.U.heap = h ∧ A.cells + kc ≤ R.cells ∧ A.slots + ks ≤ R.slots) (fun A _ v B => ∃ L, Qc v B.U.heap L ∧ B.locs = A.locs ++ L ∧ B.cells = A.cells + kc ∧ B.slots = A.slots + ks)) (hW : 2 * 0 + (st.map fun v => v.category).sum ≤ W) (hsize : Ls.size = c.maxLocals) {argsL stk : List Value} {a : Addr} (hlen : ∀ sig, parseMethodDescriptor y.desc = some sig → argsL.length = sig.parameters.length) (hstk : stk = argsL.reverse ++ (.ref a) :: st) (has : ((.ref a) :: argsL).toArray = as') (hc : cells + kc ≤ R.cells) (hs : slots + ks ≤ R.slots) (eT : T.heap = h) (hby : c.code = bc) (hd : decode bc pc = .ok (.invokespecial index, 3)) (k : ∀ T' v L, Stand p l e R s m args below meth c T' (locs ++ L) (cells + kc) (slots + ks) → Qc v T'.heap L → own_Go p.tables e below P (T'.setTop (mkF m (pc + 3) Ls (v.toList ++ st)))) : own_Go p.tables e below P (T.setTop (mkF m pc Ls stk)) := by
  subst hstk
  obtain ⟨v, _, ⟨T', L', k', n'⟩, -, X', ⟨L, hQ, hl', hy', hz'⟩, sp⟩ := X.specialBack hx hy1 hown (mvT hZ w1) (mvT hZ w2) (mvT hZ w4) hy hK (g := mkF m pc Ls (argsL.reverse ++ (.ref a) :: st)) rfl hsize (Steps.refl _) (a := a) (argsL := argsL) (rest := st) hlen rfl hW (hb hby hd) (fun _ _ => ⟨has, eT, hc, hs⟩)
  dsimp only [Pt.U, Pt.locs, Pt.cells, Pt.slots] at X' hl' hy' hz' sp hQ
  subst hl' hy' hz'
  exact own_go (fun t q => sp.trans q) (k T' v L X' hQ)
theorem own_copyL (X : Stand p l e R s m args below meth c T locs cells slots) (hx : p.tables.exec = Jvm.exec) (hZ : Z.Warmed39 s.vm) {own : String} {index : Nat} (hown : s.vm.findClass own = some m.cls) (w1 : (Cond.methodLink own index Jvm.Stand.acN).before a0 Z = true) (w2 : (Cond.native Jvm.Stand.acN).before a0 Z = true) (w3 : (Cond.static Jvm.Stand.acN).before a0 Z = true) (w4 : (Cond.initialized "java/lang/System").before a0 Z = true) (eT : T.heap = h) {a b : Addr} {ka kb : ClassId} {ty : FieldType} {z z' sp dp nn : Int32} {vs vd res : List Value} {dv dd : Value} (A : Arv Z h a ka ty z vs dv) (B : Arv Z h b kb ty z' vd dd) (hty : refKind ty = false) (i j n : Nat) (hi : sp.toNatClampNeg = i) (hj : dp.toNatClampNeg = j) (hn : nn.toNatClampNeg = n) (h1 : ¬ sp < 0) (h2 : ¬ dp < 0) (h3 : ¬ nn < 0) (h4 : i + n ≤ z.toNatClampNeg) (h5 : j + n ≤ z'.toNatClampNeg) (hl : j + n ≤ vd.length) (hres : vd.take j ++ ((List.range n).map fun q => vs.getD (i + q) dv) ++ vd.drop (j + n) = res) (N : Fr n0 locs) (ge : n0 ≤ b) (hsize : Ls.size = c.maxLocals) (hby : c.code = bc) (hd : decode bc pc = .ok (.invokestatic index, 3)) (hf : 1 ≤ R.frames) (W : Nat) (hW : 2 * 0 + (st.map fun v => v.category).sum ≤ W) (hlo : W + (nativeFrameWords "java/lang/System" "arraycopy" 5 + 11) ≤ R.locals) (k : ∀ T' h' locs', Stand p l e R s m args below meth c T' locs' cells slots → T'.heap = h' → Fr n0 locs' → Keep h h' [b] → Arv Z h' b kb ty z' res dd → h.size ≤ h'.size → own_Go p.tables e below P (T'.setTop (mkF m (pc + 3) Ls st))) : own_Go p.tables e below P (T.setTop (mkF m pc Ls ((.int nn) :: (.int dp) :: (.ref b) :: (.int sp) :: (.ref a) :: st))) := by
  subst hi hj hn hres
  obtain ⟨T', h', L', X', e', N', K', V', st'⟩ := cpA X hx hZ hown w1 w2 w3 w4 eT A B (sp := sp) (dp := dp) (nn := nn) (us := (List.range nn.toNatClampNeg).map fun q => vs.getD (sp.toNatClampNeg + q) dv) (Or.inl ⟨rfl, hty⟩) h1 h2 h3 h4 h5 rfl hl N ge (g := mkF m pc Ls ((.int nn) :: (.int dp) :: (.ref b) :: (.int sp) :: (.ref a) :: st)) rfl hsize rfl (hb hby hd) hf (W := W) hW hlo
  exact own_go st' (k T' h' L' X' e' N' K' V' K'.1)
theorem own_ldcCH {vm0 : Vm} (X : Stand p l e R (s.setVm vm0) m args below meth c T locs cells slots) (hx : p.tables.exec = Jvm.exec) (hZ : Z.Warmed39 vm0) {own text : String} {index : Nat} {EL : List (String × Nat)} (hEL : EW Z a0 EL) (hown : vm0.findClass own = some m.cls) (w : (Cond.stringLink own index text).before a0 Z = true) (wS : ∀ a ∈ Bundle.stringAtoms, a.before a0 Z = true) (eT : T.heap = h) {k0 : Nat} (hS : s.Since vm0 k0) (hk : k0 ≤ h.size) (H : CHv Z EL vm0 h) (hmem : (own, index) ∈ EL) {vs : List Value} {z : Int32} (ht : (∀ c ∈ text.toList, c.toNat < 256) ∧ text.toList.map (fun c => Value.int (Jvm.Lit.byteI c.toNat.toUInt16)) = vs) (hz : ¬ z < 0) (hl : z.toNatClampNeg = vs.length) (hby : c.code = bc) (hd : decode bc pc = .ok (.ldc index, 2)) (n : Nat) (hn : 4 * text.toList.length ≤ n) (hbig : n ≤ 536870912) (hc : cells + 2 ≤ R.cells) (hl' : slots + (n + 4) ≤ R.slots) (k : ∀ a T' h' k1 vm1 b kb, Stand p l e R (s.setVm vm1) m args below meth c T' locs (cells + 2) (slots + (n + 4)) → T'.heap = h' → Ext h h' → s.Since vm1 k1 → k1 ≤ h'.size → Z.Warmed39 vm1 → vm1.findClass own = some m.cls → Exa Z h' a "java/lang/String" → Fld Z h' a "java/lang/String" "coder" "B" (.int 0) → Fld Z h' a "java/lang/String" "value" "[B" (.ref b) → Arv Z h' b kb .byte z vs (.int 0) → a < h'.size → b < h'.size → CHr Z EL vm0 h vm1 h' → (∀ x, Safe Z EL vm1 h' x → x ≠ a ∧ x ≠ b) → own_Go p.tables e below P (T'.setTop (mkF m (pc + 2) Ls ((.ref a) :: st)))) : own_Go p.tables e below P (T.setTop (mkF m pc Ls st)) := by
  obtain ⟨a, T', h', k1, b, kb, X', e', E, hS', hk', hZ', hown', q1, q2, q3, q4, q5, q6, q7, -, q8, sp⟩ := ldcCH X hx hZ hown w wS eT hS hk hEL hmem H ht hz hl (g := mkF m pc Ls st) rfl (hb hby hd) hn hbig hc hl'
  exact own_go sp (k a T' h' k1 T'.vm b kb X' e' E hS' hk' hZ' hown' q1 q2 q3 q4 q5 q6 q7 q8)
theorem own_callSH {vm0 : Vm} (X : Stand p l e R (s.setVm vm0) m args below meth c T locs cells slots) (hx : p.tables.exec = Jvm.exec) (hZ : Z.Warmed39 vm0) {EL : List (String × Nat)} (hEL : EW Z a0 EL) {own : String} {index : Nat} {y : MethodName} {bytes : ByteArray} {maxL : Nat} {ret : Option FieldType} {rm : Room} {Qc : Option Value → Heap → List Loc → Prop} {as' : Array Value} (hown : vm0.findClass own = some m.cls) (w1 : (Cond.methodLink own index y).before a0 Z = true) (w2 : (Cond.static y).before a0 Z = true) (w3 : (Cond.initialized y.cls).before a0 Z = true) (w4 : (Cond.code y bytes maxL ret).before a0 Z = true) (hy : y.cls ≠ "java/lang/invoke/MethodHandle" ∧ y.cls ≠ "java/lang/invoke/VarHandle") (hM : MetFree l y (head1 [Cond.code y bytes maxL ret] rm) (fun a U => a = as' ∧ Z.Warmed39 U.vm ∧ U.heap = h ∧ CHv Z EL U.vm h) (fun _ _ _ _ _ => True) (fun _ U o U' => ∃ v L, o = .returned v ∧ Qc v U'.heap L ∧ CHr Z EL U.vm U.heap U'.vm U'.heap ∧ ReturnedEndW U o U' L rm.cells rm.slots)) (W : Nat) (hW : 2 * 0 + (st.map fun v => v.category).sum ≤ W) (hf : rm.frames + 1 ≤ R.frames) (hl : W + (maxL + 11) + rm.locals ≤ R.locals) (hsize : Ls.size = c.maxLocals) {argsL stk : List Value} (hlen : ∀ sig, parseMethodDescriptor y.desc = some sig → argsL.length = sig.parameters.length) (hstk : stk = argsL.reverse ++ st) (has : argsL.toArray = as') (hc : cells + rm.cells ≤ R.cells) (hs : slots + rm.slots ≤ R.slots) (eT : T.heap = h) (hby : c.code = bc) (H : CHv Z EL vm0 h) {k0 : Nat} (hS : s.Since vm0 k0) (hk : k0 ≤ h.size) (hd : decode bc pc = .ok (.invokestatic index, 3)) (k : ∀ T' v L vm1, Stand p l e R (s.setVm vm1) m args below meth c T' (locs ++ L) (cells + rm.cells) (slots + rm.slots) → s.Since vm1 T'.heap.size → Z.Warmed39 vm1 → vm1.findClass own = some m.cls → h.size ≤ T'.heap.size → CHr Z EL vm0 h vm1 T'.heap → Qc v T'.heap L → own_Go p.tables e below P (T'.setTop (mkF m (pc + 3) Ls (v.toList ++ st)))) : own_Go p.tables e below P (T.setTop (mkF m pc Ls stk)) := by
  subst hstk
  obtain ⟨v, _, ⟨T', L', k', n'⟩, -, X', h2', hg', ⟨L, hQ, hl', hy', hz', hC'⟩, sp⟩ := callSS X hx hown (mvT (s := s.setVm vm0) hZ w1) (mvT (s := s.setVm vm0) hZ w2) (mvT (s := s.setVm vm0) hZ w3) (mvT (s := s.setVm vm0) hZ w4) hy (backOfSH (s := s) (W := W) hM hZ w4 w3 hf hl hEL H) (g := mkF m pc Ls (argsL.reverse ++ st)) rfl hsize (argsL := argsL) (rest := st) hlen rfl hW (hb hby hd) (fun _ _ => ⟨has, eT, hc, hs⟩)
  dsimp only [Pt.U, Pt.locs, Pt.cells, Pt.slots] at X' h2' hg' hl' hy' hz' hC' sp hQ
  subst hl' hy' hz'
  obtain ⟨r1, r2, r3, r4⟩ := rebS (Z := Z) (own := own) hS hk X' h2' (by rw [← eT]; exact hg') hZ hown
  exact own_go (fun t q => sp.trans q) (k T' v L _ r1 r2 r3 r4 (by rw [← eT]; exact hg') hC' hQ)
theorem own_virtualH {vm0 : Vm} (X : Stand p l e R (s.setVm vm0) m args below meth c T locs cells slots) (hx : p.tables.exec = Jvm.exec) (hZ : Z.Warmed39 vm0) {EL : List (String × Nat)} (hEL : EW Z a0 EL) {own C : String} {index : Nat} {y z : MethodName} {bytes : ByteArray} {maxL : Nat} {ret : Option FieldType} {rm : Room} {Qc : Option Value → Heap → List Loc → Prop} {as' : Array Value} (hown : vm0.findClass own = some m.cls) (w1 : (Cond.methodLink own index y).before a0 Z = true) (w2 : (Cond.declares y).before a0 Z = true) (nf : NotFace (s.setVm vm0) y) (w5 : (Cond.selects C y z).before a0 Z = true) (w6 : (Cond.instanceMethod z).before a0 Z = true) (w3 : (Cond.initialized z.cls).before a0 Z = true) (w4 : (Cond.code z bytes maxL ret).before a0 Z = true) (hy : y.cls ≠ "java/lang/invoke/MethodHandle" ∧ y.cls ≠ "java/lang/invoke/VarHandle") (hM : MetFree l z (head1 [Cond.code z bytes maxL ret] rm) (fun a U => a = as' ∧ Z.Warmed39 U.vm ∧ U.heap = h ∧ CHv Z EL U.vm h) (fun _ _ _ _ _ => True) (fun _ U o U' => ∃ v L, o = .returned v ∧ Qc v U'.heap L ∧ CHr Z EL U.vm U.heap U'.vm U'.heap ∧ ReturnedEndW U o U' L rm.cells rm.slots)) (W : Nat) (hW : 2 * 0 + (st.map fun v => v.category).sum ≤ W) (hf : rm.frames + 1 ≤ R.frames) (hl : W + (maxL + 11) + rm.locals ≤ R.locals) (hsize : Ls.size = c.maxLocals) {argsL stk : List Value} {a : Addr} (E : Exa Z h a C) (hlen : ∀ sig, parseMethodDescriptor y.desc = some sig → argsL.length = sig.parameters.length) (hstk : stk = argsL.reverse ++ (.ref a) :: st) (has : ((.ref a) :: argsL).toArray = as') (hc : cells + rm.cells ≤ R.cells) (hs : slots + rm.slots ≤ R.slots) (eT : T.heap = h) (hby : c.code = bc) (H : CHv Z EL vm0 h) {k0 : Nat} (hS : s.Since vm0 k0) (hk : k0 ≤ h.size) (hd : decode bc pc = .ok (.invokevirtual index, 3)) (k : ∀ T' v L vm1, Stand p l e R (s.setVm vm1) m args below meth c T' (locs ++ L) (cells + rm.cells) (slots + rm.slots) → s.Since vm1 T'.heap.size → Z.Warmed39 vm1 → vm1.findClass own = some m.cls → h.size ≤ T'.heap.size → CHr Z EL vm0 h vm1 T'.heap → Qc v T'.heap L → own_Go p.tables e below P (T'.setTop (mkF m (pc + 3) Ls (v.toList ++ st)))) : own_Go p.tables e below P (T.setTop (mkF m pc Ls stk)) := by
  subst hstk
  obtain ⟨cq, kq, qa, qb, qc⟩ := isOf (s := s.setVm vm0) hZ eT E
  obtain ⟨v, _, ⟨T', L', k', n'⟩, -, X', h2', hg', ⟨L, hQ, hl', hy', hz', hC'⟩, sp⟩ := X.virtualBackS hx hown (mvT (s := s.setVm vm0) hZ w1) (mvT (s := s.setVm vm0) hZ w2) nf (mvT (s := s.setVm vm0) hZ w5) (mvT (s := s.setVm vm0) hZ w6) hy (backOfSH (s := s) (W := W) hM hZ w4 w3 hf hl hEL H) qa qc (g := mkF m pc Ls (argsL.reverse ++ (.ref a) :: st)) rfl hsize (Steps.refl _) (argsL := argsL) (rest := st) hlen rfl hW (hb hby hd) (fun _ _ => ⟨has, eT, hc, hs⟩)
  dsimp only [Pt.U, Pt.locs, Pt.cells, Pt.slots] at X' h2' hg' hl' hy' hz' hC' sp hQ
  subst hl' hy' hz'
  obtain ⟨r1, r2, r3, r4⟩ := rebS (Z := Z) (own := own) hS hk X' h2' (by rw [← eT]; exact hg') hZ hown
  exact own_go (fun t q => sp.trans q) (k T' v L _ r1 r2 r3 r4 (by rw [← eT]; exact hg') hC' hQ)
end OwnGo
theorem own_sta_keep {Z : State} {h h' : Heap} {C n d : String} {v : Value} {ws : List Addr} (F : Sta Z h C n d v) (K : Keep h h' ws) (q : ∀ x ∈ ws, ∀ cell : Cell, h[x]? = some cell → cell.vm.isStatics = false) : Sta Z h' C n d v := by
  obtain ⟨cf, i, k, f, st, cell, h1, h2, h3, h4, h5, h6, h7⟩ := F
  refine ⟨cf, i, k, f, st, cell, h1, h2, h3, h4, K.2.1 st cell h5 fun hm => ?_, h6, h7⟩
  rw [q st hm cell h5] at h6; cases h6
theorem own_exa_plain {Z : State} {h : Heap} {a : Addr} {C : String} (F : Exa Z h a C) : ∀ cell : Cell, h[a]? = some cell → cell.vm.isStatics = false := fun cell hc => by
  obtain ⟨c', k, h1, h2, h3, h4, h5⟩ := F
  cases h1.symm.trans hc; exact h4
theorem own_arv_plain {Z : State} {h : Heap} {a : Addr} {k : ClassId} {ty : FieldType} {n : Int32} {vs : List Value} {d : Value} (F : Arv Z h a k ty n vs d) : ∀ cell : Cell, h[a]? = some cell → cell.vm.isStatics = false := fun cell hc => by
  obtain ⟨c', A, -⟩ := F
  cases A.1.symm.trans hc; exact A.plain
theorem own_safe_null {Z : State} {EL : List (String × Nat)} {vm : Vm} {h : Heap} {x : Addr} (hal : Z.vm.Alike vm) (E : Exa Z h x "java/lang/String") (F : Fld Z h x "java/lang/String" "value" "[B" .null) : Safe Z EL vm h x := fun B => by
  obtain ⟨cell, k, e1, e2, e3, -, -⟩ := E
  have nm : ∀ {n : String} {c : ClassId}, vm.findClass n = some c → c = cell.cls → n = "java/lang/String" := fun {n c} f e => by
    subst e
    rw [hal.findClass] at f
    obtain ⟨k1, q1, q2⟩ := Vm.findClass_spec f
    obtain ⟨k2, q3, q4⟩ := Vm.findClass_spec e2
    cases q1.symm.trans q3
    exact q2.symm.trans q4
  obtain ⟨cl, c', k', i', f', g1, g2, -, -, -, -, g7⟩ := F
  obtain ⟨p, -, u, a, -, q, -, G, rfl | rfl⟩ := B
  · cases (show h[q.sa]? = some q.sC from G.ha).symm.trans g1
    obtain ⟨cS, ⟨⟨-, -, -, ⟨c1, k1, i1, f1, -⟩, -, -, -, v1, -⟩, -⟩, -⟩ := G
    obtain ⟨k3, h3, -⟩ := State.fieldFound?_setVm (s := Z) hal g2
    have e4 := (show (Wst Z vm h).fieldFound? _ _ _ = _ from h3).symm.trans f1
    simp only [Option.some.injEq, Prod.mk.injEq] at e4
    rw [← e4.2.2.2, g7] at v1
    simp at v1
  · cases (show h[q.sd]? = some q.SA from G.hd).symm.trans e1
    obtain ⟨cS, -, -, f, -⟩ := G
    exact absurd (nm f rfl) (by decide)
theorem own_sameM {Z : State} {a0 : Array Value} {C : String} {y y' : MethodName} (hc : y'.cls = y.cls) (wi : (Cond.instanceMethod y).before a0 Z = true) (ws : (Cond.selects C y' y').before a0 Z = true) (hy : y.cls ≠ "java/lang/invoke/MethodHandle" ∧ y.cls ≠ "java/lang/invoke/VarHandle") : (Cond.sameMethod y.cls y.cls y.name y.desc).before a0 Z = true := by
  obtain ⟨mk, methM, hnamed, hmethM, -, -⟩ := Cond.instanceMethod_spec wi
  obtain ⟨c2, r2, m2, q1, q2, q3, q4, kP, hkP, hkPi⟩ := Cond.selects_spec ws
  have hc1 := findClass_of_methodNamed hnamed
  have hc2 := findClass_of_methodNamed q3
  rw [hc, hc1] at hc2
  have e := Option.some.inj hc2
  have hf := State.methodFound?_of_named hnamed hy
  have hn' : Z.methodNamed? ⟨y.cls, y.name, y.desc⟩ = some mk := hnamed
  have hk : Z.vm.classes[mk.cls]? = some kP := by rw [e]; exact hkP
  simp only [Cond.before, Cond.holds, Cond.value, hc1, hf, hn', hk]
  simp [hkPi]
theorem own_notFace {s : State} {args : Array Value} {C : String} {y y' : MethodName} (hc : y'.cls = y.cls) (ws : (Cond.selects C y' y').before args s = true) : NotFace s y := fun r0 h0 => by
  obtain ⟨c2, r2, m2, q1, q2, q3, q4, kP, hkP, hkPi⟩ := Cond.selects_spec ws
  have hc1 := findClass_of_methodNamed h0
  have hc2 := findClass_of_methodNamed q3
  rw [hc, hc1] at hc2
  have e := Option.some.inj hc2
  exact ⟨kP, by rw [e]; exact hkP, hkPi⟩
theorem own_ne_oa {Z : State} {h : Heap} {a b : Addr} {C : String} {a0 : Array Value} {kk : Nat} {k : ClassId} {ty : FieldType} {n : Int32} {vs : List Value} {d : Value} (F : Exa Z h a C) (wi : (Cond.instantiable C kk).before a0 Z = true) (G : Arv Z h b k ty n vs d) : a ≠ b := by
  obtain ⟨c, A, -⟩ := G
  exact ne_arr F wi A
theorem own_narc (y : Int32) : nar .char ((y &&& (255 : Int32)).toUInt32.toUInt16.toUInt32.toInt32) = (y &&& (255 : Int32)) := by
  rw [i2c_mask]
  exact i2c_mask y
theorem own_c255 (y : Int32) : ¬ (y &&& (255 : Int32)) < 0 ∧ ¬ (255 : Int32) < (y &&& (255 : Int32)) := by
  have h := c_and y (255 : Int32) (by decide)
  have a : (255 : Int32).toInt = 255 := by decide
  have b : (0 : Int32).toInt = 0 := by decide
  rw [Int32.lt_iff_toInt_lt, Int32.lt_iff_toInt_lt, b]
  omega
theorem own_l0 {P : Int32 → Prop} : ∀ c ∈ ([] : List Int32), P c := fun _ h => nomatch h
theorem own_lS {P : Int32 → Prop} {y : Int32} {L : List Int32} (q : P y) (r : ∀ c ∈ L, P c) : ∀ c ∈ y :: L, P c := fun c h => (List.mem_cons.mp h).elim (fun e => e ▸ q) (r c)
theorem own_i2bb (c : Int32) : nar .byte (c.toInt8.toInt32) = (c.toInt8.toInt32) := by
  show c.toInt8.toInt32.toInt8.toInt32 = c.toInt8.toInt32
  rw [Int8.toInt8_toInt32]
theorem own_low8 (c : Int32) (h0 : ¬ (c < (0 : Int32))) (h1 : ¬ ((255 : Int32) < c)) : ((c.toInt8.toInt32) &&& (255 : Int32)) = c := by
  have a : (255 : Int32).toInt = 255 := by decide
  have b : (0 : Int32).toInt = 0 := by decide
  rw [Int32.lt_iff_toInt_lt, b] at h0
  rw [Int32.lt_iff_toInt_lt, a] at h1
  have h2 := c_mask (c.toInt8.toInt32) 255 8 (by decide) (by decide)
  have h3 := c_i2b c
  have h4 : ((2 ^ 8 : Nat) : Int) = 256 := by decide
  rw [h4] at h2
  apply Int32.toInt_inj.mp
  omega
theorem own_nar8 (c : Int32) (h0 : ¬ (c < (0 : Int32))) (h1 : ¬ ((255 : Int32) < c)) : nar .char c = c := by
  have e := own_low8 c h0 h1
  have q := i2c_mask (c.toInt8.toInt32)
  rw [e] at q
  exact q
theorem own_chr8 (c : Int32) (h0 : ¬ (c < (0 : Int32))) (h1 : ¬ ((255 : Int32) < c)) : nar .char ((((c.toInt8.toInt32)) &&& (255 : Int32)).toUInt32.toUInt16.toUInt32.toInt32) = c := by
  rw [i2c_mask, own_low8 c h0 h1]
  exact own_nar8 c h0 h1
theorem ef_recInit (m : MethodId) (x0 : Nat) : entryFrame m #[(.ref x0)] 1 = mkF m 0 #[.val (.ref x0)] [] := by first | (simp [entryFrame, mkF, argsToLocals, Value.category]; done) | rfl
theorem pn_8 : plainName "java/lang/Record" = true := by first | (simp [plainName, overriddenIn]; done) | decide +kernel
theorem d8_0 : decode jdk_30_method_1_code 0 = .ok (.aload_n 0, 1) := by decide +kernel
theorem d8_1 : decode jdk_30_method_1_code 1 = .ok (.invokespecial 1, 3) := by decide +kernel
theorem d8_4 : decode jdk_30_method_1_code 4 = .ok (.return_, 1) := by decide +kernel
def Q_recInit (Z : State) (u : Nat) (h0 : Heap) (n0 : Nat) (vR : Option Value) (hR : Heap) (LR : List Loc) : Prop := vR = none ∧ Fr n0 LR ∧ hR = h0
set_option maxRecDepth 65536 in
set_option maxHeartbeats 40000000 in
theorem recInit (l : Launch) (Z : State) (a0 : Array Value) (hw : ∀ d ∈ tables_1, d.before a0 Z = true) (ws : List Jvm.Cond) (u : Nat) (h0 : Heap) (n0 : Nat) (Z0 : n0 ≤ h0.size)  :
    own_M l (⟨"java/lang/Record", "<init>", "()V"⟩ : MethodName) jdk_30_method_1_code 1 none ws ({ frames := 1, cells := 0, slots := 0, locals := 12 } : Room) Z #[(.ref u)] h0 (Q_recInit Z u h0 n0) := by
  refine own_body (own := "java/lang/Record") rfl (plainFor_of_name pn_8) (fun m => ef_recInit m u) ?_
  intro p e s m below meth c s₁ Bd hml hZ hh hx hby hown X0 e0
  have N0 := Fr.nil n0
  refine own_aloadN X0.here hx hby d8_0 rfl rfl ?_
  refine own_initO X0 hx hZ hown (own_w hw 45 rfl) (own_w hw 18 rfl) (own_w hw 19 rfl) e0 (by rw [hml]; rfl) hby d8_1 (by decide) 0 (Nat.le_of_eq rfl) (by decide) ?_
  intro T1 X1 e1
  obtain ⟨fs, hr, hrun, hended, hW, hsame⟩ := X1.leave (v := none) (fun _ => rfl)
  refine own_ret (t := T1.setFrames fs) ?_ ⟨_, hrun, hended, _, _, rfl, ?_, ⟨_, rfl⟩, hW, hsame.mono (by decide) (by decide)⟩
  · exact X1.returnOut hx Bd.returns (hb hby d8_4) hr
  · show Q_recInit Z _ h0 n0 _ T1.heap _
    rw [e1]
    exact ⟨rfl, N0, rfl⟩
theorem ef_uriInit (m : MethodId) (x0 : Nat) (x1 : Nat) (x2 : Nat) : entryFrame m #[(.ref x0), (.ref x1), (.ref x2)] 3 = mkF m 0 #[.val (.ref x0), .val (.ref x1), .val (.ref x2)] [] := by first | (simp [entryFrame, mkF, argsToLocals, Value.category]; done) | rfl
theorem pn_7 : plainName "com/example/undercroft/undercroft/store/UriSpace" = true := by first | (simp [plainName, overriddenIn]; done) | decide +kernel
theorem d7_0 : decode prog_21_method_1_code 0 = .ok (.aload_n 0, 1) := by decide +kernel
theorem d7_1 : decode prog_21_method_1_code 1 = .ok (.invokespecial 1, 3) := by decide +kernel
theorem pd_0 : parseMethodDescriptor "()V" = some ⟨[], none⟩ := by decide +kernel
theorem d7_4 : decode prog_21_method_1_code 4 = .ok (.aload_n 0, 1) := by decide +kernel
theorem d7_5 : decode prog_21_method_1_code 5 = .ok (.aload_n 1, 1) := by decide +kernel
theorem d7_6 : decode prog_21_method_1_code 6 = .ok (.putfield 7, 3) := by decide +kernel
theorem d7_9 : decode prog_21_method_1_code 9 = .ok (.aload_n 0, 1) := by decide +kernel
theorem d7_10 : decode prog_21_method_1_code 10 = .ok (.aload_n 2, 1) := by decide +kernel
theorem d7_11 : decode prog_21_method_1_code 11 = .ok (.putfield 13, 3) := by decide +kernel
theorem d7_14 : decode prog_21_method_1_code 14 = .ok (.return_, 1) := by decide +kernel
def Q_uriInit (Z : State) (u : Nat) (x : Nat) (o2 : Nat) (h0 : Heap) (n0 : Nat) (vR : Option Value) (hR : Heap) (LR : List Loc) : Prop := vR = none ∧ Fr n0 LR ∧ Keep h0 hR [u] ∧ (Exa Z hR u "com/example/undercroft/undercroft/store/UriSpace") ∧ (Fld Z hR u "com/example/undercroft/undercroft/store/UriSpace" "prefix" "Ljava/lang/String;" (.ref x))
set_option maxRecDepth 65536 in
set_option maxHeartbeats 40000000 in
theorem uriInit (l : Launch) (Z : State) (a0 : Array Value) (hw : ∀ d ∈ tables_1, d.before a0 Z = true) (ws : List Jvm.Cond) (u : Nat) (x : Nat) (o2 : Nat) (h0 : Heap) (n0 : Nat) (Z0 : n0 ≤ h0.size) (E_u : Exa Z h0 u "com/example/undercroft/undercroft/store/UriSpace") (g_u : n0 ≤ u) (F_prefix_u : Fld Z h0 u "com/example/undercroft/undercroft/store/UriSpace" "prefix" "Ljava/lang/String;" .null) (F_ownSystem_u : Fld Z h0 u "com/example/undercroft/undercroft/store/UriSpace" "ownSystem" "Ljava/lang/String;" .null) :
    own_M l (⟨"com/example/undercroft/undercroft/store/UriSpace", "<init>", "(Ljava/lang/String;Ljava/lang/String;)V"⟩ : MethodName) prog_21_method_1_code 3 none ws ({ frames := 2, cells := 0, slots := 0, locals := 24 } : Room) Z #[(.ref u), (.ref x), (.ref o2)] h0 (Q_uriInit Z u x o2 h0 n0) := by
  refine own_body (own := "com/example/undercroft/undercroft/store/UriSpace") rfl (plainFor_of_name pn_7) (fun m => ef_uriInit m u x o2) ?_
  intro p e s m below meth c s₁ Bd hml hZ hh hx hby hown X0 e0
  have N0 := Fr.nil n0
  have lt1 : h0.size > u := E_u.lt
  refine own_aloadN X0.here hx hby d7_0 rfl rfl ?_
  refine own_special X0 hx hZ rfl hown (own_w hw 40 rfl) (own_w hw 41 rfl) (own_w hw 43 rfl) (own_w hw 44 rfl) (by decide) (recInit l Z a0 hw [] u h0 n0 Z0 ) 0 (Nat.le_of_eq rfl) (by decide) (by decide) (by rw [hml]; rfl) (argsL := []) (st := []) (a := u) (lenOf pd_0 rfl) rfl rfl (by decide) (by decide) e0 hby d7_1 ?_
  intro T3 v3 L3 X3 hQ3
  obtain ⟨rfl, Nq3, eh3⟩ := hQ3
  have N3 := Fr.app N0 Nq3
  refine own_sh (T := T3) 4 #[.val (.ref u), .val (.ref x), .val (.ref o2)] [] ?_
  refine own_aloadN X3.here hx hby d7_4 rfl rfl ?_
  refine own_aloadN X3.here hx hby d7_5 rfl rfl ?_
  refine own_putF X3 hx hZ (ty := (.object "java/lang/String")) hown (host := "") (Or.inl (own_w hw 46 rfl)) Via.refl eh3 F_prefix_u E_u (Or.inr ⟨(own_w hw 47 rfl), rfl, (name_of_methodNamed Bd.named Bd.method).1⟩) (own_w hw 34 rfl) (by decide) rfl rfl hby d7_6 N3 g_u ?_
  intro T4 h4 lo4 X4 e4 N4 W4 F4 z4
  refine own_aloadN X4.here hx hby d7_9 rfl rfl ?_
  refine own_aloadN X4.here hx hby d7_10 rfl rfl ?_
  have f5 := (E_u.wr W4)
  have f6 := (F_ownSystem_u.other W4 (Or.inr (slot_ne (Or.inr (own_w hw 49 rfl)) (Or.inr (own_w hw 47 rfl)) (by decide) (t := (.object "java/lang/String")) (t' := (.object "java/lang/String")) (by decide) (by decide))))
  refine own_putF X4 hx hZ (ty := (.object "java/lang/String")) hown (host := "") (Or.inl (own_w hw 48 rfl)) Via.refl e4 f6 f5 (Or.inr ⟨(own_w hw 49 rfl), rfl, (name_of_methodNamed Bd.named Bd.method).1⟩) (own_w hw 34 rfl) (by decide) rfl rfl hby d7_11 N4 g_u ?_
  intro T7 h7 lo7 X7 e7 N7 W7 F7 z7
  have K8 : Keep h0 h7 [u] := (((Keep.refl h0 [u]).wr W4 (Or.inl (List.mem_of_getElem? (i := 0) rfl))).wr W7 (Or.inl (List.mem_of_getElem? (i := 0) rfl)))
  have f9 := (f5.wr W7)
  have f10 := (F4.other W7 (Or.inr (slot_ne (Or.inr (own_w hw 47 rfl)) (Or.inr (own_w hw 49 rfl)) (by decide) (t := (.object "java/lang/String")) (t' := (.object "java/lang/String")) (by decide) (by decide))))
  obtain ⟨fs, hr, hrun, hended, hW, hsame⟩ := X7.leave (v := none) (fun _ => rfl)
  refine own_ret (t := T7.setFrames fs) ?_ ⟨_, hrun, hended, _, _, rfl, ?_, ⟨_, rfl⟩, hW, hsame.mono (by decide) (by decide)⟩
  · exact X7.returnOut hx Bd.returns (hb hby d7_14) hr
  · show Q_uriInit Z _ _ _ h0 n0 _ T7.heap _
    rw [e7]
    exact ⟨rfl, N7, K8, f9, f10⟩
theorem ef_asbInit (m : MethodId) (x0 : Nat) (x1 : Int32) : entryFrame m #[(.ref x0), (.int x1)] 2 = mkF m 0 #[.val (.ref x0), .val (.int x1)] [] := by first | (simp [entryFrame, mkF, argsToLocals, Value.category]; done) | rfl
theorem pn_11 : plainName "java/lang/AbstractStringBuilder" = true := by first | (simp [plainName, overriddenIn]; done) | decide +kernel
theorem d11_0 : decode jdk_68_method_2_code 0 = .ok (.aload_n 0, 1) := by decide +kernel
theorem d11_1 : decode jdk_68_method_2_code 1 = .ok (.invokespecial 3, 3) := by decide +kernel
theorem d11_4 : decode jdk_68_method_2_code 4 = .ok (.getstatic 18, 3) := by decide +kernel
theorem d11_7 : decode jdk_68_method_2_code 7 = .ok (.ifCond .eq 18, 3) := by decide +kernel
theorem d11_10 : decode jdk_68_method_2_code 10 = .ok (.aload_n 0, 1) := by decide +kernel
theorem d11_11 : decode jdk_68_method_2_code 11 = .ok (.iload_n 1, 1) := by decide +kernel
theorem d11_12 : decode jdk_68_method_2_code 12 = .ok (.newarray .byte, 2) := by decide +kernel
theorem d11_14 : decode jdk_68_method_2_code 14 = .ok (.putfield 15, 3) := by decide +kernel
theorem d11_17 : decode jdk_68_method_2_code 17 = .ok (.aload_n 0, 1) := by decide +kernel
theorem d11_18 : decode jdk_68_method_2_code 18 = .ok (.iconst 0, 1) := by decide +kernel
theorem d11_19 : decode jdk_68_method_2_code 19 = .ok (.putfield 22, 3) := by decide +kernel
theorem d11_22 : decode jdk_68_method_2_code 22 = .ok (.goto 16, 3) := by decide +kernel
theorem d11_38 : decode jdk_68_method_2_code 38 = .ok (.return_, 1) := by decide +kernel
def Q_asbInit (Z : State) (sb : Nat) (zc : Int32) (h0 : Heap) (n0 : Nat) (vR : Option Value) (hR : Heap) (LR : List Loc) : Prop := ∃ (b : Nat) (kb : ClassId), vR = none ∧ Fr n0 LR ∧ Keep h0 hR [sb] ∧ (Exa Z hR sb "java/lang/StringBuilder") ∧ (Fld Z hR sb "java/lang/AbstractStringBuilder" "value" "[B" (.ref b)) ∧ (Fld Z hR sb "java/lang/AbstractStringBuilder" "coder" "B" (.int 0)) ∧ (Fld Z hR sb "java/lang/AbstractStringBuilder" "count" "I" (.int 0)) ∧ h0.size ≤ b ∧ (Arv Z hR b kb .byte (16 : Int32) [(.int 0), (.int 0), (.int 0), (.int 0), (.int 0), (.int 0), (.int 0), (.int 0), (.int 0), (.int 0), (.int 0), (.int 0), (.int 0), (.int 0), (.int 0), (.int 0)] (.int 0))
set_option maxRecDepth 65536 in
set_option maxHeartbeats 40000000 in
theorem asbInit (l : Launch) (Z : State) (a0 : Array Value) (hw : ∀ d ∈ tables_1, d.before a0 Z = true) (ws : List Jvm.Cond) (sb : Nat) (zc : Int32) (h0 : Heap) (n0 : Nat) (Z0 : n0 ≤ h0.size) (E_sb : Exa Z h0 sb "java/lang/StringBuilder") (g_sb : n0 ≤ sb) (F_value_sb : Fld Z h0 sb "java/lang/AbstractStringBuilder" "value" "[B" .null) (F_coder_sb : Fld Z h0 sb "java/lang/AbstractStringBuilder" "coder" "B" (.int 0)) (F_count_sb : Fld Z h0 sb "java/lang/AbstractStringBuilder" "count" "I" (.int 0)) (S_C : Sta Z h0 "java/lang/String" "COMPACT_STRINGS" "Z" (.int zc)) (hz : ¬ (zc = (0 : Int32))) :
    own_M l (⟨"java/lang/AbstractStringBuilder", "<init>", "(I)V"⟩ : MethodName) jdk_68_method_2_code 2 none ws ({ frames := 1, cells := 1, slots := 16, locals := 12 } : Room) Z #[(.ref sb), (.int 16)] h0 (Q_asbInit Z sb zc h0 n0) := by
  refine own_body (own := "java/lang/AbstractStringBuilder") rfl (plainFor_of_name pn_11) (fun m => ef_asbInit m sb (16 : Int32)) ?_
  intro p e s m below meth c s₁ Bd hml hZ hh hx hby hown X0 e0
  have N0 := Fr.nil n0
  have lt1 : h0.size > sb := E_sb.lt
  refine own_aloadN X0.here hx hby d11_0 rfl rfl ?_
  refine own_initO X0 hx hZ hown (own_w hw 67 rfl) (own_w hw 18 rfl) (own_w hw 19 rfl) e0 (by rw [hml]; rfl) hby d11_1 (by decide) 0 (Nat.le_of_eq rfl) (by decide) ?_
  intro T2 X2 e2
  refine own_getS X2 hx hZ hown (host := "") (Or.inl (own_w hw 68 rfl)) Via.refl e2 S_C hby d11_4 ?_
  intro T3 X3 e3
  refine own_ifNo X3.here hx hby d11_7 ((if0 _ _).trans (feq hz).1) ?_
  refine own_aloadN X3.here hx hby d11_10 rfl rfl ?_
  refine own_iloadN X3.here hx hby d11_11 rfl ?_
  refine own_newP X3 hx hZ (aty := .byte) (own_w hw 4 rfl) e3 hby d11_12 (by decide) 16 (by decide) (by decide) (by decide) (by decide) (ad := "[B") (by decide) ?_
  intro T4 h4 k4 b4 X4 e4 E4 g4 V4 C4 lt4
  have z5 : h0.size ≤ h4.size := E4.1
  have V6 : Arv Z h4 b4 k4 .byte (16 : Int32) [(.int 0), (.int 0), (.int 0), (.int 0), (.int 0), (.int 0), (.int 0), (.int 0), (.int 0), (.int 0), (.int 0), (.int 0), (.int 0), (.int 0), (.int 0), (.int 0)] (.int 0) := V4.pad (pad_rep [] (.int 0) 16)
  have f7 := (E_sb.ext E4)
  have f8 := (F_value_sb.ext E4)
  refine own_putF X4 hx hZ (ty := (.array .byte)) hown (host := "") (Or.inl (own_w hw 69 rfl)) Via.refl e4 f8 f7 (Or.inl (own_w hw 70 rfl)) (own_w hw 56 rfl) (by decide) rfl rfl hby d11_14 N0 g_sb ?_
  intro T9 h9 lo9 X9 e9 N9 W9 F9 z9
  refine own_aloadN X9.here hx hby d11_17 rfl rfl ?_
  refine own_iconst X9.here hx hby d11_18 (v := (0 : Int32)) (by decide) ?_
  have f10 := (f7.wr W9)
  have f11 := ((F_coder_sb.ext E4).other W9 (Or.inr (slot_ne (Or.inl (own_w hw 72 rfl)) (Or.inl (own_w hw 70 rfl)) (by decide) (t := .byte) (t' := (.array .byte)) (by decide) (by decide))))
  refine own_putFN X9 hx hZ (ty := .byte) (v' := (.int 0)) hown (own_w hw 71 rfl) Via.refl e9 f11 f10 (Or.inl (own_w hw 72 rfl)) (own_w hw 56 rfl) (by decide) rfl rfl hby d11_19 N9 g_sb ?_
  intro T12 h12 lo12 X12 e12 N12 W12 F12 z12
  refine own_goto X12.here hx hby (pc' := 38) d11_22 (by decide) (by decide) ?_
  have K13 : Keep h0 h12 [sb] := ((((Keep.refl h0 [sb]).ext E4).wr W9 (Or.inl (List.mem_of_getElem? (i := 0) rfl))).wr W12 (Or.inl (List.mem_of_getElem? (i := 0) rfl)))
  have f14 := (f10.wr W12)
  have f15 := (F9.other W12 (Or.inr (slot_ne (Or.inl (own_w hw 70 rfl)) (Or.inl (own_w hw 72 rfl)) (by decide) (t := (.array .byte)) (t' := .byte) (by decide) (by decide))))
  have f16 := (((F_count_sb.ext E4).other W9 (Or.inr (slot_ne (Or.inl (own_w hw 94 rfl)) (Or.inl (own_w hw 70 rfl)) (by decide) (t := .int) (t' := (.array .byte)) (by decide) (by decide)))).other W12 (Or.inr (slot_ne (Or.inl (own_w hw 94 rfl)) (Or.inl (own_w hw 72 rfl)) (by decide) (t := .int) (t' := .byte) (by decide) (by decide))))
  have f17 := ((V6.other W9 (own_nn (by omega))).other W12 (own_nn (by omega)))
  obtain ⟨fs, hr, hrun, hended, hW, hsame⟩ := X12.leave (v := none) (fun _ => rfl)
  refine own_ret (t := T12.setFrames fs) ?_ ⟨_, hrun, hended, _, _, rfl, ?_, ⟨_, rfl⟩, hW, hsame.mono (by decide) (by decide)⟩
  · exact X12.returnOut hx Bd.returns (hb hby d11_38) hr
  · show Q_asbInit Z _ _ h0 n0 _ T12.heap _
    rw [e12]
    exact ⟨b4, k4, rfl, N12, K13, f14, f15, F12, f16, (by omega), f17⟩
theorem ef_sbInit (m : MethodId) (x0 : Nat) : entryFrame m #[(.ref x0)] 1 = mkF m 0 #[.val (.ref x0)] [] := by first | (simp [entryFrame, mkF, argsToLocals, Value.category]; done) | rfl
theorem pn_10 : plainName "java/lang/StringBuilder" = true := by first | (simp [plainName, overriddenIn]; done) | decide +kernel
theorem d10_0 : decode jdk_67_method_1_code 0 = .ok (.aload_n 0, 1) := by decide +kernel
theorem d10_1 : decode jdk_67_method_1_code 1 = .ok (.bipush 16, 2) := by decide +kernel
theorem d10_3 : decode jdk_67_method_1_code 3 = .ok (.invokespecial 1, 3) := by decide +kernel
theorem pd_1 : parseMethodDescriptor "(I)V" = some ⟨[.int], none⟩ := by decide +kernel
theorem d10_6 : decode jdk_67_method_1_code 6 = .ok (.return_, 1) := by decide +kernel
def Q_sbInit (Z : State) (sb : Nat) (zc : Int32) (h0 : Heap) (n0 : Nat) (vR : Option Value) (hR : Heap) (LR : List Loc) : Prop := ∃ (b : Nat) (kb : ClassId), vR = none ∧ Fr n0 LR ∧ Keep h0 hR [sb] ∧ (Exa Z hR sb "java/lang/StringBuilder") ∧ (Fld Z hR sb "java/lang/AbstractStringBuilder" "value" "[B" (.ref b)) ∧ (Fld Z hR sb "java/lang/AbstractStringBuilder" "coder" "B" (.int 0)) ∧ (Fld Z hR sb "java/lang/AbstractStringBuilder" "count" "I" (.int 0)) ∧ h0.size ≤ b ∧ (Arv Z hR b kb .byte (16 : Int32) [(.int 0), (.int 0), (.int 0), (.int 0), (.int 0), (.int 0), (.int 0), (.int 0), (.int 0), (.int 0), (.int 0), (.int 0), (.int 0), (.int 0), (.int 0), (.int 0)] (.int 0))
set_option maxRecDepth 65536 in
set_option maxHeartbeats 40000000 in
theorem sbInit (l : Launch) (Z : State) (a0 : Array Value) (hw : ∀ d ∈ tables_1, d.before a0 Z = true) (ws : List Jvm.Cond) (sb : Nat) (zc : Int32) (h0 : Heap) (n0 : Nat) (Z0 : n0 ≤ h0.size) (E_sb : Exa Z h0 sb "java/lang/StringBuilder") (g_sb : n0 ≤ sb) (F_value_sb : Fld Z h0 sb "java/lang/AbstractStringBuilder" "value" "[B" .null) (F_coder_sb : Fld Z h0 sb "java/lang/AbstractStringBuilder" "coder" "B" (.int 0)) (F_count_sb : Fld Z h0 sb "java/lang/AbstractStringBuilder" "count" "I" (.int 0)) (S_C : Sta Z h0 "java/lang/String" "COMPACT_STRINGS" "Z" (.int zc)) (hz : ¬ (zc = (0 : Int32))) :
    own_M l (⟨"java/lang/StringBuilder", "<init>", "()V"⟩ : MethodName) jdk_67_method_1_code 1 none ws ({ frames := 2, cells := 1, slots := 16, locals := 25 } : Room) Z #[(.ref sb)] h0 (Q_sbInit Z sb zc h0 n0) := by
  refine own_body (own := "java/lang/StringBuilder") rfl (plainFor_of_name pn_10) (fun m => ef_sbInit m sb) ?_
  intro p e s m below meth c s₁ Bd hml hZ hh hx hby hown X0 e0
  have N0 := Fr.nil n0
  have lt1 : h0.size > sb := E_sb.lt
  refine own_aloadN X0.here hx hby d10_0 rfl rfl ?_
  refine own_bipush X0.here hx hby d10_1 (v := (16 : Int32)) (by decide) ?_
  refine own_special X0 hx hZ rfl hown (own_w hw 61 rfl) (own_w hw 62 rfl) (own_w hw 65 rfl) (own_w hw 66 rfl) (by decide) (asbInit l Z a0 hw [] sb zc h0 n0 Z0 E_sb g_sb F_value_sb F_coder_sb F_count_sb S_C hz) 0 (Nat.le_of_eq rfl) (by decide) (by decide) (by rw [hml]; rfl) (argsL := [(.int 16)]) (st := []) (a := sb) (lenOf pd_1 rfl) rfl rfl (by decide) (by decide) e0 hby d10_3 ?_
  intro T2 v2 L2 X2 hQ2
  obtain ⟨b_2, kb_2, rfl, Nq2, K2, P2_0, P2_1, P2_2, P2_3, P2_4, P2_5⟩ := hQ2
  have N2 := Fr.app N0 Nq2
  have z3 : h0.size ≤ T2.heap.size := K2.1
  have lt4 : T2.heap.size > sb := P2_0.lt
  have lt5 : T2.heap.size > b_2 := P2_5.lt
  refine own_sh (T := T2) 6 #[.val (.ref sb)] [] ?_
  have K6 : Keep h0 T2.heap [sb] := ((Keep.refl h0 [sb]).trans K2 (allS (P := fun xq_ => xq_ ∈ [sb] ∨ h0.size ≤ xq_) (Or.inl (List.mem_of_getElem? (i := 0) rfl)) all0))
  obtain ⟨fs, hr, hrun, hended, hW, hsame⟩ := X2.leave (v := none) (fun _ => rfl)
  refine own_ret (t := T2.setFrames fs) ?_ ⟨_, hrun, hended, _, _, rfl, ?_, ⟨_, rfl⟩, hW, hsame.mono (by decide) (by decide)⟩
  · exact X2.returnOut hx Bd.returns (hb hby d10_6) hr
  · show Q_sbInit Z _ _ h0 n0 _ T2.heap _
    exact ⟨b_2, kb_2, rfl, N2, K6, P2_0, P2_1, P2_2, P2_3, (by omega), P2_5⟩
theorem ef_strCoder (m : MethodId) (x0 : Nat) : entryFrame m #[(.ref x0)] 1 = mkF m 0 #[.val (.ref x0)] [] := by first | (simp [entryFrame, mkF, argsToLocals, Value.category]; done) | rfl
theorem pn_15 : plainName "java/lang/String" = true := by first | (simp [plainName, overriddenIn]; done) | decide +kernel
theorem d15_0 : decode jdk_42_method_152_code 0 = .ok (.getstatic 38, 3) := by decide +kernel
theorem d15_3 : decode jdk_42_method_152_code 3 = .ok (.ifCond .eq 10, 3) := by decide +kernel
theorem d15_6 : decode jdk_42_method_152_code 6 = .ok (.aload_n 0, 1) := by decide +kernel
theorem d15_7 : decode jdk_42_method_152_code 7 = .ok (.getfield 15, 3) := by decide +kernel
theorem d15_10 : decode jdk_42_method_152_code 10 = .ok (.goto 4, 3) := by decide +kernel
theorem d15_14 : decode jdk_42_method_152_code 14 = .ok (.ireturn, 1) := by decide +kernel
def Q_strCoder (Z : State) (x : Nat) (zc : Int32) (h0 : Heap) (n0 : Nat) (vR : Option Value) (hR : Heap) (LR : List Loc) : Prop := vR = some (.int 0) ∧ Fr n0 LR ∧ hR = h0
set_option maxRecDepth 65536 in
set_option maxHeartbeats 40000000 in
theorem strCoder (l : Launch) (Z : State) (a0 : Array Value) (hw : ∀ d ∈ tables_1, d.before a0 Z = true) (ws : List Jvm.Cond) (x : Nat) (zc : Int32) (h0 : Heap) (n0 : Nat) (Z0 : n0 ≤ h0.size) (Fc_x : Fld Z h0 x "java/lang/String" "coder" "B" (.int 0)) (S_C : Sta Z h0 "java/lang/String" "COMPACT_STRINGS" "Z" (.int zc)) (hz : ¬ (zc = (0 : Int32))) :
    own_M l (⟨"java/lang/String", "coder", "()B"⟩ : MethodName) jdk_42_method_152_code 1 (some .byte) ws ({ frames := 0, cells := 0, slots := 0, locals := 0 } : Room) Z #[(.ref x)] h0 (Q_strCoder Z x zc h0 n0) := by
  refine own_body (own := "java/lang/String") rfl (plainFor_of_name pn_15) (fun m => ef_strCoder m x) ?_
  intro p e s m below meth c s₁ Bd hml hZ hh hx hby hown X0 e0
  have N0 := Fr.nil n0
  have lt1 : h0.size > x := Fc_x.lt
  refine own_getS X0 hx hZ hown (host := "") (Or.inl (own_w hw 20 rfl)) Via.refl e0 S_C hby d15_0 ?_
  intro T2 X2 e2
  refine own_ifNo X2.here hx hby d15_3 ((if0 _ _).trans (feq hz).1) ?_
  refine own_aloadN X2.here hx hby d15_6 rfl rfl ?_
  refine own_getF X2 hx hZ hown (host := "") (Or.inl (own_w hw 31 rfl)) Via.refl e2 Fc_x hby d15_7 ?_
  intro T3 X3 e3
  refine own_goto X3.here hx hby (pc' := 14) d15_10 (by decide) (by decide) ?_
  obtain ⟨fs, hr, hrun, hended, hW, hsame⟩ := X3.leave (v := some (.int 0)) (fun h => by rw [Bd.returns] at h; cases h)
  refine own_ret (t := T3.setFrames fs) ?_ ⟨_, hrun, hended, _, _, rfl, ?_, ⟨_, rfl⟩, hW, hsame.mono (by decide) (by decide)⟩
  · exact retN X3 hx (t := .byte) Bd.returns (by simp) (hb hby d15_14) hr
  · show Q_strCoder Z _ _ h0 n0 _ T3.heap _
    rw [e3]
    exact ⟨rfl, N0, rfl⟩
theorem ef_strLen_0 (m : MethodId) (x0 : Nat) : entryFrame m #[(.ref x0)] 1 = mkF m 0 #[.val (.ref x0)] [] := by first | (simp [entryFrame, mkF, argsToLocals, Value.category]; done) | rfl
theorem pn_14 : plainName "java/lang/String" = true := by first | (simp [plainName, overriddenIn]; done) | decide +kernel
theorem d14_0 : decode jdk_42_method_54_code 0 = .ok (.aload_n 0, 1) := by decide +kernel
theorem d14_1 : decode jdk_42_method_54_code 1 = .ok (.getfield 9, 3) := by decide +kernel
theorem d14_4 : decode jdk_42_method_54_code 4 = .ok (.arraylength, 1) := by decide +kernel
theorem d14_5 : decode jdk_42_method_54_code 5 = .ok (.aload_n 0, 1) := by decide +kernel
theorem d14_6 : decode jdk_42_method_54_code 6 = .ok (.invokevirtual 335, 3) := by decide +kernel
theorem pd_2 : parseMethodDescriptor "()B" = some ⟨[], some .byte⟩ := by decide +kernel
theorem d14_9 : decode jdk_42_method_54_code 9 = .ok (.ishr, 1) := by decide +kernel
theorem d14_10 : decode jdk_42_method_54_code 10 = .ok (.ireturn, 1) := by decide +kernel
def Q_strLen_0 (Z : State) (x : Nat) (t : Nat) (kb : ClassId) (zc : Int32) (vs_ : List Value) (h0 : Heap) (n0 : Nat) (vR : Option Value) (hR : Heap) (LR : List Loc) : Prop := vR = some (.int 0) ∧ Fr n0 LR ∧ hR = h0
set_option maxRecDepth 65536 in
set_option maxHeartbeats 40000000 in
theorem strLen_0 (l : Launch) (Z : State) (a0 : Array Value) (hw : ∀ d ∈ tables_1, d.before a0 Z = true) (ws : List Jvm.Cond) (x : Nat) (t : Nat) (kb : ClassId) (zc : Int32) (vs_ : List Value) (h0 : Heap) (n0 : Nat) (Z0 : n0 ≤ h0.size) (E_x : Exa Z h0 x "java/lang/String") (Fc_x : Fld Z h0 x "java/lang/String" "coder" "B" (.int 0)) (Fv_x : Fld Z h0 x "java/lang/String" "value" "[B" (.ref t)) (V_t : Arv Z h0 t kb .byte (0 : Int32) vs_ (.int 0)) (S_C : Sta Z h0 "java/lang/String" "COMPACT_STRINGS" "Z" (.int zc)) (hz : ¬ (zc = (0 : Int32))) :
    own_M l (⟨"java/lang/String", "length", "()I"⟩ : MethodName) jdk_42_method_54_code 1 (some .int) ws ({ frames := 1, cells := 0, slots := 0, locals := 13 } : Room) Z #[(.ref x)] h0 (Q_strLen_0 Z x t kb zc vs_ h0 n0) := by
  refine own_body (own := "java/lang/String") rfl (plainFor_of_name pn_14) (fun m => ef_strLen_0 m x) ?_
  intro p e s m below meth c s₁ Bd hml hZ hh hx hby hown X0 e0
  have N0 := Fr.nil n0
  have lt1 : h0.size > x := E_x.lt
  have lt2 : h0.size > t := V_t.lt
  refine own_aloadN X0.here hx hby d14_0 rfl rfl ?_
  refine own_getF X0 hx hZ hown (host := "") (Or.inl (own_w hw 32 rfl)) Via.refl e0 Fv_x hby d14_1 ?_
  intro T3 X3 e3
  refine own_alen X3 hx hZ e3 V_t hby d14_4 ?_
  refine own_aloadN X3.here hx hby d14_5 rfl rfl ?_
  refine own_virtual X3 hx hZ hown (own_w hw 88 rfl) (own_w hw 89 rfl) (notFace_of_selects (args := #[]) (mvT hZ (own_w hw 91 rfl))) (own_w hw 91 rfl) (own_w hw 90 rfl) (own_w hw 2 rfl) (own_w hw 92 rfl) (by decide) (strCoder l Z a0 hw [] x zc h0 n0 Z0 Fc_x S_C hz) 1 (Nat.le_of_eq rfl) (by decide) (by decide) (by rw [hml]; rfl) (argsL := []) (st := [(.int 0)]) E_x (lenOf pd_2 rfl) rfl rfl (by decide) (by decide) e3 hby d14_6 ?_
  intro T4 v4 L4 X4 hQ4
  obtain ⟨rfl, Nq4, eh4⟩ := hQ4
  have N4 := Fr.app N0 Nq4
  refine own_sh (T := T4) 9 #[.val (.ref x)] [(.int 0), (.int 0)] ?_
  refine own_ishr X4.here hx hby d14_9 (v := (0 : Int32)) (by decide) ?_
  obtain ⟨fs, hr, hrun, hended, hW, hsame⟩ := X4.leave (v := some (.int 0)) (fun h => by rw [Bd.returns] at h; cases h)
  refine own_ret (t := T4.setFrames fs) ?_ ⟨_, hrun, hended, _, _, rfl, ?_, ⟨_, rfl⟩, hW, hsame.mono (by decide) (by decide)⟩
  · exact retOut X4 hx Bd.returns rfl (Or.inl ⟨rfl, Or.inl rfl, _, rfl⟩) (hb hby d14_10) hr
  · show Q_strLen_0 Z _ _ _ _ _ h0 n0 _ T4.heap _
    rw [eh4]
    exact ⟨rfl, N4, rfl⟩
theorem ef_asbEns_0 (m : MethodId) (x0 : Nat) (x1 : Int32) : entryFrame m #[(.ref x0), (.int x1)] 3 = mkF m 0 #[.val (.ref x0), .val (.int x1), .unset] [] := by first | (simp [entryFrame, mkF, argsToLocals, Value.category]; done) | rfl
theorem pn_16 : plainName "java/lang/AbstractStringBuilder" = true := by first | (simp [plainName, overriddenIn]; done) | decide +kernel
theorem d16_0 : decode jdk_68_method_9_code 0 = .ok (.aload_n 0, 1) := by decide +kernel
theorem d16_1 : decode jdk_68_method_9_code 1 = .ok (.getfield 15, 3) := by decide +kernel
theorem d16_4 : decode jdk_68_method_9_code 4 = .ok (.arraylength, 1) := by decide +kernel
theorem d16_5 : decode jdk_68_method_9_code 5 = .ok (.aload_n 0, 1) := by decide +kernel
theorem d16_6 : decode jdk_68_method_9_code 6 = .ok (.getfield 22, 3) := by decide +kernel
theorem d16_9 : decode jdk_68_method_9_code 9 = .ok (.ishr, 1) := by decide +kernel
theorem d16_10 : decode jdk_68_method_9_code 10 = .ok (.istore_n 2, 1) := by decide +kernel
theorem d16_11 : decode jdk_68_method_9_code 11 = .ok (.iload_n 1, 1) := by decide +kernel
theorem d16_12 : decode jdk_68_method_9_code 12 = .ok (.iload_n 2, 1) := by decide +kernel
theorem d16_13 : decode jdk_68_method_9_code 13 = .ok (.isub, 1) := by decide +kernel
theorem d16_14 : decode jdk_68_method_9_code 14 = .ok (.ifCond .le 24, 3) := by decide +kernel
theorem d16_38 : decode jdk_68_method_9_code 38 = .ok (.return_, 1) := by decide +kernel
def Q_asbEns_0 (Z : State) (sb : Nat) (b : Nat) (kb : ClassId) (vs_ : List Value) (h0 : Heap) (n0 : Nat) (vR : Option Value) (hR : Heap) (LR : List Loc) : Prop := vR = none ∧ Fr n0 LR ∧ hR = h0
set_option maxRecDepth 65536 in
set_option maxHeartbeats 40000000 in
theorem asbEns_0 (l : Launch) (Z : State) (a0 : Array Value) (hw : ∀ d ∈ tables_1, d.before a0 Z = true) (ws : List Jvm.Cond) (sb : Nat) (b : Nat) (kb : ClassId) (vs_ : List Value) (h0 : Heap) (n0 : Nat) (Z0 : n0 ≤ h0.size) (F_value_sb : Fld Z h0 sb "java/lang/AbstractStringBuilder" "value" "[B" (.ref b)) (F_coder_sb : Fld Z h0 sb "java/lang/AbstractStringBuilder" "coder" "B" (.int 0)) (V_b : Arv Z h0 b kb .byte (16 : Int32) vs_ (.int 0)) :
    own_M l (⟨"java/lang/AbstractStringBuilder", "ensureCapacityInternal", "(I)V"⟩ : MethodName) jdk_68_method_9_code 3 none ws ({ frames := 0, cells := 0, slots := 0, locals := 0 } : Room) Z #[(.ref sb), (.int 0)] h0 (Q_asbEns_0 Z sb b kb vs_ h0 n0) := by
  refine own_body (own := "java/lang/AbstractStringBuilder") rfl (plainFor_of_name pn_16) (fun m => ef_asbEns_0 m sb (0 : Int32)) ?_
  intro p e s m below meth c s₁ Bd hml hZ hh hx hby hown X0 e0
  have N0 := Fr.nil n0
  have lt1 : h0.size > sb := F_value_sb.lt
  have lt2 : h0.size > b := V_b.lt
  refine own_aloadN X0.here hx hby d16_0 rfl rfl ?_
  refine own_getF X0 hx hZ hown (host := "") (Or.inl (own_w hw 69 rfl)) Via.refl e0 F_value_sb hby d16_1 ?_
  intro T3 X3 e3
  refine own_alen X3 hx hZ e3 V_b hby d16_4 ?_
  refine own_aloadN X3.here hx hby d16_5 rfl rfl ?_
  refine own_getF X3 hx hZ hown (host := "") (Or.inl (own_w hw 71 rfl)) Via.refl e3 F_coder_sb hby d16_6 ?_
  intro T4 X4 e4
  refine own_ishr X4.here hx hby d16_9 (v := (16 : Int32)) (by decide) ?_
  refine own_istoreN X4.here hx hby d16_10 (l' := #[.val (.ref sb), .val (.int 0), .val (.int 16)]) rfl ?_
  refine own_iloadN X4.here hx hby d16_11 rfl ?_
  refine own_iloadN X4.here hx hby d16_12 rfl ?_
  refine own_isub X4.here hx hby d16_13 (v := (-16 : Int32)) (by decide) ?_
  refine own_ifYes X4.here hx hby (pc' := 38) d16_14 ((if0 _ _).trans (flt (show ¬ ((0 : Int32) < (-16 : Int32)) from (by decide))).2.2.2) (by decide) (by decide) ?_
  obtain ⟨fs, hr, hrun, hended, hW, hsame⟩ := X4.leave (v := none) (fun _ => rfl)
  refine own_ret (t := T4.setFrames fs) ?_ ⟨_, hrun, hended, _, _, rfl, ?_, ⟨_, rfl⟩, hW, hsame.mono (by decide) (by decide)⟩
  · exact X4.returnOut hx Bd.returns (hb hby d16_38) hr
  · show Q_asbEns_0 Z _ _ _ _ h0 n0 _ T4.heap _
    rw [e4]
    exact ⟨rfl, N0, rfl⟩
theorem ef_asbInfl (m : MethodId) (x0 : Nat) (x1 : Nat) : entryFrame m #[(.ref x0), (.ref x1)] 2 = mkF m 0 #[.val (.ref x0), .val (.ref x1)] [] := by first | (simp [entryFrame, mkF, argsToLocals, Value.category]; done) | rfl
theorem pn_18 : plainName "java/lang/AbstractStringBuilder" = true := by first | (simp [plainName, overriddenIn]; done) | decide +kernel
theorem d18_0 : decode jdk_68_method_71_code 0 = .ok (.getstatic 18, 3) := by decide +kernel
theorem d18_3 : decode jdk_68_method_71_code 3 = .ok (.ifCond .eq 18, 3) := by decide +kernel
theorem d18_6 : decode jdk_68_method_71_code 6 = .ok (.aload_n 0, 1) := by decide +kernel
theorem d18_7 : decode jdk_68_method_71_code 7 = .ok (.getfield 22, 3) := by decide +kernel
theorem d18_10 : decode jdk_68_method_71_code 10 = .ok (.aload_n 1, 1) := by decide +kernel
theorem d18_11 : decode jdk_68_method_71_code 11 = .ok (.invokevirtual 40, 3) := by decide +kernel
theorem d18_14 : decode jdk_68_method_71_code 14 = .ok (.if_icmp .eq 7, 3) := by decide +kernel
theorem d18_21 : decode jdk_68_method_71_code 21 = .ok (.return_, 1) := by decide +kernel
def Q_asbInfl (Z : State) (sb : Nat) (x : Nat) (zc : Int32) (h0 : Heap) (n0 : Nat) (vR : Option Value) (hR : Heap) (LR : List Loc) : Prop := vR = none ∧ Fr n0 LR ∧ hR = h0
set_option maxRecDepth 65536 in
set_option maxHeartbeats 40000000 in
theorem asbInfl (l : Launch) (Z : State) (a0 : Array Value) (hw : ∀ d ∈ tables_1, d.before a0 Z = true) (ws : List Jvm.Cond) (sb : Nat) (x : Nat) (zc : Int32) (h0 : Heap) (n0 : Nat) (Z0 : n0 ≤ h0.size) (F_coder_sb : Fld Z h0 sb "java/lang/AbstractStringBuilder" "coder" "B" (.int 0)) (E_x : Exa Z h0 x "java/lang/String") (Fc_x : Fld Z h0 x "java/lang/String" "coder" "B" (.int 0)) (S_C : Sta Z h0 "java/lang/String" "COMPACT_STRINGS" "Z" (.int zc)) (hz : ¬ (zc = (0 : Int32))) :
    own_M l (⟨"java/lang/AbstractStringBuilder", "inflateIfNeededFor", "(Ljava/lang/String;)V"⟩ : MethodName) jdk_68_method_71_code 2 none ws ({ frames := 1, cells := 0, slots := 0, locals := 13 } : Room) Z #[(.ref sb), (.ref x)] h0 (Q_asbInfl Z sb x zc h0 n0) := by
  refine own_body (own := "java/lang/AbstractStringBuilder") rfl (plainFor_of_name pn_18) (fun m => ef_asbInfl m sb x) ?_
  intro p e s m below meth c s₁ Bd hml hZ hh hx hby hown X0 e0
  have N0 := Fr.nil n0
  have lt1 : h0.size > sb := F_coder_sb.lt
  have lt2 : h0.size > x := E_x.lt
  refine own_getS X0 hx hZ hown (host := "") (Or.inl (own_w hw 68 rfl)) Via.refl e0 S_C hby d18_0 ?_
  intro T3 X3 e3
  refine own_ifNo X3.here hx hby d18_3 ((if0 _ _).trans (feq hz).1) ?_
  refine own_aloadN X3.here hx hby d18_6 rfl rfl ?_
  refine own_getF X3 hx hZ hown (host := "") (Or.inl (own_w hw 71 rfl)) Via.refl e3 F_coder_sb hby d18_7 ?_
  intro T4 X4 e4
  refine own_aloadN X4.here hx hby d18_10 rfl rfl ?_
  refine own_virtual X4 hx hZ hown (own_w hw 110 rfl) (own_w hw 89 rfl) (notFace_of_selects (args := #[]) (mvT hZ (own_w hw 91 rfl))) (own_w hw 91 rfl) (own_w hw 90 rfl) (own_w hw 2 rfl) (own_w hw 92 rfl) (by decide) (strCoder l Z a0 hw [] x zc h0 n0 Z0 Fc_x S_C hz) 1 (Nat.le_of_eq rfl) (by decide) (by decide) (by rw [hml]; rfl) (argsL := []) (st := [(.int 0)]) E_x (lenOf pd_2 rfl) rfl rfl (by decide) (by decide) e4 hby d18_11 ?_
  intro T5 v5 L5 X5 hQ5
  obtain ⟨rfl, Nq5, eh5⟩ := hQ5
  have N5 := Fr.app N0 Nq5
  refine own_sh (T := T5) 14 #[.val (.ref sb), .val (.ref x)] [(.int 0), (.int 0)] ?_
  refine own_icmpYes X5.here hx hby (pc' := 21) d18_14 (teq (show (0 : Int32) = (0 : Int32) from (by decide))).1 (by decide) (by decide) ?_
  obtain ⟨fs, hr, hrun, hended, hW, hsame⟩ := X5.leave (v := none) (fun _ => rfl)
  refine own_ret (t := T5.setFrames fs) ?_ ⟨_, hrun, hended, _, _, rfl, ?_, ⟨_, rfl⟩, hW, hsame.mono (by decide) (by decide)⟩
  · exact X5.returnOut hx Bd.returns (hb hby d18_21) hr
  · show Q_asbInfl Z _ _ _ h0 n0 _ T5.heap _
    rw [eh5]
    exact ⟨rfl, N5, rfl⟩
theorem ef_strGB_0_0 (m : MethodId) (x0 : Nat) (x1 : Nat) (x2 : Int32) (x3 : Int32) : entryFrame m #[(.ref x0), (.ref x1), (.int x2), (.int x3)] 4 = mkF m 0 #[.val (.ref x0), .val (.ref x1), .val (.int x2), .val (.int x3)] [] := by first | (simp [entryFrame, mkF, argsToLocals, Value.category]; done) | rfl
theorem pn_19 : plainName "java/lang/String" = true := by first | (simp [plainName, overriddenIn]; done) | decide +kernel
theorem d19_0 : decode jdk_42_method_147_code 0 = .ok (.aload_n 0, 1) := by decide +kernel
theorem d19_1 : decode jdk_42_method_147_code 1 = .ok (.invokevirtual 335, 3) := by decide +kernel
theorem d19_4 : decode jdk_42_method_147_code 4 = .ok (.iload_n 3, 1) := by decide +kernel
theorem d19_5 : decode jdk_42_method_147_code 5 = .ok (.if_icmp .ne 23, 3) := by decide +kernel
theorem d19_8 : decode jdk_42_method_147_code 8 = .ok (.aload_n 0, 1) := by decide +kernel
theorem d19_9 : decode jdk_42_method_147_code 9 = .ok (.getfield 9, 3) := by decide +kernel
theorem d19_12 : decode jdk_42_method_147_code 12 = .ok (.iconst 0, 1) := by decide +kernel
theorem d19_13 : decode jdk_42_method_147_code 13 = .ok (.aload_n 1, 1) := by decide +kernel
theorem d19_14 : decode jdk_42_method_147_code 14 = .ok (.iload_n 2, 1) := by decide +kernel
theorem d19_15 : decode jdk_42_method_147_code 15 = .ok (.iload_n 3, 1) := by decide +kernel
theorem d19_16 : decode jdk_42_method_147_code 16 = .ok (.ishl, 1) := by decide +kernel
theorem d19_17 : decode jdk_42_method_147_code 17 = .ok (.aload_n 0, 1) := by decide +kernel
theorem d19_18 : decode jdk_42_method_147_code 18 = .ok (.getfield 9, 3) := by decide +kernel
theorem d19_21 : decode jdk_42_method_147_code 21 = .ok (.arraylength, 1) := by decide +kernel
theorem d19_22 : decode jdk_42_method_147_code 22 = .ok (.invokestatic 212, 3) := by decide +kernel
theorem d19_25 : decode jdk_42_method_147_code 25 = .ok (.goto 18, 3) := by decide +kernel
theorem d19_43 : decode jdk_42_method_147_code 43 = .ok (.return_, 1) := by decide +kernel
def Q_strGB_0_0 (Z : State) (x : Nat) (t : Nat) (b : Nat) (kt : ClassId) (kb : ClassId) (zc : Int32) (h0 : Heap) (n0 : Nat) (vR : Option Value) (hR : Heap) (LR : List Loc) : Prop := vR = none ∧ Fr n0 LR ∧ Keep h0 hR [b] ∧ (Arv Z hR b kb .byte (16 : Int32) [(.int 0), (.int 0), (.int 0), (.int 0), (.int 0), (.int 0), (.int 0), (.int 0), (.int 0), (.int 0), (.int 0), (.int 0), (.int 0), (.int 0), (.int 0), (.int 0)] (.int 0))
set_option maxRecDepth 65536 in
set_option maxHeartbeats 40000000 in
theorem strGB_0_0 (l : Launch) (Z : State) (a0 : Array Value) (hw : ∀ d ∈ tables_1, d.before a0 Z = true) (ws : List Jvm.Cond) (x : Nat) (t : Nat) (b : Nat) (kt : ClassId) (kb : ClassId) (zc : Int32) (h0 : Heap) (n0 : Nat) (Z0 : n0 ≤ h0.size) (E_x : Exa Z h0 x "java/lang/String") (Fc_x : Fld Z h0 x "java/lang/String" "coder" "B" (.int 0)) (Fv_x : Fld Z h0 x "java/lang/String" "value" "[B" (.ref t)) (V_t : Arv Z h0 t kt .byte (0 : Int32) [] (.int 0)) (g_b : n0 ≤ b) (V_b : Arv Z h0 b kb .byte (16 : Int32) [(.int 0), (.int 0), (.int 0), (.int 0), (.int 0), (.int 0), (.int 0), (.int 0), (.int 0), (.int 0), (.int 0), (.int 0), (.int 0), (.int 0), (.int 0), (.int 0)] (.int 0)) (S_C : Sta Z h0 "java/lang/String" "COMPACT_STRINGS" "Z" (.int zc)) (hz : ¬ (zc = (0 : Int32))) :
    own_M l (⟨"java/lang/String", "getBytes", "([BIB)V"⟩ : MethodName) jdk_42_method_147_code 4 none ws ({ frames := 1, cells := 0, slots := 0, locals := 18 } : Room) Z #[(.ref x), (.ref b), (.int 0), (.int 0)] h0 (Q_strGB_0_0 Z x t b kt kb zc h0 n0) := by
  refine own_body (own := "java/lang/String") rfl (plainFor_of_name pn_19) (fun m => ef_strGB_0_0 m x b (0 : Int32) (0 : Int32)) ?_
  intro p e s m below meth c s₁ Bd hml hZ hh hx hby hown X0 e0
  have N0 := Fr.nil n0
  have lt1 : h0.size > x := E_x.lt
  have lt2 : h0.size > t := V_t.lt
  have lt3 : h0.size > b := V_b.lt
  refine own_aloadN X0.here hx hby d19_0 rfl rfl ?_
  refine own_virtual X0 hx hZ hown (own_w hw 88 rfl) (own_w hw 89 rfl) (notFace_of_selects (args := #[]) (mvT hZ (own_w hw 91 rfl))) (own_w hw 91 rfl) (own_w hw 90 rfl) (own_w hw 2 rfl) (own_w hw 92 rfl) (by decide) (strCoder l Z a0 hw [] x zc h0 n0 Z0 Fc_x S_C hz) 0 (Nat.le_of_eq rfl) (by decide) (by decide) (by rw [hml]; rfl) (argsL := []) (st := []) E_x (lenOf pd_2 rfl) rfl rfl (by decide) (by decide) e0 hby d19_1 ?_
  intro T4 v4 L4 X4 hQ4
  obtain ⟨rfl, Nq4, eh4⟩ := hQ4
  have N4 := Fr.app N0 Nq4
  refine own_sh (T := T4) 4 #[.val (.ref x), .val (.ref b), .val (.int 0), .val (.int 0)] [(.int 0)] ?_
  refine own_iloadN X4.here hx hby d19_4 rfl ?_
  refine own_icmpNo X4.here hx hby d19_5 (teq (show (0 : Int32) = (0 : Int32) from (by decide))).2 ?_
  refine own_aloadN X4.here hx hby d19_8 rfl rfl ?_
  refine own_getF X4 hx hZ hown (host := "") (Or.inl (own_w hw 32 rfl)) Via.refl eh4 Fv_x hby d19_9 ?_
  intro T5 X5 e5
  refine own_iconst X5.here hx hby d19_12 (v := (0 : Int32)) (by decide) ?_
  refine own_aloadN X5.here hx hby d19_13 rfl rfl ?_
  refine own_iloadN X5.here hx hby d19_14 rfl ?_
  refine own_iloadN X5.here hx hby d19_15 rfl ?_
  refine own_ishl X5.here hx hby d19_16 (v := (0 : Int32)) (by decide) ?_
  refine own_aloadN X5.here hx hby d19_17 rfl rfl ?_
  refine own_getF X5 hx hZ hown (host := "") (Or.inl (own_w hw 32 rfl)) Via.refl e5 Fv_x hby d19_18 ?_
  intro T6 X6 e6
  refine own_alen X6 hx hZ e6 V_t hby d19_21 ?_
  refine own_copyL X6 hx hZ hown (own_w hw 116 rfl) (own_w hw 119 rfl) (own_w hw 117 rfl) (own_w hw 118 rfl) e6 V_t V_b (res := [(.int 0), (.int 0), (.int 0), (.int 0), (.int 0), (.int 0), (.int 0), (.int 0), (.int 0), (.int 0), (.int 0), (.int 0), (.int 0), (.int 0), (.int 0), (.int 0)]) rfl 0 0 0 (by decide) (by decide) (by decide) (by decide) (by decide) (by decide) (by decide) (by decide) (Nat.le_of_ble_eq_true rfl) rfl N4 g_b (by rw [hml]; rfl) hby d19_22 (by decide) 0 (Nat.le_of_eq rfl) (by decide) ?_
  intro T7 h7 lo7 X7 e7 N7 K7 V7 z7
  refine own_goto X7.here hx hby (pc' := 43) d19_25 (by decide) (by decide) ?_
  have K8 : Keep h0 h7 [b] := ((Keep.refl h0 [b]).trans K7 (allS (P := fun xq_ => xq_ ∈ [b] ∨ h0.size ≤ xq_) (Or.inl (List.mem_of_getElem? (i := 0) rfl)) all0))
  obtain ⟨fs, hr, hrun, hended, hW, hsame⟩ := X7.leave (v := none) (fun _ => rfl)
  refine own_ret (t := T7.setFrames fs) ?_ ⟨_, hrun, hended, _, _, rfl, ?_, ⟨_, rfl⟩, hW, hsame.mono (by decide) (by decide)⟩
  · exact X7.returnOut hx Bd.returns (hb hby d19_43) hr
  · show Q_strGB_0_0 Z _ _ _ _ _ _ h0 n0 _ T7.heap _
    rw [e7]
    exact ⟨rfl, N7, K8, V7⟩
theorem ef_asbPut_0_0 (m : MethodId) (x0 : Nat) (x1 : Int32) (x2 : Nat) : entryFrame m #[(.ref x0), (.int x1), (.ref x2)] 3 = mkF m 0 #[.val (.ref x0), .val (.int x1), .val (.ref x2)] [] := by first | (simp [entryFrame, mkF, argsToLocals, Value.category]; done) | rfl
theorem pn_17 : plainName "java/lang/AbstractStringBuilder" = true := by first | (simp [plainName, overriddenIn]; done) | decide +kernel
theorem d17_0 : decode jdk_68_method_73_code 0 = .ok (.aload_n 0, 1) := by decide +kernel
theorem d17_1 : decode jdk_68_method_73_code 1 = .ok (.aload_n 2, 1) := by decide +kernel
theorem d17_2 : decode jdk_68_method_73_code 2 = .ok (.invokevirtual 397, 3) := by decide +kernel
theorem pd_3 : parseMethodDescriptor "(Ljava/lang/String;)V" = some ⟨[(.object "java/lang/String")], none⟩ := by decide +kernel
theorem d17_5 : decode jdk_68_method_73_code 5 = .ok (.aload_n 2, 1) := by decide +kernel
theorem d17_6 : decode jdk_68_method_73_code 6 = .ok (.aload_n 0, 1) := by decide +kernel
theorem d17_7 : decode jdk_68_method_73_code 7 = .ok (.getfield 15, 3) := by decide +kernel
theorem d17_10 : decode jdk_68_method_73_code 10 = .ok (.iload_n 1, 1) := by decide +kernel
theorem d17_11 : decode jdk_68_method_73_code 11 = .ok (.aload_n 0, 1) := by decide +kernel
theorem d17_12 : decode jdk_68_method_73_code 12 = .ok (.getfield 22, 3) := by decide +kernel
theorem d17_15 : decode jdk_68_method_73_code 15 = .ok (.invokevirtual 399, 3) := by decide +kernel
theorem pd_4 : parseMethodDescriptor "([BIB)V" = some ⟨[(.array .byte), .int, .byte], none⟩ := by decide +kernel
theorem d17_18 : decode jdk_68_method_73_code 18 = .ok (.return_, 1) := by decide +kernel
def Q_asbPut_0_0 (Z : State) (sb : Nat) (b : Nat) (x : Nat) (t : Nat) (kb : ClassId) (kt : ClassId) (zc : Int32) (h0 : Heap) (n0 : Nat) (vR : Option Value) (hR : Heap) (LR : List Loc) : Prop := vR = none ∧ Fr n0 LR ∧ Keep h0 hR [b] ∧ (Arv Z hR b kb .byte (16 : Int32) [(.int 0), (.int 0), (.int 0), (.int 0), (.int 0), (.int 0), (.int 0), (.int 0), (.int 0), (.int 0), (.int 0), (.int 0), (.int 0), (.int 0), (.int 0), (.int 0)] (.int 0))
set_option maxRecDepth 65536 in
set_option maxHeartbeats 40000000 in
theorem asbPut_0_0 (l : Launch) (Z : State) (a0 : Array Value) (hw : ∀ d ∈ tables_1, d.before a0 Z = true) (ws : List Jvm.Cond) (sb : Nat) (b : Nat) (x : Nat) (t : Nat) (kb : ClassId) (kt : ClassId) (zc : Int32) (h0 : Heap) (n0 : Nat) (Z0 : n0 ≤ h0.size) (E_sb : Exa Z h0 sb "java/lang/StringBuilder") (F_value_sb : Fld Z h0 sb "java/lang/AbstractStringBuilder" "value" "[B" (.ref b)) (F_coder_sb : Fld Z h0 sb "java/lang/AbstractStringBuilder" "coder" "B" (.int 0)) (V_b : Arv Z h0 b kb .byte (16 : Int32) [(.int 0), (.int 0), (.int 0), (.int 0), (.int 0), (.int 0), (.int 0), (.int 0), (.int 0), (.int 0), (.int 0), (.int 0), (.int 0), (.int 0), (.int 0), (.int 0)] (.int 0)) (E_x : Exa Z h0 x "java/lang/String") (Fc_x : Fld Z h0 x "java/lang/String" "coder" "B" (.int 0)) (Fv_x : Fld Z h0 x "java/lang/String" "value" "[B" (.ref t)) (V_t : Arv Z h0 t kt .byte (0 : Int32) [] (.int 0)) (g_b : n0 ≤ b) (S_C : Sta Z h0 "java/lang/String" "COMPACT_STRINGS" "Z" (.int zc)) (hz : ¬ (zc = (0 : Int32))) :
    own_M l (⟨"java/lang/AbstractStringBuilder", "putStringAt", "(ILjava/lang/String;)V"⟩ : MethodName) jdk_68_method_73_code 3 none ws ({ frames := 2, cells := 0, slots := 0, locals := 33 } : Room) Z #[(.ref sb), (.int 0), (.ref x)] h0 (Q_asbPut_0_0 Z sb b x t kb kt zc h0 n0) := by
  refine own_body (own := "java/lang/AbstractStringBuilder") rfl (plainFor_of_name pn_17) (fun m => ef_asbPut_0_0 m sb (0 : Int32) x) ?_
  intro p e s m below meth c s₁ Bd hml hZ hh hx hby hown X0 e0
  have N0 := Fr.nil n0
  have lt1 : h0.size > sb := E_sb.lt
  have lt2 : h0.size > b := V_b.lt
  have lt3 : h0.size > x := E_x.lt
  have lt4 : h0.size > t := V_t.lt
  refine own_aloadN X0.here hx hby d17_0 rfl rfl ?_
  refine own_aloadN X0.here hx hby d17_1 rfl rfl ?_
  refine own_privateS X0 hx hZ hown (own_w hw 105 rfl) (own_w hw 106 rfl) (own_w hw 108 rfl) (own_w hw 107 rfl) (own_w hw 65 rfl) (own_w hw 109 rfl) (by decide) (asbInfl l Z a0 hw [] sb x zc h0 n0 Z0 F_coder_sb E_x Fc_x S_C hz) 0 (Nat.le_of_eq rfl) (by decide) (by decide) (by rw [hml]; rfl) (argsL := [(.ref x)]) (st := []) E_sb (lenOf pd_3 rfl) rfl rfl (by decide) (by decide) e0 hby d17_2 ?_
  intro T5 v5 L5 X5 hQ5
  obtain ⟨rfl, Nq5, eh5⟩ := hQ5
  have N5 := Fr.app N0 Nq5
  refine own_sh (T := T5) 5 #[.val (.ref sb), .val (.int 0), .val (.ref x)] [] ?_
  refine own_aloadN X5.here hx hby d17_5 rfl rfl ?_
  refine own_aloadN X5.here hx hby d17_6 rfl rfl ?_
  refine own_getF X5 hx hZ hown (host := "") (Or.inl (own_w hw 69 rfl)) Via.refl eh5 F_value_sb hby d17_7 ?_
  intro T6 X6 e6
  refine own_iloadN X6.here hx hby d17_10 rfl ?_
  refine own_aloadN X6.here hx hby d17_11 rfl rfl ?_
  refine own_getF X6 hx hZ hown (host := "") (Or.inl (own_w hw 71 rfl)) Via.refl e6 F_coder_sb hby d17_12 ?_
  intro T7 X7 e7
  refine own_virtual X7 hx hZ hown (own_w hw 111 rfl) (own_w hw 112 rfl) (notFace_of_selects (args := #[]) (mvT hZ (own_w hw 114 rfl))) (own_w hw 114 rfl) (own_w hw 113 rfl) (own_w hw 2 rfl) (own_w hw 115 rfl) (by decide) (strGB_0_0 l Z a0 hw [] x t b kt kb zc h0 n0 Z0 E_x Fc_x Fv_x V_t g_b V_b S_C hz) 0 (Nat.le_of_eq rfl) (by decide) (by decide) (by rw [hml]; rfl) (argsL := [(.ref b), (.int 0), (.int 0)]) (st := []) E_x (lenOf pd_4 rfl) rfl rfl (by decide) (by decide) e7 hby d17_15 ?_
  intro T8 v8 L8 X8 hQ8
  obtain ⟨rfl, Nq8, K8, P8_0⟩ := hQ8
  have N8 := Fr.app N5 Nq8
  have z9 : h0.size ≤ T8.heap.size := K8.1
  have lt10 : T8.heap.size > b := P8_0.lt
  refine own_sh (T := T8) 18 #[.val (.ref sb), .val (.int 0), .val (.ref x)] [] ?_
  have K11 : Keep h0 T8.heap [b] := ((Keep.refl h0 [b]).trans K8 (allS (P := fun xq_ => xq_ ∈ [b] ∨ h0.size ≤ xq_) (Or.inl (List.mem_of_getElem? (i := 0) rfl)) all0))
  obtain ⟨fs, hr, hrun, hended, hW, hsame⟩ := X8.leave (v := none) (fun _ => rfl)
  refine own_ret (t := T8.setFrames fs) ?_ ⟨_, hrun, hended, _, _, rfl, ?_, ⟨_, rfl⟩, hW, hsame.mono (by decide) (by decide)⟩
  · exact X8.returnOut hx Bd.returns (hb hby d17_18) hr
  · show Q_asbPut_0_0 Z _ _ _ _ _ _ _ h0 n0 _ T8.heap _
    exact ⟨rfl, N8, K11, P8_0⟩
theorem ef_asbApp_0_0 (m : MethodId) (x0 : Nat) (x1 : Nat) : entryFrame m #[(.ref x0), (.ref x1)] 3 = mkF m 0 #[.val (.ref x0), .val (.ref x1), .unset] [] := by first | (simp [entryFrame, mkF, argsToLocals, Value.category]; done) | rfl
theorem pn_13 : plainName "java/lang/AbstractStringBuilder" = true := by first | (simp [plainName, overriddenIn]; done) | decide +kernel
theorem d13_0 : decode jdk_68_method_22_code 0 = .ok (.aload_n 1, 1) := by decide +kernel
theorem d13_1 : decode jdk_68_method_22_code 1 = .ok (.ifnonnull 8, 3) := by decide +kernel
theorem d13_9 : decode jdk_68_method_22_code 9 = .ok (.aload_n 1, 1) := by decide +kernel
theorem d13_10 : decode jdk_68_method_22_code 10 = .ok (.invokevirtual 32, 3) := by decide +kernel
theorem pd_5 : parseMethodDescriptor "()I" = some ⟨[], some .int⟩ := by decide +kernel
theorem d13_13 : decode jdk_68_method_22_code 13 = .ok (.istore_n 2, 1) := by decide +kernel
theorem d13_14 : decode jdk_68_method_22_code 14 = .ok (.aload_n 0, 1) := by decide +kernel
theorem d13_15 : decode jdk_68_method_22_code 15 = .ok (.aload_n 0, 1) := by decide +kernel
theorem d13_16 : decode jdk_68_method_22_code 16 = .ok (.getfield 79, 3) := by decide +kernel
theorem d13_19 : decode jdk_68_method_22_code 19 = .ok (.iload_n 2, 1) := by decide +kernel
theorem d13_20 : decode jdk_68_method_22_code 20 = .ok (.iadd, 1) := by decide +kernel
theorem d13_21 : decode jdk_68_method_22_code 21 = .ok (.invokevirtual 100, 3) := by decide +kernel
theorem d13_24 : decode jdk_68_method_22_code 24 = .ok (.aload_n 0, 1) := by decide +kernel
theorem d13_25 : decode jdk_68_method_22_code 25 = .ok (.aload_n 0, 1) := by decide +kernel
theorem d13_26 : decode jdk_68_method_22_code 26 = .ok (.getfield 79, 3) := by decide +kernel
theorem d13_29 : decode jdk_68_method_22_code 29 = .ok (.aload_n 1, 1) := by decide +kernel
theorem d13_30 : decode jdk_68_method_22_code 30 = .ok (.invokevirtual 208, 3) := by decide +kernel
theorem pd_6 : parseMethodDescriptor "(ILjava/lang/String;)V" = some ⟨[.int, (.object "java/lang/String")], none⟩ := by decide +kernel
theorem d13_33 : decode jdk_68_method_22_code 33 = .ok (.aload_n 0, 1) := by decide +kernel
theorem d13_34 : decode jdk_68_method_22_code 34 = .ok (.dup, 1) := by decide +kernel
theorem d13_35 : decode jdk_68_method_22_code 35 = .ok (.getfield 79, 3) := by decide +kernel
theorem d13_38 : decode jdk_68_method_22_code 38 = .ok (.iload_n 2, 1) := by decide +kernel
theorem d13_39 : decode jdk_68_method_22_code 39 = .ok (.iadd, 1) := by decide +kernel
theorem d13_40 : decode jdk_68_method_22_code 40 = .ok (.putfield 79, 3) := by decide +kernel
theorem d13_43 : decode jdk_68_method_22_code 43 = .ok (.aload_n 0, 1) := by decide +kernel
theorem d13_44 : decode jdk_68_method_22_code 44 = .ok (.areturn, 1) := by decide +kernel
def Q_asbApp_0_0 (Z : State) (sb : Nat) (b : Nat) (x : Nat) (t : Nat) (kb : ClassId) (kt : ClassId) (zc : Int32) (h0 : Heap) (n0 : Nat) (vR : Option Value) (hR : Heap) (LR : List Loc) : Prop := vR = some (.ref sb) ∧ Fr n0 LR ∧ Keep h0 hR [sb, b] ∧ (Exa Z hR sb "java/lang/StringBuilder") ∧ (Fld Z hR sb "java/lang/AbstractStringBuilder" "value" "[B" (.ref b)) ∧ (Fld Z hR sb "java/lang/AbstractStringBuilder" "coder" "B" (.int 0)) ∧ (Fld Z hR sb "java/lang/AbstractStringBuilder" "count" "I" (.int 0)) ∧ (Arv Z hR b kb .byte (16 : Int32) [(.int 0), (.int 0), (.int 0), (.int 0), (.int 0), (.int 0), (.int 0), (.int 0), (.int 0), (.int 0), (.int 0), (.int 0), (.int 0), (.int 0), (.int 0), (.int 0)] (.int 0))
set_option maxRecDepth 65536 in
set_option maxHeartbeats 40000000 in
theorem asbApp_0_0 (l : Launch) (Z : State) (a0 : Array Value) (hw : ∀ d ∈ tables_1, d.before a0 Z = true) (ws : List Jvm.Cond) (sb : Nat) (b : Nat) (x : Nat) (t : Nat) (kb : ClassId) (kt : ClassId) (zc : Int32) (h0 : Heap) (n0 : Nat) (Z0 : n0 ≤ h0.size) (E_sb : Exa Z h0 sb "java/lang/StringBuilder") (F_value_sb : Fld Z h0 sb "java/lang/AbstractStringBuilder" "value" "[B" (.ref b)) (F_coder_sb : Fld Z h0 sb "java/lang/AbstractStringBuilder" "coder" "B" (.int 0)) (V_b : Arv Z h0 b kb .byte (16 : Int32) [(.int 0), (.int 0), (.int 0), (.int 0), (.int 0), (.int 0), (.int 0), (.int 0), (.int 0), (.int 0), (.int 0), (.int 0), (.int 0), (.int 0), (.int 0), (.int 0)] (.int 0)) (E_x : Exa Z h0 x "java/lang/String") (Fc_x : Fld Z h0 x "java/lang/String" "coder" "B" (.int 0)) (Fv_x : Fld Z h0 x "java/lang/String" "value" "[B" (.ref t)) (V_t : Arv Z h0 t kt .byte (0 : Int32) [] (.int 0)) (g_b : n0 ≤ b) (S_C : Sta Z h0 "java/lang/String" "COMPACT_STRINGS" "Z" (.int zc)) (hz : ¬ (zc = (0 : Int32))) (g_sb : n0 ≤ sb) (F_count_sb : Fld Z h0 sb "java/lang/AbstractStringBuilder" "count" "I" (.int 0)) :
    own_M l (⟨"java/lang/AbstractStringBuilder", "append", "(Ljava/lang/String;)Ljava/lang/AbstractStringBuilder;"⟩ : MethodName) jdk_68_method_22_code 3 (some (.object "java/lang/AbstractStringBuilder")) ws ({ frames := 3, cells := 0, slots := 0, locals := 47 } : Room) Z #[(.ref sb), (.ref x)] h0 (Q_asbApp_0_0 Z sb b x t kb kt zc h0 n0) := by
  refine own_body (own := "java/lang/AbstractStringBuilder") rfl (plainFor_of_name pn_13) (fun m => ef_asbApp_0_0 m sb x) ?_
  intro p e s m below meth c s₁ Bd hml hZ hh hx hby hown X0 e0
  have N0 := Fr.nil n0
  have lt1 : h0.size > sb := E_sb.lt
  have lt2 : h0.size > b := V_b.lt
  have lt3 : h0.size > x := E_x.lt
  have lt4 : h0.size > t := V_t.lt
  refine own_aloadN X0.here hx hby d13_0 rfl rfl ?_
  refine own_ifnonnullYes X0.here hx hby (pc' := 9) d13_1 (by decide) (by decide) ?_
  refine own_aloadN X0.here hx hby d13_9 rfl rfl ?_
  refine own_virtual X0 hx hZ hown (own_w hw 83 rfl) (own_w hw 84 rfl) (notFace_of_selects (args := #[]) (mvT hZ (own_w hw 86 rfl))) (own_w hw 86 rfl) (own_w hw 85 rfl) (own_w hw 2 rfl) (own_w hw 87 rfl) (by decide) (strLen_0 l Z a0 hw [] x t kt zc ([]) h0 n0 Z0 E_x Fc_x Fv_x V_t S_C hz) 0 (Nat.le_of_eq rfl) (by decide) (by decide) (by rw [hml]; rfl) (argsL := []) (st := []) E_x (lenOf pd_5 rfl) rfl rfl (by decide) (by decide) e0 hby d13_10 ?_
  intro T5 v5 L5 X5 hQ5
  obtain ⟨rfl, Nq5, eh5⟩ := hQ5
  have N5 := Fr.app N0 Nq5
  refine own_sh (T := T5) 13 #[.val (.ref sb), .val (.ref x), .unset] [(.int 0)] ?_
  refine own_istoreN X5.here hx hby d13_13 (l' := #[.val (.ref sb), .val (.ref x), .val (.int 0)]) rfl ?_
  refine own_aloadN X5.here hx hby d13_14 rfl rfl ?_
  refine own_aloadN X5.here hx hby d13_15 rfl rfl ?_
  refine own_getF X5 hx hZ hown (host := "") (Or.inl (own_w hw 93 rfl)) Via.refl eh5 F_count_sb hby d13_16 ?_
  intro T6 X6 e6
  refine own_iloadN X6.here hx hby d13_19 rfl ?_
  refine own_iadd X6.here hx hby d13_20 (v := (0 : Int32)) (by decide) ?_
  refine own_privateS X6 hx hZ hown (own_w hw 95 rfl) (own_w hw 96 rfl) (own_w hw 98 rfl) (own_w hw 97 rfl) (own_w hw 65 rfl) (own_w hw 99 rfl) (by decide) (asbEns_0 l Z a0 hw [] sb b kb ([(.int 0), (.int 0), (.int 0), (.int 0), (.int 0), (.int 0), (.int 0), (.int 0), (.int 0), (.int 0), (.int 0), (.int 0), (.int 0), (.int 0), (.int 0), (.int 0)]) h0 n0 Z0 F_value_sb F_coder_sb V_b) 0 (Nat.le_of_eq rfl) (by decide) (by decide) (by rw [hml]; rfl) (argsL := [(.int 0)]) (st := []) E_sb (lenOf pd_1 rfl) rfl rfl (by decide) (by decide) e6 hby d13_21 ?_
  intro T7 v7 L7 X7 hQ7
  obtain ⟨rfl, Nq7, eh7⟩ := hQ7
  have N7 := Fr.app N5 Nq7
  refine own_sh (T := T7) 24 #[.val (.ref sb), .val (.ref x), .val (.int 0)] [] ?_
  refine own_aloadN X7.here hx hby d13_24 rfl rfl ?_
  refine own_aloadN X7.here hx hby d13_25 rfl rfl ?_
  refine own_getF X7 hx hZ hown (host := "") (Or.inl (own_w hw 93 rfl)) Via.refl eh7 F_count_sb hby d13_26 ?_
  intro T8 X8 e8
  refine own_aloadN X8.here hx hby d13_29 rfl rfl ?_
  refine own_privateS X8 hx hZ hown (own_w hw 100 rfl) (own_w hw 101 rfl) (own_w hw 103 rfl) (own_w hw 102 rfl) (own_w hw 65 rfl) (own_w hw 104 rfl) (by decide) (asbPut_0_0 l Z a0 hw [] sb b x t kb kt zc h0 n0 Z0 E_sb F_value_sb F_coder_sb V_b E_x Fc_x Fv_x V_t g_b S_C hz) 0 (Nat.le_of_eq rfl) (by decide) (by decide) (by rw [hml]; rfl) (argsL := [(.int 0), (.ref x)]) (st := []) E_sb (lenOf pd_6 rfl) rfl rfl (by decide) (by decide) e8 hby d13_30 ?_
  intro T9 v9 L9 X9 hQ9
  obtain ⟨rfl, Nq9, K9, P9_0⟩ := hQ9
  have N9 := Fr.app N7 Nq9
  have z10 : h0.size ≤ T9.heap.size := K9.1
  have lt11 : T9.heap.size > b := P9_0.lt
  refine own_sh (T := T9) 33 #[.val (.ref sb), .val (.ref x), .val (.int 0)] [] ?_
  refine own_aloadN X9.here hx hby d13_33 rfl rfl ?_
  refine own_dup X9.here hx hby d13_34 rfl ?_
  have f12 := (F_count_sb.keep K9 (ninS (own_ne_oa E_sb (own_w hw 56 rfl) V_b) nin0))
  refine own_getF X9 hx hZ hown (host := "") (Or.inl (own_w hw 93 rfl)) Via.refl rfl f12 hby d13_35 ?_
  intro T13 X13 e13
  refine own_iloadN X13.here hx hby d13_38 rfl ?_
  refine own_iadd X13.here hx hby d13_39 (v := (0 : Int32)) (by decide) ?_
  have f14 := (E_sb.keep K9)
  refine own_putF X13 hx hZ (ty := .int) hown (host := "") (Or.inl (own_w hw 93 rfl)) Via.refl e13 f12 f14 (Or.inl (own_w hw 94 rfl)) (own_w hw 56 rfl) (by decide) rfl rfl hby d13_40 N9 g_sb ?_
  intro T15 h15 lo15 X15 e15 N15 W15 F15 z15
  refine own_aloadN X15.here hx hby d13_43 rfl rfl ?_
  have K16 : Keep h0 h15 [sb, b] := (((Keep.refl h0 [sb, b]).trans K9 (allS (P := fun xq_ => xq_ ∈ [sb, b] ∨ h0.size ≤ xq_) (Or.inl (List.mem_of_getElem? (i := 1) rfl)) all0)).wr W15 (Or.inl (List.mem_of_getElem? (i := 0) rfl)))
  have f17 := (f14.wr W15)
  have f18 := ((F_value_sb.keep K9 (ninS (own_ne_oa E_sb (own_w hw 56 rfl) V_b) nin0)).other W15 (Or.inr (slot_ne (Or.inl (own_w hw 70 rfl)) (Or.inl (own_w hw 94 rfl)) (by decide) (t := (.array .byte)) (t' := .int) (by decide) (by decide))))
  have f19 := ((F_coder_sb.keep K9 (ninS (own_ne_oa E_sb (own_w hw 56 rfl) V_b) nin0)).other W15 (Or.inr (slot_ne (Or.inl (own_w hw 72 rfl)) (Or.inl (own_w hw 94 rfl)) (by decide) (t := .byte) (t' := .int) (by decide) (by decide))))
  have f20 := (P9_0.other W15 (Ne.symm (own_ne_oa E_sb (own_w hw 56 rfl) V_b)))
  obtain ⟨fs, hr, hrun, hended, hW, hsame⟩ := X15.leave (v := some (.ref sb)) (fun h => by rw [Bd.returns] at h; cases h)
  refine own_ret (t := T15.setFrames fs) ?_ ⟨_, hrun, hended, _, _, rfl, ?_, ⟨_, rfl⟩, hW, hsame.mono (by decide) (by decide)⟩
  · exact retOut X15 hx Bd.returns rfl (Or.inr (Or.inr (Or.inr (Or.inr ⟨rfl, rfl, rfl⟩)))) (hb hby d13_44) hr
  · show Q_asbApp_0_0 Z _ _ _ _ _ _ _ h0 n0 _ T15.heap _
    rw [e15]
    exact ⟨rfl, N15, K16, f17, f18, f19, F15, f20⟩
theorem ef_sbApp_0_0 (m : MethodId) (x0 : Nat) (x1 : Nat) : entryFrame m #[(.ref x0), (.ref x1)] 2 = mkF m 0 #[.val (.ref x0), .val (.ref x1)] [] := by first | (simp [entryFrame, mkF, argsToLocals, Value.category]; done) | rfl
theorem pn_12 : plainName "java/lang/StringBuilder" = true := by first | (simp [plainName, overriddenIn]; done) | decide +kernel
theorem d12_0 : decode jdk_67_method_7_code 0 = .ok (.aload_n 0, 1) := by decide +kernel
theorem d12_1 : decode jdk_67_method_7_code 1 = .ok (.aload_n 1, 1) := by decide +kernel
theorem d12_2 : decode jdk_67_method_7_code 2 = .ok (.invokespecial 29, 3) := by decide +kernel
theorem pd_7 : parseMethodDescriptor "(Ljava/lang/String;)Ljava/lang/AbstractStringBuilder;" = some ⟨[(.object "java/lang/String")], some (.object "java/lang/AbstractStringBuilder")⟩ := by decide +kernel
theorem d12_5 : decode jdk_67_method_7_code 5 = .ok (.pop, 1) := by decide +kernel
theorem d12_6 : decode jdk_67_method_7_code 6 = .ok (.aload_n 0, 1) := by decide +kernel
theorem d12_7 : decode jdk_67_method_7_code 7 = .ok (.areturn, 1) := by decide +kernel
def Q_sbApp_0_0 (Z : State) (sb : Nat) (b : Nat) (x : Nat) (t : Nat) (kb : ClassId) (kt : ClassId) (zc : Int32) (h0 : Heap) (n0 : Nat) (vR : Option Value) (hR : Heap) (LR : List Loc) : Prop := vR = some (.ref sb) ∧ Fr n0 LR ∧ Keep h0 hR [sb, b] ∧ (Exa Z hR sb "java/lang/StringBuilder") ∧ (Fld Z hR sb "java/lang/AbstractStringBuilder" "value" "[B" (.ref b)) ∧ (Fld Z hR sb "java/lang/AbstractStringBuilder" "coder" "B" (.int 0)) ∧ (Fld Z hR sb "java/lang/AbstractStringBuilder" "count" "I" (.int 0)) ∧ (Arv Z hR b kb .byte (16 : Int32) [(.int 0), (.int 0), (.int 0), (.int 0), (.int 0), (.int 0), (.int 0), (.int 0), (.int 0), (.int 0), (.int 0), (.int 0), (.int 0), (.int 0), (.int 0), (.int 0)] (.int 0))
set_option maxRecDepth 65536 in
set_option maxHeartbeats 40000000 in
theorem sbApp_0_0 (l : Launch) (Z : State) (a0 : Array Value) (hw : ∀ d ∈ tables_1, d.before a0 Z = true) (ws : List Jvm.Cond) (sb : Nat) (b : Nat) (x : Nat) (t : Nat) (kb : ClassId) (kt : ClassId) (zc : Int32) (h0 : Heap) (n0 : Nat) (Z0 : n0 ≤ h0.size) (E_sb : Exa Z h0 sb "java/lang/StringBuilder") (F_value_sb : Fld Z h0 sb "java/lang/AbstractStringBuilder" "value" "[B" (.ref b)) (F_coder_sb : Fld Z h0 sb "java/lang/AbstractStringBuilder" "coder" "B" (.int 0)) (V_b : Arv Z h0 b kb .byte (16 : Int32) [(.int 0), (.int 0), (.int 0), (.int 0), (.int 0), (.int 0), (.int 0), (.int 0), (.int 0), (.int 0), (.int 0), (.int 0), (.int 0), (.int 0), (.int 0), (.int 0)] (.int 0)) (E_x : Exa Z h0 x "java/lang/String") (Fc_x : Fld Z h0 x "java/lang/String" "coder" "B" (.int 0)) (Fv_x : Fld Z h0 x "java/lang/String" "value" "[B" (.ref t)) (V_t : Arv Z h0 t kt .byte (0 : Int32) [] (.int 0)) (g_b : n0 ≤ b) (S_C : Sta Z h0 "java/lang/String" "COMPACT_STRINGS" "Z" (.int zc)) (hz : ¬ (zc = (0 : Int32))) (g_sb : n0 ≤ sb) (F_count_sb : Fld Z h0 sb "java/lang/AbstractStringBuilder" "count" "I" (.int 0)) :
    own_M l (⟨"java/lang/StringBuilder", "append", "(Ljava/lang/String;)Ljava/lang/StringBuilder;"⟩ : MethodName) jdk_67_method_7_code 2 (some (.object "java/lang/StringBuilder")) ws ({ frames := 4, cells := 0, slots := 0, locals := 61 } : Room) Z #[(.ref sb), (.ref x)] h0 (Q_sbApp_0_0 Z sb b x t kb kt zc h0 n0) := by
  refine own_body (own := "java/lang/StringBuilder") rfl (plainFor_of_name pn_12) (fun m => ef_sbApp_0_0 m sb x) ?_
  intro p e s m below meth c s₁ Bd hml hZ hh hx hby hown X0 e0
  have N0 := Fr.nil n0
  have lt1 : h0.size > sb := E_sb.lt
  have lt2 : h0.size > b := V_b.lt
  have lt3 : h0.size > x := E_x.lt
  have lt4 : h0.size > t := V_t.lt
  refine own_aloadN X0.here hx hby d12_0 rfl rfl ?_
  refine own_aloadN X0.here hx hby d12_1 rfl rfl ?_
  refine own_super X0 hx hZ (by decide) hown (own_w hw 78 rfl) (own_sameM (y := (⟨"java/lang/AbstractStringBuilder", "append", "(Ljava/lang/String;)Ljava/lang/AbstractStringBuilder;"⟩ : MethodName)) (y' := (⟨"java/lang/AbstractStringBuilder", "ensureCapacityInternal", "(I)V"⟩ : MethodName)) rfl (own_w hw 79 rfl) (own_w hw 98 rfl) (by decide)) (own_w hw 79 rfl) (own_w hw 80 rfl) (own_w hw 65 rfl) (own_w hw 82 rfl) (asbApp_0_0 l Z a0 hw [] sb b x t kb kt zc h0 n0 Z0 E_sb F_value_sb F_coder_sb V_b E_x Fc_x Fv_x V_t g_b S_C hz g_sb F_count_sb) 0 (Nat.le_of_eq rfl) (by decide) (by decide) (by rw [hml]; rfl) (argsL := [(.ref x)]) (st := []) E_sb (lenOf pd_7 rfl) rfl rfl (by decide) (by decide) e0 hby d12_2 ?_
  intro T5 v5 L5 X5 hQ5
  obtain ⟨rfl, Nq5, K5, P5_0, P5_1, P5_2, P5_3, P5_4⟩ := hQ5
  have N5 := Fr.app N0 Nq5
  have z6 : h0.size ≤ T5.heap.size := K5.1
  have lt7 : T5.heap.size > sb := P5_0.lt
  have lt8 : T5.heap.size > b := P5_4.lt
  refine own_sh (T := T5) 5 #[.val (.ref sb), .val (.ref x)] [(.ref sb)] ?_
  refine own_pop X5.here hx hby d12_5 rfl ?_
  refine own_aloadN X5.here hx hby d12_6 rfl rfl ?_
  have K9 : Keep h0 T5.heap [sb, b] := ((Keep.refl h0 [sb, b]).trans K5 (allS (P := fun xq_ => xq_ ∈ [sb, b] ∨ h0.size ≤ xq_) (Or.inl (List.mem_of_getElem? (i := 0) rfl)) (allS (P := fun xq_ => xq_ ∈ [sb, b] ∨ h0.size ≤ xq_) (Or.inl (List.mem_of_getElem? (i := 1) rfl)) all0)))
  obtain ⟨fs, hr, hrun, hended, hW, hsame⟩ := X5.leave (v := some (.ref sb)) (fun h => by rw [Bd.returns] at h; cases h)
  refine own_ret (t := T5.setFrames fs) ?_ ⟨_, hrun, hended, _, _, rfl, ?_, ⟨_, rfl⟩, hW, hsame.mono (by decide) (by decide)⟩
  · exact retOut X5 hx Bd.returns rfl (Or.inr (Or.inr (Or.inr (Or.inr ⟨rfl, rfl, rfl⟩)))) (hb hby d12_7) hr
  · show Q_sbApp_0_0 Z _ _ _ _ _ _ _ h0 n0 _ T5.heap _
    exact ⟨rfl, N5, K9, P5_0, P5_1, P5_2, P5_3, P5_4⟩
def Q_strLen_1 (Z : State) (x : Nat) (t : Nat) (kb : ClassId) (zc : Int32) (vs_ : List Value) (h0 : Heap) (n0 : Nat) (vR : Option Value) (hR : Heap) (LR : List Loc) : Prop := vR = some (.int 1) ∧ Fr n0 LR ∧ hR = h0
set_option maxRecDepth 65536 in
set_option maxHeartbeats 40000000 in
theorem strLen_1 (l : Launch) (Z : State) (a0 : Array Value) (hw : ∀ d ∈ tables_1, d.before a0 Z = true) (ws : List Jvm.Cond) (x : Nat) (t : Nat) (kb : ClassId) (zc : Int32) (vs_ : List Value) (h0 : Heap) (n0 : Nat) (Z0 : n0 ≤ h0.size) (E_x : Exa Z h0 x "java/lang/String") (Fc_x : Fld Z h0 x "java/lang/String" "coder" "B" (.int 0)) (Fv_x : Fld Z h0 x "java/lang/String" "value" "[B" (.ref t)) (V_t : Arv Z h0 t kb .byte (1 : Int32) vs_ (.int 0)) (S_C : Sta Z h0 "java/lang/String" "COMPACT_STRINGS" "Z" (.int zc)) (hz : ¬ (zc = (0 : Int32))) :
    own_M l (⟨"java/lang/String", "length", "()I"⟩ : MethodName) jdk_42_method_54_code 1 (some .int) ws ({ frames := 1, cells := 0, slots := 0, locals := 13 } : Room) Z #[(.ref x)] h0 (Q_strLen_1 Z x t kb zc vs_ h0 n0) := by
  refine own_body (own := "java/lang/String") rfl (plainFor_of_name pn_14) (fun m => ef_strLen_0 m x) ?_
  intro p e s m below meth c s₁ Bd hml hZ hh hx hby hown X0 e0
  have N0 := Fr.nil n0
  have lt1 : h0.size > x := E_x.lt
  have lt2 : h0.size > t := V_t.lt
  refine own_aloadN X0.here hx hby d14_0 rfl rfl ?_
  refine own_getF X0 hx hZ hown (host := "") (Or.inl (own_w hw 32 rfl)) Via.refl e0 Fv_x hby d14_1 ?_
  intro T3 X3 e3
  refine own_alen X3 hx hZ e3 V_t hby d14_4 ?_
  refine own_aloadN X3.here hx hby d14_5 rfl rfl ?_
  refine own_virtual X3 hx hZ hown (own_w hw 88 rfl) (own_w hw 89 rfl) (notFace_of_selects (args := #[]) (mvT hZ (own_w hw 91 rfl))) (own_w hw 91 rfl) (own_w hw 90 rfl) (own_w hw 2 rfl) (own_w hw 92 rfl) (by decide) (strCoder l Z a0 hw [] x zc h0 n0 Z0 Fc_x S_C hz) 1 (Nat.le_of_eq rfl) (by decide) (by decide) (by rw [hml]; rfl) (argsL := []) (st := [(.int 1)]) E_x (lenOf pd_2 rfl) rfl rfl (by decide) (by decide) e3 hby d14_6 ?_
  intro T4 v4 L4 X4 hQ4
  obtain ⟨rfl, Nq4, eh4⟩ := hQ4
  have N4 := Fr.app N0 Nq4
  refine own_sh (T := T4) 9 #[.val (.ref x)] [(.int 0), (.int 1)] ?_
  refine own_ishr X4.here hx hby d14_9 (v := (1 : Int32)) (by decide) ?_
  obtain ⟨fs, hr, hrun, hended, hW, hsame⟩ := X4.leave (v := some (.int 1)) (fun h => by rw [Bd.returns] at h; cases h)
  refine own_ret (t := T4.setFrames fs) ?_ ⟨_, hrun, hended, _, _, rfl, ?_, ⟨_, rfl⟩, hW, hsame.mono (by decide) (by decide)⟩
  · exact retOut X4 hx Bd.returns rfl (Or.inl ⟨rfl, Or.inl rfl, _, rfl⟩) (hb hby d14_10) hr
  · show Q_strLen_1 Z _ _ _ _ _ h0 n0 _ T4.heap _
    rw [eh4]
    exact ⟨rfl, N4, rfl⟩
theorem ef_strIsL (m : MethodId) (x0 : Nat) : entryFrame m #[(.ref x0)] 1 = mkF m 0 #[.val (.ref x0)] [] := by first | (simp [entryFrame, mkF, argsToLocals, Value.category]; done) | rfl
theorem pn_24 : plainName "java/lang/String" = true := by first | (simp [plainName, overriddenIn]; done) | decide +kernel
theorem d24_0 : decode jdk_42_method_154_code 0 = .ok (.getstatic 38, 3) := by decide +kernel
theorem d24_3 : decode jdk_42_method_154_code 3 = .ok (.ifCond .eq 14, 3) := by decide +kernel
theorem d24_6 : decode jdk_42_method_154_code 6 = .ok (.aload_n 0, 1) := by decide +kernel
theorem d24_7 : decode jdk_42_method_154_code 7 = .ok (.getfield 15, 3) := by decide +kernel
theorem d24_10 : decode jdk_42_method_154_code 10 = .ok (.ifCond .ne 7, 3) := by decide +kernel
theorem d24_13 : decode jdk_42_method_154_code 13 = .ok (.iconst 1, 1) := by decide +kernel
theorem d24_14 : decode jdk_42_method_154_code 14 = .ok (.goto 4, 3) := by decide +kernel
theorem d24_18 : decode jdk_42_method_154_code 18 = .ok (.ireturn, 1) := by decide +kernel
def Q_strIsL (Z : State) (x : Nat) (zc : Int32) (h0 : Heap) (n0 : Nat) (vR : Option Value) (hR : Heap) (LR : List Loc) : Prop := vR = some (.int 1) ∧ Fr n0 LR ∧ hR = h0
set_option maxRecDepth 65536 in
set_option maxHeartbeats 40000000 in
theorem strIsL (l : Launch) (Z : State) (a0 : Array Value) (hw : ∀ d ∈ tables_1, d.before a0 Z = true) (ws : List Jvm.Cond) (x : Nat) (zc : Int32) (h0 : Heap) (n0 : Nat) (Z0 : n0 ≤ h0.size) (Fc_x : Fld Z h0 x "java/lang/String" "coder" "B" (.int 0)) (S_C : Sta Z h0 "java/lang/String" "COMPACT_STRINGS" "Z" (.int zc)) (hz : ¬ (zc = (0 : Int32))) :
    own_M l (⟨"java/lang/String", "isLatin1", "()Z"⟩ : MethodName) jdk_42_method_154_code 1 (some .boolean) ws ({ frames := 0, cells := 0, slots := 0, locals := 0 } : Room) Z #[(.ref x)] h0 (Q_strIsL Z x zc h0 n0) := by
  refine own_body (own := "java/lang/String") rfl (plainFor_of_name pn_24) (fun m => ef_strIsL m x) ?_
  intro p e s m below meth c s₁ Bd hml hZ hh hx hby hown X0 e0
  have N0 := Fr.nil n0
  have lt1 : h0.size > x := Fc_x.lt
  refine own_getS X0 hx hZ hown (host := "") (Or.inl (own_w hw 20 rfl)) Via.refl e0 S_C hby d24_0 ?_
  intro T2 X2 e2
  refine own_ifNo X2.here hx hby d24_3 ((if0 _ _).trans (feq hz).1) ?_
  refine own_aloadN X2.here hx hby d24_6 rfl rfl ?_
  refine own_getF X2 hx hZ hown (host := "") (Or.inl (own_w hw 31 rfl)) Via.refl e2 Fc_x hby d24_7 ?_
  intro T3 X3 e3
  refine own_ifNo X3.here hx hby d24_10 ((if0 _ _).trans (teq (show (0 : Int32) = (0 : Int32) from (by decide))).2) ?_
  refine own_iconst X3.here hx hby d24_13 (v := (1 : Int32)) (by decide) ?_
  refine own_goto X3.here hx hby (pc' := 18) d24_14 (by decide) (by decide) ?_
  obtain ⟨fs, hr, hrun, hended, hW, hsame⟩ := X3.leave (v := some (.int 1)) (fun h => by rw [Bd.returns] at h; cases h)
  refine own_ret (t := T3.setFrames fs) ?_ ⟨_, hrun, hended, _, _, rfl, ?_, ⟨_, rfl⟩, hW, hsame.mono (by decide) (by decide)⟩
  · exact retN X3 hx (t := .boolean) Bd.returns (by simp) (hb hby d24_18) hr
  · show Q_strIsL Z _ _ h0 n0 _ T3.heap _
    rw [e3]
    exact ⟨rfl, N0, rfl⟩
theorem ef_preFT_1_1 (m : MethodId) (x0 : Int32) (x1 : Int32) (x2 : Int32) (x3 : Value) (hx3 : x3.isRef = true) : entryFrame m #[(.int x0), (.int x1), (.int x2), x3] 4 = mkF m 0 #[.val (.int x0), .val (.int x1), .val (.int x2), .val x3] [] := by cases x3 <;> first | (cases hx3; done) | (simp [entryFrame, mkF, argsToLocals, Value.category]; done) | rfl
theorem pn_23 : plainName "jdk/internal/util/Preconditions" = true := by first | (simp [plainName, overriddenIn]; done) | decide +kernel
theorem d23_0 : decode jdk_41_method_12_code 0 = .ok (.iload_n 0, 1) := by decide +kernel
theorem d23_1 : decode jdk_41_method_12_code 1 = .ok (.ifCond .lt 13, 3) := by decide +kernel
theorem d23_4 : decode jdk_41_method_12_code 4 = .ok (.iload_n 0, 1) := by decide +kernel
theorem d23_5 : decode jdk_41_method_12_code 5 = .ok (.iload_n 1, 1) := by decide +kernel
theorem d23_6 : decode jdk_41_method_12_code 6 = .ok (.if_icmp .gt 8, 3) := by decide +kernel
theorem d23_9 : decode jdk_41_method_12_code 9 = .ok (.iload_n 1, 1) := by decide +kernel
theorem d23_10 : decode jdk_41_method_12_code 10 = .ok (.iload_n 2, 1) := by decide +kernel
theorem d23_11 : decode jdk_41_method_12_code 11 = .ok (.if_icmp .le 11, 3) := by decide +kernel
theorem d23_22 : decode jdk_41_method_12_code 22 = .ok (.iload_n 0, 1) := by decide +kernel
theorem d23_23 : decode jdk_41_method_12_code 23 = .ok (.ireturn, 1) := by decide +kernel
def Q_preFT_1_1 (Z : State) (fm : Value) (h0 : Heap) (n0 : Nat) (vR : Option Value) (hR : Heap) (LR : List Loc) : Prop := vR = some (.int 1) ∧ Fr n0 LR ∧ hR = h0
set_option maxRecDepth 65536 in
set_option maxHeartbeats 40000000 in
theorem preFT_1_1 (l : Launch) (Z : State) (a0 : Array Value) (hw : ∀ d ∈ tables_1, d.before a0 Z = true) (ws : List Jvm.Cond) (fm : Value) (h0 : Heap) (n0 : Nat) (Z0 : n0 ≤ h0.size) (hfm : fm.isRef = true) :
    own_M l (⟨"jdk/internal/util/Preconditions", "checkFromToIndex", "(IIILjava/util/function/BiFunction;)I"⟩ : MethodName) jdk_41_method_12_code 4 (some .int) ws ({ frames := 0, cells := 0, slots := 0, locals := 0 } : Room) Z #[(.int 1), (.int 1), (.int 1), fm] h0 (Q_preFT_1_1 Z fm h0 n0) := by
  refine own_body (own := "jdk/internal/util/Preconditions") rfl (plainFor_of_name pn_23) (fun m => ef_preFT_1_1 m (1 : Int32) (1 : Int32) (1 : Int32) fm hfm) ?_
  intro p e s m below meth c s₁ Bd hml hZ hh hx hby hown X0 e0
  have N0 := Fr.nil n0
  refine own_iloadN X0.here hx hby d23_0 rfl ?_
  refine own_ifNo X0.here hx hby d23_1 ((if0 _ _).trans (flt (show ¬ ((1 : Int32) < (0 : Int32)) from (by decide))).1) ?_
  refine own_iloadN X0.here hx hby d23_4 rfl ?_
  refine own_iloadN X0.here hx hby d23_5 rfl ?_
  refine own_icmpNo X0.here hx hby d23_6 (flt (show ¬ ((1 : Int32) < (1 : Int32)) from (by decide))).2.2.1 ?_
  refine own_iloadN X0.here hx hby d23_9 rfl ?_
  refine own_iloadN X0.here hx hby d23_10 rfl ?_
  refine own_icmpYes X0.here hx hby (pc' := 22) d23_11 (flt (show ¬ ((1 : Int32) < (1 : Int32)) from (by decide))).2.2.2 (by decide) (by decide) ?_
  refine own_iloadN X0.here hx hby d23_22 rfl ?_
  obtain ⟨fs, hr, hrun, hended, hW, hsame⟩ := X0.leave (v := some (.int 1)) (fun h => by rw [Bd.returns] at h; cases h)
  refine own_ret (t := s₁.setFrames fs) ?_ ⟨_, hrun, hended, _, _, rfl, ?_, ⟨_, rfl⟩, hW, hsame.mono (by decide) (by decide)⟩
  · exact retOut X0 hx Bd.returns rfl (Or.inl ⟨rfl, Or.inl rfl, _, rfl⟩) (hb hby d23_23) hr
  · show Q_preFT_1_1 Z _ h0 n0 _ s₁.heap _
    rw [e0]
    exact ⟨rfl, N0, rfl⟩
theorem ef_strBE_1_1 (m : MethodId) (x0 : Int32) (x1 : Int32) (x2 : Int32) : entryFrame m #[(.int x0), (.int x1), (.int x2)] 3 = mkF m 0 #[.val (.int x0), .val (.int x1), .val (.int x2)] [] := by first | (simp [entryFrame, mkF, argsToLocals, Value.category]; done) | rfl
theorem pn_22 : plainName "java/lang/String" = true := by first | (simp [plainName, overriddenIn]; done) | decide +kernel
theorem d22_0 : decode jdk_42_method_158_code 0 = .ok (.iload_n 0, 1) := by decide +kernel
theorem d22_1 : decode jdk_42_method_158_code 1 = .ok (.iload_n 1, 1) := by decide +kernel
theorem d22_2 : decode jdk_42_method_158_code 2 = .ok (.iload_n 2, 1) := by decide +kernel
theorem d22_3 : decode jdk_42_method_158_code 3 = .ok (.getstatic 1053, 3) := by decide +kernel
theorem d22_6 : decode jdk_42_method_158_code 6 = .ok (.invokestatic 1062, 3) := by decide +kernel
theorem pd_8 : parseMethodDescriptor "(IIILjava/util/function/BiFunction;)I" = some ⟨[.int, .int, .int, (.object "java/util/function/BiFunction")], some .int⟩ := by decide +kernel
theorem d22_9 : decode jdk_42_method_158_code 9 = .ok (.pop, 1) := by decide +kernel
theorem d22_10 : decode jdk_42_method_158_code 10 = .ok (.return_, 1) := by decide +kernel
def Q_strBE_1_1 (Z : State) (fm : Value) (h0 : Heap) (n0 : Nat) (vR : Option Value) (hR : Heap) (LR : List Loc) : Prop := vR = none ∧ Fr n0 LR ∧ hR = h0
set_option maxRecDepth 65536 in
set_option maxHeartbeats 40000000 in
theorem strBE_1_1 (l : Launch) (Z : State) (a0 : Array Value) (hw : ∀ d ∈ tables_1, d.before a0 Z = true) (ws : List Jvm.Cond) (fm : Value) (h0 : Heap) (n0 : Nat) (Z0 : n0 ≤ h0.size) (S_FM : Sta Z h0 "jdk/internal/util/Preconditions" "SIOOBE_FORMATTER" "Ljava/util/function/BiFunction;" fm) (hfm : fm.isRef = true) :
    own_M l (⟨"java/lang/String", "checkBoundsBeginEnd", "(III)V"⟩ : MethodName) jdk_42_method_158_code 3 none ws ({ frames := 1, cells := 0, slots := 0, locals := 15 } : Room) Z #[(.int 1), (.int 1), (.int 1)] h0 (Q_strBE_1_1 Z fm h0 n0) := by
  refine own_body (own := "java/lang/String") rfl (plainFor_of_name pn_22) (fun m => ef_strBE_1_1 m (1 : Int32) (1 : Int32) (1 : Int32)) ?_
  intro p e s m below meth c s₁ Bd hml hZ hh hx hby hown X0 e0
  have N0 := Fr.nil n0
  refine own_iloadN X0.here hx hby d22_0 rfl ?_
  refine own_iloadN X0.here hx hby d22_1 rfl ?_
  refine own_iloadN X0.here hx hby d22_2 rfl ?_
  refine own_getS X0 hx hZ hown (host := "") (Or.inl (own_w hw 134 rfl)) Via.refl e0 S_FM hby d22_3 ?_
  intro T1 X1 e1
  refine own_callS X1 hx hZ hown (own_w hw 136 rfl) (own_w hw 137 rfl) (own_w hw 135 rfl) (own_w hw 138 rfl) (by decide) (preFT_1_1 l Z a0 hw [] fm h0 n0 Z0 hfm) 0 (Nat.le_of_eq rfl) (by decide) (by decide) (by rw [hml]; rfl) (argsL := [(.int 1), (.int 1), (.int 1), fm]) (st := []) (lenOf pd_8 rfl) rfl rfl (by decide) (by decide) e1 hby d22_6 ?_
  intro T2 v2 L2 X2 hQ2
  obtain ⟨rfl, Nq2, eh2⟩ := hQ2
  have N2 := Fr.app N0 Nq2
  refine own_sh (T := T2) 9 #[.val (.int 1), .val (.int 1), .val (.int 1)] [(.int 1)] ?_
  refine own_pop X2.here hx hby d22_9 rfl ?_
  obtain ⟨fs, hr, hrun, hended, hW, hsame⟩ := X2.leave (v := none) (fun _ => rfl)
  refine own_ret (t := T2.setFrames fs) ?_ ⟨_, hrun, hended, _, _, rfl, ?_, ⟨_, rfl⟩, hW, hsame.mono (by decide) (by decide)⟩
  · exact X2.returnOut hx Bd.returns (hb hby d22_10) hr
  · show Q_strBE_1_1 Z _ h0 n0 _ T2.heap _
    rw [eh2]
    exact ⟨rfl, N2, rfl⟩
theorem ef_l1New_1_1 (m : MethodId) (x0 : Nat) (x1 : Int32) (x2 : Int32) : entryFrame m #[(.ref x0), (.int x1), (.int x2)] 3 = mkF m 0 #[.val (.ref x0), .val (.int x1), .val (.int x2)] [] := by first | (simp [entryFrame, mkF, argsToLocals, Value.category]; done) | rfl
theorem pn_25 : plainName "java/lang/StringLatin1" = true := by first | (simp [plainName, overriddenIn]; done) | decide +kernel
theorem own_EW {Z : State} {a0 : Array Value} (hw : ∀ d ∈ tables_1, d.before a0 Z = true) : EW Z a0 consts_1 := (EW.cons (own_w hw 1 rfl) (by decide) (EW.cons (own_w hw 36 rfl) (by decide) (EW.cons (own_w hw 213 rfl) (by decide) EW.nil)))
theorem d25_0 : decode jdk_43_method_47_code 0 = .ok (.iload_n 2, 1) := by decide +kernel
theorem d25_1 : decode jdk_43_method_47_code 1 = .ok (.ifCond .ne 6, 3) := by decide +kernel
theorem d25_4 : decode jdk_43_method_47_code 4 = .ok (.ldc 151, 2) := by decide +kernel
theorem own_wS {Z : State} {a0 : Array Value} (hw : ∀ d ∈ tables_1, d.before a0 Z = true) : ∀ a ∈ Bundle.stringAtoms, a.before a0 Z = true := by
  intro a ha
  simp only [Bundle.stringAtoms, Bundle.sN, List.mem_cons, List.not_mem_nil, or_false] at ha
  rcases ha with rfl | rfl | rfl | rfl | rfl | rfl | rfl
  · exact own_w hw 2 rfl
  · exact own_w hw 3 rfl
  · exact own_w hw 4 rfl
  · exact own_w hw 5 rfl
  · exact own_w hw 6 rfl
  · exact own_w hw 7 rfl
  · exact own_w hw 8 rfl
theorem d25_6 : decode jdk_43_method_47_code 6 = .ok (.areturn, 1) := by decide +kernel
def Q_l1New_1_1 (Z : State) (t : Nat) (kt : ClassId) (u0 : Int32) (h0 : Heap) (n0 : Nat) (vR : Option Value) (hR : Heap) (LR : List Loc) : Prop := ∃ (r : Nat) (tr : Nat) (kr : ClassId), vR = some (.ref r) ∧ Fr n0 LR ∧ Keep h0 hR [] ∧ (Exa Z hR r "java/lang/String") ∧ (Fld Z hR r "java/lang/String" "coder" "B" (.int 0)) ∧ (Fld Z hR r "java/lang/String" "value" "[B" (.ref tr)) ∧ (Arv Z hR tr kr .byte (0 : Int32) [] (.int 0))
set_option maxRecDepth 65536 in
set_option maxHeartbeats 40000000 in
theorem l1New_1_1 (l : Launch) (Z : State) (a0 : Array Value) (hw : ∀ d ∈ tables_1, d.before a0 Z = true) (ws : List Jvm.Cond) (t : Nat) (kt : ClassId) (u0 : Int32) (h0 : Heap) (n0 : Nat) (Z0 : n0 ≤ h0.size) (V_t : Arv Z h0 t kt .byte (1 : Int32) [(.int u0)] (.int 0)) :
    own_MH l (⟨"java/lang/StringLatin1", "newString", "([BII)Ljava/lang/String;"⟩ : MethodName) jdk_43_method_47_code 3 (some (.object "java/lang/String")) ws ({ frames := 0, cells := 2, slots := 4, locals := 0 } : Room) Z #[(.ref t), (.int 1), (.int 0)] h0 (Q_l1New_1_1 Z t kt u0 h0 n0) consts_1 := by
  refine own_bodyH (own := "java/lang/StringLatin1") rfl (plainFor_of_name pn_25) (fun m => ef_l1New_1_1 m t (1 : Int32) (0 : Int32)) ?_
  intro p e s m below meth c s₁ Bd hml hZ hh hx hby hown X0 e0 hS0 CH0
  have N0 := Fr.nil n0
  have hk0 : h0.size ≤ h0.size := Nat.le_refl _
  have Y0 : Stand p l e ({ frames := 0, cells := 2, slots := 4, locals := 0 } : Room) (s.setVm s.vm) m #[(.ref t), (.int 1), (.int 0)] below meth c s₁ [] 0 0 := X0
  have hEL := own_EW hw
  have C0 := CHr.refl CH0
  have lt1 : h0.size > t := V_t.lt
  refine own_iloadN Y0.here hx hby d25_0 rfl ?_
  refine own_ifNo Y0.here hx hby d25_1 ((if0 _ _).trans (teq (show (0 : Int32) = (0 : Int32) from (by decide))).2) ?_
  have own_wS0 : ∀ a ∈ Bundle.stringAtoms, a.before a0 Z = true := own_wS hw
  refine own_ldcCH Y0 hx hZ hEL hown (own_w hw 213 rfl) own_wS0 e0 hS0 (by omega) C0.1 (List.mem_of_getElem? (i := 2) rfl) (vs := []) (z := (0 : Int32)) ⟨by decide, by decide⟩ (by decide) (by decide) hby d25_4 0 (by decide) (by decide) (by decide) (by decide) ?_
  intro a2 T2 h2 kk2 vm2 b2 kb2 X2 e2 E2 hS2 hk2 hZ2 hown2 Ea2 Fc2 Fv2 Va2 la2 lb2 Cn2 ns2
  have z3 : h0.size ≤ h2.size := E2.1
  have C4 := C0.trans Cn2
  have lt5 : h2.size > a2 := la2
  have lt6 : h2.size > b2 := lb2
  have K7 : Keep h0 h2 [] := ((Keep.refl h0 []).ext E2)
  obtain ⟨fs, hr, hrun, hended, hRW⟩ := X2.leaveW hS2 (by rw [e2]; omega) (v := some (.ref a2)) (fun h => by rw [Bd.returns] at h; cases h)
  have hCf : CHr Z consts_1 s.vm s.heap T2.vm T2.heap := by
    rw [hh, e2]
    exact C4.trans (CHv.at X2 hZ2 hEL C4.1)
  refine own_ret (t := T2.setFrames fs) ?_ ⟨_, hrun, hended, _, _, rfl, ?_, hCf, hRW.1, hRW.2.1, hRW.2.2.1, hRW.2.2.2.mono (by decide) (by decide)⟩
  · exact retOut X2 hx Bd.returns rfl (Or.inr (Or.inr (Or.inr (Or.inr ⟨rfl, rfl, rfl⟩)))) (hb hby d25_6) hr
  · show Q_l1New_1_1 Z _ _ _ h0 n0 _ T2.heap _
    rw [e2]
    exact ⟨a2, b2, kb2, rfl, N0, K7, Ea2, Fc2, Fv2, Va2⟩
theorem ef_strSub2_1_1 (m : MethodId) (x0 : Nat) (x1 : Int32) (x2 : Int32) : entryFrame m #[(.ref x0), (.int x1), (.int x2)] 5 = mkF m 0 #[.val (.ref x0), .val (.int x1), .val (.int x2), .unset, .unset] [] := by first | (simp [entryFrame, mkF, argsToLocals, Value.category]; done) | rfl
theorem pn_21 : plainName "java/lang/String" = true := by first | (simp [plainName, overriddenIn]; done) | decide +kernel
theorem d21_0 : decode jdk_42_method_92_code 0 = .ok (.aload_n 0, 1) := by decide +kernel
theorem d21_1 : decode jdk_42_method_92_code 1 = .ok (.invokevirtual 505, 3) := by decide +kernel
theorem d21_4 : decode jdk_42_method_92_code 4 = .ok (.istore_n 3, 1) := by decide +kernel
theorem d21_5 : decode jdk_42_method_92_code 5 = .ok (.iload_n 1, 1) := by decide +kernel
theorem d21_6 : decode jdk_42_method_92_code 6 = .ok (.iload_n 2, 1) := by decide +kernel
theorem d21_7 : decode jdk_42_method_92_code 7 = .ok (.iload_n 3, 1) := by decide +kernel
theorem d21_8 : decode jdk_42_method_92_code 8 = .ok (.invokestatic 521, 3) := by decide +kernel
theorem pd_9 : parseMethodDescriptor "(III)V" = some ⟨[.int, .int, .int], none⟩ := by decide +kernel
theorem d21_11 : decode jdk_42_method_92_code 11 = .ok (.iload_n 1, 1) := by decide +kernel
theorem d21_12 : decode jdk_42_method_92_code 12 = .ok (.ifCond .ne 10, 3) := by decide +kernel
theorem d21_22 : decode jdk_42_method_92_code 22 = .ok (.iload_n 2, 1) := by decide +kernel
theorem d21_23 : decode jdk_42_method_92_code 23 = .ok (.iload_n 1, 1) := by decide +kernel
theorem d21_24 : decode jdk_42_method_92_code 24 = .ok (.isub, 1) := by decide +kernel
theorem d21_25 : decode jdk_42_method_92_code 25 = .ok (.istore 4, 2) := by decide +kernel
theorem d21_27 : decode jdk_42_method_92_code 27 = .ok (.aload_n 0, 1) := by decide +kernel
theorem d21_28 : decode jdk_42_method_92_code 28 = .ok (.invokevirtual 492, 3) := by decide +kernel
theorem pd_10 : parseMethodDescriptor "()Z" = some ⟨[], some .boolean⟩ := by decide +kernel
theorem d21_31 : decode jdk_42_method_92_code 31 = .ok (.ifCond .eq 16, 3) := by decide +kernel
theorem d21_34 : decode jdk_42_method_92_code 34 = .ok (.aload_n 0, 1) := by decide +kernel
theorem d21_35 : decode jdk_42_method_92_code 35 = .ok (.getfield 9, 3) := by decide +kernel
theorem d21_38 : decode jdk_42_method_92_code 38 = .ok (.iload_n 1, 1) := by decide +kernel
theorem d21_39 : decode jdk_42_method_92_code 39 = .ok (.iload 4, 2) := by decide +kernel
theorem d21_41 : decode jdk_42_method_92_code 41 = .ok (.invokestatic 685, 3) := by decide +kernel
theorem pd_11 : parseMethodDescriptor "([BII)Ljava/lang/String;" = some ⟨[(.array .byte), .int, .int], some (.object "java/lang/String")⟩ := by decide +kernel
theorem d21_44 : decode jdk_42_method_92_code 44 = .ok (.goto 13, 3) := by decide +kernel
theorem d21_57 : decode jdk_42_method_92_code 57 = .ok (.areturn, 1) := by decide +kernel
def Q_strSub2_1_1 (Z : State) (x : Nat) (t : Nat) (kt : ClassId) (fm : Value) (zc : Int32) (u0 : Int32) (h0 : Heap) (n0 : Nat) (vR : Option Value) (hR : Heap) (LR : List Loc) : Prop := ∃ (r : Nat) (tr : Nat) (kr : ClassId), vR = some (.ref r) ∧ Fr n0 LR ∧ Keep h0 hR [] ∧ (Exa Z hR r "java/lang/String") ∧ (Fld Z hR r "java/lang/String" "coder" "B" (.int 0)) ∧ (Fld Z hR r "java/lang/String" "value" "[B" (.ref tr)) ∧ (Arv Z hR tr kr .byte (0 : Int32) [] (.int 0))
set_option maxRecDepth 65536 in
set_option maxHeartbeats 40000000 in
theorem strSub2_1_1 (l : Launch) (Z : State) (a0 : Array Value) (hw : ∀ d ∈ tables_1, d.before a0 Z = true) (ws : List Jvm.Cond) (x : Nat) (t : Nat) (kt : ClassId) (fm : Value) (zc : Int32) (u0 : Int32) (h0 : Heap) (n0 : Nat) (Z0 : n0 ≤ h0.size) (E_x : Exa Z h0 x "java/lang/String") (Fc_x : Fld Z h0 x "java/lang/String" "coder" "B" (.int 0)) (Fv_x : Fld Z h0 x "java/lang/String" "value" "[B" (.ref t)) (V_t : Arv Z h0 t kt .byte (1 : Int32) [(.int u0)] (.int 0)) (S_C : Sta Z h0 "java/lang/String" "COMPACT_STRINGS" "Z" (.int zc)) (hz : ¬ (zc = (0 : Int32))) (S_FM : Sta Z h0 "jdk/internal/util/Preconditions" "SIOOBE_FORMATTER" "Ljava/util/function/BiFunction;" fm) (hfm : fm.isRef = true) :
    own_MH l (⟨"java/lang/String", "substring", "(II)Ljava/lang/String;"⟩ : MethodName) jdk_42_method_92_code 5 (some (.object "java/lang/String")) ws ({ frames := 2, cells := 2, slots := 4, locals := 29 } : Room) Z #[(.ref x), (.int 1), (.int 1)] h0 (Q_strSub2_1_1 Z x t kt fm zc u0 h0 n0) consts_1 := by
  refine own_bodyH (own := "java/lang/String") rfl (plainFor_of_name pn_21) (fun m => ef_strSub2_1_1 m x (1 : Int32) (1 : Int32)) ?_
  intro p e s m below meth c s₁ Bd hml hZ hh hx hby hown X0 e0 hS0 CH0
  have N0 := Fr.nil n0
  have hk0 : h0.size ≤ h0.size := Nat.le_refl _
  have Y0 : Stand p l e ({ frames := 2, cells := 2, slots := 4, locals := 29 } : Room) (s.setVm s.vm) m #[(.ref x), (.int 1), (.int 1)] below meth c s₁ [] 0 0 := X0
  have hEL := own_EW hw
  have C0 := CHr.refl CH0
  have lt1 : h0.size > x := E_x.lt
  have lt2 : h0.size > t := V_t.lt
  refine own_aloadN Y0.here hx hby d21_0 rfl rfl ?_
  refine own_virtual Y0 hx hZ hown (own_w hw 125 rfl) (own_w hw 84 rfl) (notFace_of_selects (args := #[]) (mvT hZ (own_w hw 86 rfl))) (own_w hw 86 rfl) (own_w hw 85 rfl) (own_w hw 2 rfl) (own_w hw 87 rfl) (by decide) (strLen_1 l Z a0 hw [] x t kt zc ([(.int u0)]) h0 n0 Z0 E_x Fc_x Fv_x V_t S_C hz) 0 (Nat.le_of_eq rfl) (by decide) (by decide) (by rw [hml]; rfl) (argsL := []) (st := []) E_x (lenOf pd_5 rfl) rfl rfl (by decide) (by decide) e0 hby d21_1 ?_
  intro T3 v3 L3 X3 hQ3
  obtain ⟨rfl, Nq3, eh3⟩ := hQ3
  have N3 := Fr.app N0 Nq3
  refine own_sh (T := T3) 4 #[.val (.ref x), .val (.int 1), .val (.int 1), .unset, .unset] [(.int 1)] ?_
  refine own_istoreN X3.here hx hby d21_4 (l' := #[.val (.ref x), .val (.int 1), .val (.int 1), .val (.int 1), .unset]) rfl ?_
  refine own_iloadN X3.here hx hby d21_5 rfl ?_
  refine own_iloadN X3.here hx hby d21_6 rfl ?_
  refine own_iloadN X3.here hx hby d21_7 rfl ?_
  refine own_callS X3 hx hZ hown (own_w hw 131 rfl) (own_w hw 132 rfl) (own_w hw 2 rfl) (own_w hw 133 rfl) (by decide) (strBE_1_1 l Z a0 hw [] fm h0 n0 Z0 S_FM hfm) 0 (Nat.le_of_eq rfl) (by decide) (by decide) (by rw [hml]; rfl) (argsL := [(.int 1), (.int 1), (.int 1)]) (st := []) (lenOf pd_9 rfl) rfl rfl (by decide) (by decide) eh3 hby d21_8 ?_
  intro T4 v4 L4 X4 hQ4
  obtain ⟨rfl, Nq4, eh4⟩ := hQ4
  have N4 := Fr.app N3 Nq4
  refine own_sh (T := T4) 11 #[.val (.ref x), .val (.int 1), .val (.int 1), .val (.int 1), .unset] [] ?_
  refine own_iloadN X4.here hx hby d21_11 rfl ?_
  refine own_ifYes X4.here hx hby (pc' := 22) d21_12 ((if0 _ _).trans (feq (show ¬ ((1 : Int32) = (0 : Int32)) from (by decide))).2) (by decide) (by decide) ?_
  refine own_iloadN X4.here hx hby d21_22 rfl ?_
  refine own_iloadN X4.here hx hby d21_23 rfl ?_
  refine own_isub X4.here hx hby d21_24 (v := (0 : Int32)) (by decide) ?_
  refine own_istore X4.here hx hby d21_25 (l' := #[.val (.ref x), .val (.int 1), .val (.int 1), .val (.int 1), .val (.int 0)]) rfl ?_
  refine own_aloadN X4.here hx hby d21_27 rfl rfl ?_
  refine own_virtual X4 hx hZ hown (own_w hw 139 rfl) (own_w hw 140 rfl) (notFace_of_selects (args := #[]) (mvT hZ (own_w hw 142 rfl))) (own_w hw 142 rfl) (own_w hw 141 rfl) (own_w hw 2 rfl) (own_w hw 143 rfl) (by decide) (strIsL l Z a0 hw [] x zc h0 n0 Z0 Fc_x S_C hz) 0 (Nat.le_of_eq rfl) (by decide) (by decide) (by rw [hml]; rfl) (argsL := []) (st := []) E_x (lenOf pd_10 rfl) rfl rfl (by decide) (by decide) eh4 hby d21_28 ?_
  intro T5 v5 L5 X5 hQ5
  obtain ⟨rfl, Nq5, eh5⟩ := hQ5
  have N5 := Fr.app N4 Nq5
  refine own_sh (T := T5) 31 #[.val (.ref x), .val (.int 1), .val (.int 1), .val (.int 1), .val (.int 0)] [(.int 1)] ?_
  refine own_ifNo X5.here hx hby d21_31 ((if0 _ _).trans (feq (show ¬ ((1 : Int32) = (0 : Int32)) from (by decide))).1) ?_
  refine own_aloadN X5.here hx hby d21_34 rfl rfl ?_
  refine own_getF X5 hx hZ hown (host := "") (Or.inl (own_w hw 32 rfl)) Via.refl eh5 Fv_x hby d21_35 ?_
  intro T6 X6 e6
  refine own_iloadN X6.here hx hby d21_38 rfl ?_
  refine own_iload X6.here hx hby d21_39 rfl ?_
  refine own_callSH X6 hx hZ hEL hown (own_w hw 144 rfl) (own_w hw 145 rfl) (own_w hw 146 rfl) (own_w hw 147 rfl) (by decide) (l1New_1_1 l Z a0 hw [] t kt u0 h0 n0 Z0 V_t) 0 (Nat.le_of_eq rfl) (by decide) (by decide) (by rw [hml]; rfl) (argsL := [(.ref t), (.int 1), (.int 0)]) (st := []) (lenOf pd_11 rfl) rfl rfl (by decide) (by decide) e6 hby C0.1 hS0 (by omega) d21_41 ?_
  intro T7 v7 L7 vm7 X7 hS7 hZ7 hown7 hg7 Cn7 hQ7
  obtain ⟨r_7, tr_7, kr_7, rfl, Nq7, K7, P7_0, P7_1, P7_2, P7_3⟩ := hQ7
  have N7 := Fr.app N5 Nq7
  have z8 : h0.size ≤ T7.heap.size := K7.1
  have C9 := C0.trans Cn7
  have lt10 : T7.heap.size > r_7 := P7_0.lt
  have lt11 : T7.heap.size > tr_7 := P7_3.lt
  refine own_sh (T := T7) 44 #[.val (.ref x), .val (.int 1), .val (.int 1), .val (.int 1), .val (.int 0)] [(.ref r_7)] ?_
  refine own_goto X7.here hx hby (pc' := 57) d21_44 (by decide) (by decide) ?_
  have K12 : Keep h0 T7.heap [] := ((Keep.refl h0 []).trans K7 all0)
  obtain ⟨fs, hr, hrun, hended, hRW⟩ := X7.leaveW hS7 (by omega) (v := some (.ref r_7)) (fun h => by rw [Bd.returns] at h; cases h)
  have hCf : CHr Z consts_1 s.vm s.heap T7.vm T7.heap := by
    rw [hh]
    exact C9.trans (CHv.at X7 hZ7 hEL C9.1)
  refine own_ret (t := T7.setFrames fs) ?_ ⟨_, hrun, hended, _, _, rfl, ?_, hCf, hRW.1, hRW.2.1, hRW.2.2.1, hRW.2.2.2.mono (by decide) (by decide)⟩
  · exact retOut X7 hx Bd.returns rfl (Or.inr (Or.inr (Or.inr (Or.inr ⟨rfl, rfl, rfl⟩)))) (hb hby d21_57) hr
  · show Q_strSub2_1_1 Z _ _ _ _ _ _ h0 n0 _ T7.heap _
    exact ⟨r_7, tr_7, kr_7, rfl, N7, K12, P7_0, P7_1, P7_2, P7_3⟩
theorem ef_strSub_1_1 (m : MethodId) (x0 : Nat) (x1 : Int32) : entryFrame m #[(.ref x0), (.int x1)] 2 = mkF m 0 #[.val (.ref x0), .val (.int x1)] [] := by first | (simp [entryFrame, mkF, argsToLocals, Value.category]; done) | rfl
theorem pn_20 : plainName "java/lang/String" = true := by first | (simp [plainName, overriddenIn]; done) | decide +kernel
theorem d20_0 : decode jdk_42_method_91_code 0 = .ok (.aload_n 0, 1) := by decide +kernel
theorem d20_1 : decode jdk_42_method_91_code 1 = .ok (.iload_n 1, 1) := by decide +kernel
theorem d20_2 : decode jdk_42_method_91_code 2 = .ok (.aload_n 0, 1) := by decide +kernel
theorem d20_3 : decode jdk_42_method_91_code 3 = .ok (.invokevirtual 505, 3) := by decide +kernel
theorem d20_6 : decode jdk_42_method_91_code 6 = .ok (.invokevirtual 681, 3) := by decide +kernel
theorem pd_12 : parseMethodDescriptor "(II)Ljava/lang/String;" = some ⟨[.int, .int], some (.object "java/lang/String")⟩ := by decide +kernel
theorem d20_9 : decode jdk_42_method_91_code 9 = .ok (.areturn, 1) := by decide +kernel
def Q_strSub_1_1 (Z : State) (x : Nat) (t : Nat) (kt : ClassId) (fm : Value) (zc : Int32) (u0 : Int32) (h0 : Heap) (n0 : Nat) (vR : Option Value) (hR : Heap) (LR : List Loc) : Prop := ∃ (r : Nat) (tr : Nat) (kr : ClassId), vR = some (.ref r) ∧ Fr n0 LR ∧ Keep h0 hR [] ∧ (Exa Z hR r "java/lang/String") ∧ (Fld Z hR r "java/lang/String" "coder" "B" (.int 0)) ∧ (Fld Z hR r "java/lang/String" "value" "[B" (.ref tr)) ∧ (Arv Z hR tr kr .byte (0 : Int32) [] (.int 0))
set_option maxRecDepth 65536 in
set_option maxHeartbeats 40000000 in
theorem strSub_1_1 (l : Launch) (Z : State) (a0 : Array Value) (hw : ∀ d ∈ tables_1, d.before a0 Z = true) (ws : List Jvm.Cond) (x : Nat) (t : Nat) (kt : ClassId) (fm : Value) (zc : Int32) (u0 : Int32) (h0 : Heap) (n0 : Nat) (Z0 : n0 ≤ h0.size) (E_x : Exa Z h0 x "java/lang/String") (Fc_x : Fld Z h0 x "java/lang/String" "coder" "B" (.int 0)) (Fv_x : Fld Z h0 x "java/lang/String" "value" "[B" (.ref t)) (V_t : Arv Z h0 t kt .byte (1 : Int32) [(.int u0)] (.int 0)) (S_C : Sta Z h0 "java/lang/String" "COMPACT_STRINGS" "Z" (.int zc)) (hz : ¬ (zc = (0 : Int32))) (S_FM : Sta Z h0 "jdk/internal/util/Preconditions" "SIOOBE_FORMATTER" "Ljava/util/function/BiFunction;" fm) (hfm : fm.isRef = true) :
    own_MH l (⟨"java/lang/String", "substring", "(I)Ljava/lang/String;"⟩ : MethodName) jdk_42_method_91_code 2 (some (.object "java/lang/String")) ws ({ frames := 3, cells := 2, slots := 4, locals := 45 } : Room) Z #[(.ref x), (.int 1)] h0 (Q_strSub_1_1 Z x t kt fm zc u0 h0 n0) consts_1 := by
  refine own_bodyH (own := "java/lang/String") rfl (plainFor_of_name pn_20) (fun m => ef_strSub_1_1 m x (1 : Int32)) ?_
  intro p e s m below meth c s₁ Bd hml hZ hh hx hby hown X0 e0 hS0 CH0
  have N0 := Fr.nil n0
  have hk0 : h0.size ≤ h0.size := Nat.le_refl _
  have Y0 : Stand p l e ({ frames := 3, cells := 2, slots := 4, locals := 45 } : Room) (s.setVm s.vm) m #[(.ref x), (.int 1)] below meth c s₁ [] 0 0 := X0
  have hEL := own_EW hw
  have C0 := CHr.refl CH0
  have lt1 : h0.size > x := E_x.lt
  have lt2 : h0.size > t := V_t.lt
  refine own_aloadN Y0.here hx hby d20_0 rfl rfl ?_
  refine own_iloadN Y0.here hx hby d20_1 rfl ?_
  refine own_aloadN Y0.here hx hby d20_2 rfl rfl ?_
  refine own_virtual Y0 hx hZ hown (own_w hw 125 rfl) (own_w hw 84 rfl) (notFace_of_selects (args := #[]) (mvT hZ (own_w hw 86 rfl))) (own_w hw 86 rfl) (own_w hw 85 rfl) (own_w hw 2 rfl) (own_w hw 87 rfl) (by decide) (strLen_1 l Z a0 hw [] x t kt zc ([(.int u0)]) h0 n0 Z0 E_x Fc_x Fv_x V_t S_C hz) 2 (Nat.le_of_eq rfl) (by decide) (by decide) (by rw [hml]; rfl) (argsL := []) (st := [(.int 1), (.ref x)]) E_x (lenOf pd_5 rfl) rfl rfl (by decide) (by decide) e0 hby d20_3 ?_
  intro T3 v3 L3 X3 hQ3
  obtain ⟨rfl, Nq3, eh3⟩ := hQ3
  have N3 := Fr.app N0 Nq3
  refine own_sh (T := T3) 6 #[.val (.ref x), .val (.int 1)] [(.int 1), (.int 1), (.ref x)] ?_
  refine own_virtualH X3 hx hZ hEL hown (own_w hw 126 rfl) (own_w hw 127 rfl) (notFace_of_selects (args := #[]) (mvT hZ (own_w hw 129 rfl))) (own_w hw 129 rfl) (own_w hw 128 rfl) (own_w hw 2 rfl) (own_w hw 130 rfl) (by decide) (strSub2_1_1 l Z a0 hw [] x t kt fm zc u0 h0 n0 Z0 E_x Fc_x Fv_x V_t S_C hz S_FM hfm) 0 (Nat.le_of_eq rfl) (by decide) (by decide) (by rw [hml]; rfl) (argsL := [(.int 1), (.int 1)]) (st := []) E_x (lenOf pd_12 rfl) rfl rfl (by decide) (by decide) eh3 hby C0.1 hS0 (by omega) d20_6 ?_
  intro T4 v4 L4 vm4 X4 hS4 hZ4 hown4 hg4 Cn4 hQ4
  obtain ⟨r_4, tr_4, kr_4, rfl, Nq4, K4, P4_0, P4_1, P4_2, P4_3⟩ := hQ4
  have N4 := Fr.app N3 Nq4
  have z5 : h0.size ≤ T4.heap.size := K4.1
  have C6 := C0.trans Cn4
  have lt7 : T4.heap.size > r_4 := P4_0.lt
  have lt8 : T4.heap.size > tr_4 := P4_3.lt
  refine own_sh (T := T4) 9 #[.val (.ref x), .val (.int 1)] [(.ref r_4)] ?_
  have K9 : Keep h0 T4.heap [] := ((Keep.refl h0 []).trans K4 all0)
  obtain ⟨fs, hr, hrun, hended, hRW⟩ := X4.leaveW hS4 (by omega) (v := some (.ref r_4)) (fun h => by rw [Bd.returns] at h; cases h)
  have hCf : CHr Z consts_1 s.vm s.heap T4.vm T4.heap := by
    rw [hh]
    exact C6.trans (CHv.at X4 hZ4 hEL C6.1)
  refine own_ret (t := T4.setFrames fs) ?_ ⟨_, hrun, hended, _, _, rfl, ?_, hCf, hRW.1, hRW.2.1, hRW.2.2.1, hRW.2.2.2.mono (by decide) (by decide)⟩
  · exact retOut X4 hx Bd.returns rfl (Or.inr (Or.inr (Or.inr (Or.inr ⟨rfl, rfl, rfl⟩)))) (hb hby d20_9) hr
  · show Q_strSub_1_1 Z _ _ _ _ _ _ h0 n0 _ T4.heap _
    exact ⟨r_4, tr_4, kr_4, rfl, N4, K9, P4_0, P4_1, P4_2, P4_3⟩
theorem ef_min_16_0 (m : MethodId) (x0 : Int32) (x1 : Int32) : entryFrame m #[(.int x0), (.int x1)] 2 = mkF m 0 #[.val (.int x0), .val (.int x1)] [] := by first | (simp [entryFrame, mkF, argsToLocals, Value.category]; done) | rfl
theorem d29_0 : decode jdk_29_method_69_code 0 = .ok (.iload_n 0, 1) := by decide +kernel
theorem d29_1 : decode jdk_29_method_69_code 1 = .ok (.iload_n 1, 1) := by decide +kernel
theorem d29_2 : decode jdk_29_method_69_code 2 = .ok (.if_icmp .gt 7, 3) := by decide +kernel
theorem d29_9 : decode jdk_29_method_69_code 9 = .ok (.iload_n 1, 1) := by decide +kernel
theorem d29_10 : decode jdk_29_method_69_code 10 = .ok (.ireturn, 1) := by decide +kernel
def Q_min_16_0 (Z : State)  (h0 : Heap) (n0 : Nat) (vR : Option Value) (hR : Heap) (LR : List Loc) : Prop := vR = some (.int 0) ∧ Fr n0 LR ∧ hR = h0
set_option maxRecDepth 65536 in
set_option maxHeartbeats 40000000 in
theorem min_16_0 (l : Launch) (Z : State) (a0 : Array Value) (hw : ∀ d ∈ tables_1, d.before a0 Z = true) (ws : List Jvm.Cond)  (h0 : Heap) (n0 : Nat) (Z0 : n0 ≤ h0.size)  :
    own_M l (⟨"java/lang/Math", "min", "(II)I"⟩ : MethodName) jdk_29_method_69_code 2 (some .int) ws ({ frames := 0, cells := 0, slots := 0, locals := 0 } : Room) Z #[(.int 16), (.int 0)] h0 (Q_min_16_0 Z  h0 n0) := by
  refine own_body (own := "java/lang/Math") rfl (Jvm.Free.JP.mathPlain rfl (by decide +kernel)) (fun m => ef_min_16_0 m (16 : Int32) (0 : Int32)) ?_
  intro p e s m below meth c s₁ Bd hml hZ hh hx hby hown X0 e0
  have N0 := Fr.nil n0
  refine own_iloadN X0.here hx hby d29_0 rfl ?_
  refine own_iloadN X0.here hx hby d29_1 rfl ?_
  refine own_icmpYes X0.here hx hby (pc' := 9) d29_2 (tlt (show (0 : Int32) < (16 : Int32) from (by decide))).2.2.1 (by decide) (by decide) ?_
  refine own_iloadN X0.here hx hby d29_9 rfl ?_
  obtain ⟨fs, hr, hrun, hended, hW, hsame⟩ := X0.leave (v := some (.int 0)) (fun h => by rw [Bd.returns] at h; cases h)
  refine own_ret (t := s₁.setFrames fs) ?_ ⟨_, hrun, hended, _, _, rfl, ?_, ⟨_, rfl⟩, hW, hsame.mono (by decide) (by decide)⟩
  · exact retOut X0 hx Bd.returns rfl (Or.inl ⟨rfl, Or.inl rfl, _, rfl⟩) (hb hby d29_10) hr
  · show Q_min_16_0 Z h0 n0 _ s₁.heap _
    rw [e0]
    exact ⟨rfl, N0, rfl⟩
theorem ef_arrChk_0_0 (m : MethodId) (x0 : Int32) (x1 : Int32) : entryFrame m #[(.int x0), (.int x1)] 2 = mkF m 0 #[.val (.int x0), .val (.int x1)] [] := by first | (simp [entryFrame, mkF, argsToLocals, Value.category]; done) | rfl
theorem pn_28 : plainName "java/util/Arrays" = true := by first | (simp [plainName, overriddenIn]; done) | decide +kernel
theorem d28_0 : decode jdk_65_method_131_code 0 = .ok (.iload_n 1, 1) := by decide +kernel
theorem d28_1 : decode jdk_65_method_131_code 1 = .ok (.iload_n 0, 1) := by decide +kernel
theorem d28_2 : decode jdk_65_method_131_code 2 = .ok (.if_icmp .ge 35, 3) := by decide +kernel
theorem d28_37 : decode jdk_65_method_131_code 37 = .ok (.return_, 1) := by decide +kernel
def Q_arrChk_0_0 (Z : State)  (h0 : Heap) (n0 : Nat) (vR : Option Value) (hR : Heap) (LR : List Loc) : Prop := vR = none ∧ Fr n0 LR ∧ hR = h0
set_option maxRecDepth 65536 in
set_option maxHeartbeats 40000000 in
theorem arrChk_0_0 (l : Launch) (Z : State) (a0 : Array Value) (hw : ∀ d ∈ tables_1, d.before a0 Z = true) (ws : List Jvm.Cond)  (h0 : Heap) (n0 : Nat) (Z0 : n0 ≤ h0.size)  :
    own_M l (⟨"java/util/Arrays", "checkLength", "(II)V"⟩ : MethodName) jdk_65_method_131_code 2 none ws ({ frames := 0, cells := 0, slots := 0, locals := 0 } : Room) Z #[(.int 0), (.int 0)] h0 (Q_arrChk_0_0 Z  h0 n0) := by
  refine own_body (own := "java/util/Arrays") rfl (plainFor_of_name pn_28) (fun m => ef_arrChk_0_0 m (0 : Int32) (0 : Int32)) ?_
  intro p e s m below meth c s₁ Bd hml hZ hh hx hby hown X0 e0
  have N0 := Fr.nil n0
  refine own_iloadN X0.here hx hby d28_0 rfl ?_
  refine own_iloadN X0.here hx hby d28_1 rfl ?_
  refine own_icmpYes X0.here hx hby (pc' := 37) d28_2 (flt (show ¬ ((0 : Int32) < (0 : Int32)) from (by decide))).2.1 (by decide) (by decide) ?_
  obtain ⟨fs, hr, hrun, hended, hW, hsame⟩ := X0.leave (v := none) (fun _ => rfl)
  refine own_ret (t := s₁.setFrames fs) ?_ ⟨_, hrun, hended, _, _, rfl, ?_, ⟨_, rfl⟩, hW, hsame.mono (by decide) (by decide)⟩
  · exact X0.returnOut hx Bd.returns (hb hby d28_37) hr
  · show Q_arrChk_0_0 Z h0 n0 _ s₁.heap _
    rw [e0]
    exact ⟨rfl, N0, rfl⟩
theorem ef_crB_0_0_16 (m : MethodId) (x0 : Nat) (x1 : Int32) (x2 : Int32) : entryFrame m #[(.ref x0), (.int x1), (.int x2)] 5 = mkF m 0 #[.val (.ref x0), .val (.int x1), .val (.int x2), .unset, .unset] [] := by first | (simp [entryFrame, mkF, argsToLocals, Value.category]; done) | rfl
theorem pn_27 : plainName "java/util/Arrays" = true := by first | (simp [plainName, overriddenIn]; done) | decide +kernel
theorem d27_0 : decode jdk_65_method_133_code 0 = .ok (.iload_n 1, 1) := by decide +kernel
theorem d27_1 : decode jdk_65_method_133_code 1 = .ok (.iload_n 2, 1) := by decide +kernel
theorem d27_2 : decode jdk_65_method_133_code 2 = .ok (.invokestatic 343, 3) := by decide +kernel
theorem pd_13 : parseMethodDescriptor "(II)V" = some ⟨[.int, .int], none⟩ := by decide +kernel
theorem d27_5 : decode jdk_65_method_133_code 5 = .ok (.iload_n 2, 1) := by decide +kernel
theorem d27_6 : decode jdk_65_method_133_code 6 = .ok (.iload_n 1, 1) := by decide +kernel
theorem d27_7 : decode jdk_65_method_133_code 7 = .ok (.isub, 1) := by decide +kernel
theorem d27_8 : decode jdk_65_method_133_code 8 = .ok (.istore_n 3, 1) := by decide +kernel
theorem d27_9 : decode jdk_65_method_133_code 9 = .ok (.iload_n 3, 1) := by decide +kernel
theorem d27_10 : decode jdk_65_method_133_code 10 = .ok (.newarray .byte, 2) := by decide +kernel
theorem d27_12 : decode jdk_65_method_133_code 12 = .ok (.astore 4, 2) := by decide +kernel
theorem d27_14 : decode jdk_65_method_133_code 14 = .ok (.aload_n 0, 1) := by decide +kernel
theorem d27_15 : decode jdk_65_method_133_code 15 = .ok (.iload_n 1, 1) := by decide +kernel
theorem d27_16 : decode jdk_65_method_133_code 16 = .ok (.aload 4, 2) := by decide +kernel
theorem d27_18 : decode jdk_65_method_133_code 18 = .ok (.iconst 0, 1) := by decide +kernel
theorem d27_19 : decode jdk_65_method_133_code 19 = .ok (.aload_n 0, 1) := by decide +kernel
theorem d27_20 : decode jdk_65_method_133_code 20 = .ok (.arraylength, 1) := by decide +kernel
theorem d27_21 : decode jdk_65_method_133_code 21 = .ok (.iload_n 1, 1) := by decide +kernel
theorem d27_22 : decode jdk_65_method_133_code 22 = .ok (.isub, 1) := by decide +kernel
theorem d27_23 : decode jdk_65_method_133_code 23 = .ok (.iload_n 3, 1) := by decide +kernel
theorem d27_24 : decode jdk_65_method_133_code 24 = .ok (.invokestatic 304, 3) := by decide +kernel
theorem pd_14 : parseMethodDescriptor "(II)I" = some ⟨[.int, .int], some .int⟩ := by decide +kernel
theorem d27_27 : decode jdk_65_method_133_code 27 = .ok (.invokestatic 150, 3) := by decide +kernel
theorem d27_30 : decode jdk_65_method_133_code 30 = .ok (.aload 4, 2) := by decide +kernel
theorem d27_32 : decode jdk_65_method_133_code 32 = .ok (.areturn, 1) := by decide +kernel
def Q_crB_0_0_16 (Z : State) (t : Nat) (kt : ClassId) (h0 : Heap) (n0 : Nat) (vR : Option Value) (hR : Heap) (LR : List Loc) : Prop := ∃ (r : Nat) (kr : ClassId), vR = some (.ref r) ∧ Fr n0 LR ∧ Keep h0 hR [] ∧ h0.size ≤ r ∧ (Arv Z hR r kr .byte (0 : Int32) [] (.int 0))
set_option maxRecDepth 65536 in
set_option maxHeartbeats 40000000 in
theorem crB_0_0_16 (l : Launch) (Z : State) (a0 : Array Value) (hw : ∀ d ∈ tables_1, d.before a0 Z = true) (ws : List Jvm.Cond) (t : Nat) (kt : ClassId) (h0 : Heap) (n0 : Nat) (Z0 : n0 ≤ h0.size) (V_t : Arv Z h0 t kt .byte (16 : Int32) [(.int 0), (.int 0), (.int 0), (.int 0), (.int 0), (.int 0), (.int 0), (.int 0), (.int 0), (.int 0), (.int 0), (.int 0), (.int 0), (.int 0), (.int 0), (.int 0)] (.int 0)) :
    own_M l (⟨"java/util/Arrays", "copyOfRangeByte", "([BII)[B"⟩ : MethodName) jdk_65_method_133_code 5 (some (.array .byte)) ws ({ frames := 1, cells := 1, slots := 0, locals := 18 } : Room) Z #[(.ref t), (.int 0), (.int 0)] h0 (Q_crB_0_0_16 Z t kt h0 n0) := by
  refine own_body (own := "java/util/Arrays") rfl (plainFor_of_name pn_27) (fun m => ef_crB_0_0_16 m t (0 : Int32) (0 : Int32)) ?_
  intro p e s m below meth c s₁ Bd hml hZ hh hx hby hown X0 e0
  have N0 := Fr.nil n0
  have lt1 : h0.size > t := V_t.lt
  refine own_iloadN X0.here hx hby d27_0 rfl ?_
  refine own_iloadN X0.here hx hby d27_1 rfl ?_
  refine own_callS X0 hx hZ hown (own_w hw 156 rfl) (own_w hw 157 rfl) (own_w hw 151 rfl) (own_w hw 158 rfl) (by decide) (arrChk_0_0 l Z a0 hw []  h0 n0 Z0 ) 0 (Nat.le_of_eq rfl) (by decide) (by decide) (by rw [hml]; rfl) (argsL := [(.int 0), (.int 0)]) (st := []) (lenOf pd_13 rfl) rfl rfl (by decide) (by decide) e0 hby d27_2 ?_
  intro T2 v2 L2 X2 hQ2
  obtain ⟨rfl, Nq2, eh2⟩ := hQ2
  have N2 := Fr.app N0 Nq2
  refine own_sh (T := T2) 5 #[.val (.ref t), .val (.int 0), .val (.int 0), .unset, .unset] [] ?_
  refine own_iloadN X2.here hx hby d27_5 rfl ?_
  refine own_iloadN X2.here hx hby d27_6 rfl ?_
  refine own_isub X2.here hx hby d27_7 (v := (0 : Int32)) (by decide) ?_
  refine own_istoreN X2.here hx hby d27_8 (l' := #[.val (.ref t), .val (.int 0), .val (.int 0), .val (.int 0), .unset]) rfl ?_
  refine own_iloadN X2.here hx hby d27_9 rfl ?_
  refine own_newP X2 hx hZ (aty := .byte) (own_w hw 4 rfl) eh2 hby d27_10 (by decide) 0 (by decide) (by decide) (by decide) (by decide) (ad := "[B") (by decide) ?_
  intro T3 h3 k3 b3 X3 e3 E3 g3 V3 C3 lt3
  have z4 : h0.size ≤ h3.size := E3.1
  have V5 : Arv Z h3 b3 k3 .byte (0 : Int32) [] (.int 0) := V3
  refine own_astore X3.here hx hby d27_12 rfl (l' := #[.val (.ref t), .val (.int 0), .val (.int 0), .val (.int 0), .val (.ref b3)]) rfl ?_
  refine own_aloadN X3.here hx hby d27_14 rfl rfl ?_
  refine own_iloadN X3.here hx hby d27_15 rfl ?_
  refine own_aload X3.here hx hby d27_16 rfl rfl ?_
  refine own_iconst X3.here hx hby d27_18 (v := (0 : Int32)) (by decide) ?_
  refine own_aloadN X3.here hx hby d27_19 rfl rfl ?_
  have f6 := (V_t.ext E3)
  refine own_alen X3 hx hZ e3 f6 hby d27_20 ?_
  refine own_iloadN X3.here hx hby d27_21 rfl ?_
  refine own_isub X3.here hx hby d27_22 (v := (16 : Int32)) (by decide) ?_
  refine own_iloadN X3.here hx hby d27_23 rfl ?_
  have z8 : n0 ≤ h3.size := by omega
  refine own_callS X3 hx hZ hown (own_w hw 159 rfl) (own_w hw 160 rfl) (own_w hw 161 rfl) (own_w hw 162 rfl) (by decide) (min_16_0 l Z a0 hw []  h3 n0 z8 ) 4 (Nat.le_of_eq rfl) (by decide) (by decide) (by rw [hml]; rfl) (argsL := [(.int 16), (.int 0)]) (st := [(.int 0), (.ref b3), (.int 0), (.ref t)]) (lenOf pd_14 rfl) rfl rfl (by decide) (by decide) e3 hby d27_24 ?_
  intro T7 v7 L7 X7 hQ7
  obtain ⟨rfl, Nq7, eh7⟩ := hQ7
  have N7 := Fr.app N2 Nq7
  refine own_sh (T := T7) 27 #[.val (.ref t), .val (.int 0), .val (.int 0), .val (.int 0), .val (.ref b3)] [(.int 0), (.int 0), (.ref b3), (.int 0), (.ref t)] ?_
  refine own_copyL X7 hx hZ hown (own_w hw 163 rfl) (own_w hw 119 rfl) (own_w hw 117 rfl) (own_w hw 118 rfl) eh7 f6 V5 (res := []) rfl 0 0 0 (by decide) (by decide) (by decide) (by decide) (by decide) (by decide) (by decide) (by decide) (Nat.le_of_ble_eq_true rfl) rfl N7 (by omega) (by rw [hml]; rfl) hby d27_27 (by decide) 0 (Nat.le_of_eq rfl) (by decide) ?_
  intro T9 h9 lo9 X9 e9 N9 K9 V9 z9
  refine own_aload X9.here hx hby d27_30 rfl rfl ?_
  have K10 : Keep h0 h9 [] := (((Keep.refl h0 []).ext E3).trans K9 (allS (P := fun xq_ => xq_ ∈ [] ∨ h0.size ≤ xq_) (Or.inr (by omega)) all0))
  obtain ⟨fs, hr, hrun, hended, hW, hsame⟩ := X9.leave (v := some (.ref b3)) (fun h => by rw [Bd.returns] at h; cases h)
  refine own_ret (t := T9.setFrames fs) ?_ ⟨_, hrun, hended, _, _, rfl, ?_, ⟨_, rfl⟩, hW, hsame.mono (by decide) (by decide)⟩
  · exact retOut X9 hx Bd.returns rfl (Or.inr (Or.inr (Or.inr (Or.inr ⟨rfl, rfl, rfl⟩)))) (hb hby d27_32) hr
  · show Q_crB_0_0_16 Z _ _ h0 n0 _ T9.heap _
    rw [e9]
    exact ⟨b3, k3, rfl, N9, K10, (by omega), V9⟩
theorem ef_cr_0_0_16 (m : MethodId) (x0 : Nat) (x1 : Int32) (x2 : Int32) : entryFrame m #[(.ref x0), (.int x1), (.int x2)] 3 = mkF m 0 #[.val (.ref x0), .val (.int x1), .val (.int x2)] [] := by first | (simp [entryFrame, mkF, argsToLocals, Value.category]; done) | rfl
theorem pn_26 : plainName "java/util/Arrays" = true := by first | (simp [plainName, overriddenIn]; done) | decide +kernel
theorem d26_0 : decode jdk_65_method_132_code 0 = .ok (.iload_n 1, 1) := by decide +kernel
theorem d26_1 : decode jdk_65_method_132_code 1 = .ok (.ifCond .ne 9, 3) := by decide +kernel
theorem d26_4 : decode jdk_65_method_132_code 4 = .ok (.iload_n 2, 1) := by decide +kernel
theorem d26_5 : decode jdk_65_method_132_code 5 = .ok (.aload_n 0, 1) := by decide +kernel
theorem d26_6 : decode jdk_65_method_132_code 6 = .ok (.arraylength, 1) := by decide +kernel
theorem d26_7 : decode jdk_65_method_132_code 7 = .ok (.if_icmp .eq 10, 3) := by decide +kernel
theorem d26_10 : decode jdk_65_method_132_code 10 = .ok (.aload_n 0, 1) := by decide +kernel
theorem d26_11 : decode jdk_65_method_132_code 11 = .ok (.iload_n 1, 1) := by decide +kernel
theorem d26_12 : decode jdk_65_method_132_code 12 = .ok (.iload_n 2, 1) := by decide +kernel
theorem d26_13 : decode jdk_65_method_132_code 13 = .ok (.invokestatic 339, 3) := by decide +kernel
theorem pd_15 : parseMethodDescriptor "([BII)[B" = some ⟨[(.array .byte), .int, .int], some (.array .byte)⟩ := by decide +kernel
theorem d26_16 : decode jdk_65_method_132_code 16 = .ok (.areturn, 1) := by decide +kernel
def Q_cr_0_0_16 (Z : State) (t : Nat) (kt : ClassId) (h0 : Heap) (n0 : Nat) (vR : Option Value) (hR : Heap) (LR : List Loc) : Prop := ∃ (r : Nat) (kr : ClassId), vR = some (.ref r) ∧ Fr n0 LR ∧ Keep h0 hR [] ∧ h0.size ≤ r ∧ (Arv Z hR r kr .byte (0 : Int32) [] (.int 0))
set_option maxRecDepth 65536 in
set_option maxHeartbeats 40000000 in
theorem cr_0_0_16 (l : Launch) (Z : State) (a0 : Array Value) (hw : ∀ d ∈ tables_1, d.before a0 Z = true) (ws : List Jvm.Cond) (t : Nat) (kt : ClassId) (h0 : Heap) (n0 : Nat) (Z0 : n0 ≤ h0.size) (V_t : Arv Z h0 t kt .byte (16 : Int32) [(.int 0), (.int 0), (.int 0), (.int 0), (.int 0), (.int 0), (.int 0), (.int 0), (.int 0), (.int 0), (.int 0), (.int 0), (.int 0), (.int 0), (.int 0), (.int 0)] (.int 0)) :
    own_M l (⟨"java/util/Arrays", "copyOfRange", "([BII)[B"⟩ : MethodName) jdk_65_method_132_code 3 (some (.array .byte)) ws ({ frames := 2, cells := 1, slots := 0, locals := 34 } : Room) Z #[(.ref t), (.int 0), (.int 0)] h0 (Q_cr_0_0_16 Z t kt h0 n0) := by
  refine own_body (own := "java/util/Arrays") rfl (plainFor_of_name pn_26) (fun m => ef_cr_0_0_16 m t (0 : Int32) (0 : Int32)) ?_
  intro p e s m below meth c s₁ Bd hml hZ hh hx hby hown X0 e0
  have N0 := Fr.nil n0
  have lt1 : h0.size > t := V_t.lt
  refine own_iloadN X0.here hx hby d26_0 rfl ?_
  refine own_ifNo X0.here hx hby d26_1 ((if0 _ _).trans (teq (show (0 : Int32) = (0 : Int32) from (by decide))).2) ?_
  refine own_iloadN X0.here hx hby d26_4 rfl ?_
  refine own_aloadN X0.here hx hby d26_5 rfl rfl ?_
  refine own_alen X0 hx hZ e0 V_t hby d26_6 ?_
  refine own_icmpNo X0.here hx hby d26_7 (feq (show ¬ ((0 : Int32) = (16 : Int32)) from (by decide))).1 ?_
  refine own_aloadN X0.here hx hby d26_10 rfl rfl ?_
  refine own_iloadN X0.here hx hby d26_11 rfl ?_
  refine own_iloadN X0.here hx hby d26_12 rfl ?_
  refine own_callS X0 hx hZ hown (own_w hw 153 rfl) (own_w hw 154 rfl) (own_w hw 151 rfl) (own_w hw 155 rfl) (by decide) (crB_0_0_16 l Z a0 hw [] t kt h0 n0 Z0 V_t) 0 (Nat.le_of_eq rfl) (by decide) (by decide) (by rw [hml]; rfl) (argsL := [(.ref t), (.int 0), (.int 0)]) (st := []) (lenOf pd_15 rfl) rfl rfl (by decide) (by decide) e0 hby d26_13 ?_
  intro T2 v2 L2 X2 hQ2
  obtain ⟨r_2, kr_2, rfl, Nq2, K2, P2_0, P2_1⟩ := hQ2
  have N2 := Fr.app N0 Nq2
  have z3 : h0.size ≤ T2.heap.size := K2.1
  have lt4 : T2.heap.size > r_2 := P2_1.lt
  refine own_sh (T := T2) 16 #[.val (.ref t), .val (.int 0), .val (.int 0)] [(.ref r_2)] ?_
  have K5 : Keep h0 T2.heap [] := ((Keep.refl h0 []).trans K2 all0)
  obtain ⟨fs, hr, hrun, hended, hW, hsame⟩ := X2.leave (v := some (.ref r_2)) (fun h => by rw [Bd.returns] at h; cases h)
  refine own_ret (t := T2.setFrames fs) ?_ ⟨_, hrun, hended, _, _, rfl, ?_, ⟨_, rfl⟩, hW, hsame.mono (by decide) (by decide)⟩
  · exact retOut X2 hx Bd.returns rfl (Or.inr (Or.inr (Or.inr (Or.inr ⟨rfl, rfl, rfl⟩)))) (hb hby d26_16) hr
  · show Q_cr_0_0_16 Z _ _ h0 n0 _ T2.heap _
    exact ⟨r_2, kr_2, rfl, N2, K5, (by omega), P2_1⟩
theorem ef_asbVal (m : MethodId) (x0 : Nat) : entryFrame m #[(.ref x0)] 1 = mkF m 0 #[.val (.ref x0)] [] := by first | (simp [entryFrame, mkF, argsToLocals, Value.category]; done) | rfl
theorem pn_34 : plainName "java/lang/AbstractStringBuilder" = true := by first | (simp [plainName, overriddenIn]; done) | decide +kernel
theorem d34_0 : decode jdk_68_method_64_code 0 = .ok (.aload_n 0, 1) := by decide +kernel
theorem d34_1 : decode jdk_68_method_64_code 1 = .ok (.getfield 15, 3) := by decide +kernel
theorem d34_4 : decode jdk_68_method_64_code 4 = .ok (.areturn, 1) := by decide +kernel
def Q_asbVal (Z : State) (sb : Nat) (b : Nat) (h0 : Heap) (n0 : Nat) (vR : Option Value) (hR : Heap) (LR : List Loc) : Prop := vR = some (.ref b) ∧ Fr n0 LR ∧ hR = h0
set_option maxRecDepth 65536 in
set_option maxHeartbeats 40000000 in
theorem asbVal (l : Launch) (Z : State) (a0 : Array Value) (hw : ∀ d ∈ tables_1, d.before a0 Z = true) (ws : List Jvm.Cond) (sb : Nat) (b : Nat) (h0 : Heap) (n0 : Nat) (Z0 : n0 ≤ h0.size) (F_value_sb : Fld Z h0 sb "java/lang/AbstractStringBuilder" "value" "[B" (.ref b)) :
    own_M l (⟨"java/lang/AbstractStringBuilder", "getValue", "()[B"⟩ : MethodName) jdk_68_method_64_code 1 (some (.array .byte)) ws ({ frames := 0, cells := 0, slots := 0, locals := 0 } : Room) Z #[(.ref sb)] h0 (Q_asbVal Z sb b h0 n0) := by
  refine own_body (own := "java/lang/AbstractStringBuilder") rfl (plainFor_of_name pn_34) (fun m => ef_asbVal m sb) ?_
  intro p e s m below meth c s₁ Bd hml hZ hh hx hby hown X0 e0
  have N0 := Fr.nil n0
  have lt1 : h0.size > sb := F_value_sb.lt
  refine own_aloadN X0.here hx hby d34_0 rfl rfl ?_
  refine own_getF X0 hx hZ hown (host := "") (Or.inl (own_w hw 69 rfl)) Via.refl e0 F_value_sb hby d34_1 ?_
  intro T2 X2 e2
  obtain ⟨fs, hr, hrun, hended, hW, hsame⟩ := X2.leave (v := some (.ref b)) (fun h => by rw [Bd.returns] at h; cases h)
  refine own_ret (t := T2.setFrames fs) ?_ ⟨_, hrun, hended, _, _, rfl, ?_, ⟨_, rfl⟩, hW, hsame.mono (by decide) (by decide)⟩
  · exact retOut X2 hx Bd.returns rfl (Or.inr (Or.inr (Or.inr (Or.inr ⟨rfl, rfl, rfl⟩)))) (hb hby d34_4) hr
  · show Q_asbVal Z _ _ h0 n0 _ T2.heap _
    rw [e2]
    exact ⟨rfl, N0, rfl⟩
theorem ef_asbLen_0 (m : MethodId) (x0 : Nat) : entryFrame m #[(.ref x0)] 1 = mkF m 0 #[.val (.ref x0)] [] := by first | (simp [entryFrame, mkF, argsToLocals, Value.category]; done) | rfl
theorem pn_36 : plainName "java/lang/AbstractStringBuilder" = true := by first | (simp [plainName, overriddenIn]; done) | decide +kernel
theorem d36_0 : decode jdk_68_method_6_code 0 = .ok (.aload_n 0, 1) := by decide +kernel
theorem d36_1 : decode jdk_68_method_6_code 1 = .ok (.getfield 79, 3) := by decide +kernel
theorem d36_4 : decode jdk_68_method_6_code 4 = .ok (.ireturn, 1) := by decide +kernel
def Q_asbLen_0 (Z : State) (sb : Nat) (h0 : Heap) (n0 : Nat) (vR : Option Value) (hR : Heap) (LR : List Loc) : Prop := vR = some (.int 0) ∧ Fr n0 LR ∧ hR = h0
set_option maxRecDepth 65536 in
set_option maxHeartbeats 40000000 in
theorem asbLen_0 (l : Launch) (Z : State) (a0 : Array Value) (hw : ∀ d ∈ tables_1, d.before a0 Z = true) (ws : List Jvm.Cond) (sb : Nat) (h0 : Heap) (n0 : Nat) (Z0 : n0 ≤ h0.size) (F_count_sb : Fld Z h0 sb "java/lang/AbstractStringBuilder" "count" "I" (.int 0)) :
    own_M l (⟨"java/lang/AbstractStringBuilder", "length", "()I"⟩ : MethodName) jdk_68_method_6_code 1 (some .int) ws ({ frames := 0, cells := 0, slots := 0, locals := 0 } : Room) Z #[(.ref sb)] h0 (Q_asbLen_0 Z sb h0 n0) := by
  refine own_body (own := "java/lang/AbstractStringBuilder") rfl (plainFor_of_name pn_36) (fun m => ef_asbLen_0 m sb) ?_
  intro p e s m below meth c s₁ Bd hml hZ hh hx hby hown X0 e0
  have N0 := Fr.nil n0
  have lt1 : h0.size > sb := F_count_sb.lt
  refine own_aloadN X0.here hx hby d36_0 rfl rfl ?_
  refine own_getF X0 hx hZ hown (host := "") (Or.inl (own_w hw 93 rfl)) Via.refl e0 F_count_sb hby d36_1 ?_
  intro T2 X2 e2
  obtain ⟨fs, hr, hrun, hended, hW, hsame⟩ := X2.leave (v := some (.int 0)) (fun h => by rw [Bd.returns] at h; cases h)
  refine own_ret (t := T2.setFrames fs) ?_ ⟨_, hrun, hended, _, _, rfl, ?_, ⟨_, rfl⟩, hW, hsame.mono (by decide) (by decide)⟩
  · exact retOut X2 hx Bd.returns rfl (Or.inl ⟨rfl, Or.inl rfl, _, rfl⟩) (hb hby d36_4) hr
  · show Q_asbLen_0 Z _ h0 n0 _ T2.heap _
    rw [e2]
    exact ⟨rfl, N0, rfl⟩
theorem ef_sbLen_0 (m : MethodId) (x0 : Nat) : entryFrame m #[(.ref x0)] 1 = mkF m 0 #[.val (.ref x0)] [] := by first | (simp [entryFrame, mkF, argsToLocals, Value.category]; done) | rfl
theorem pn_35 : plainName "java/lang/StringBuilder" = true := by first | (simp [plainName, overriddenIn]; done) | decide +kernel
theorem d35_0 : decode jdk_67_method_93_code 0 = .ok (.aload_n 0, 1) := by decide +kernel
theorem d35_1 : decode jdk_67_method_93_code 1 = .ok (.invokespecial 343, 3) := by decide +kernel
theorem d35_4 : decode jdk_67_method_93_code 4 = .ok (.ireturn, 1) := by decide +kernel
def Q_sbLen_0 (Z : State) (sb : Nat) (h0 : Heap) (n0 : Nat) (vR : Option Value) (hR : Heap) (LR : List Loc) : Prop := vR = some (.int 0) ∧ Fr n0 LR ∧ hR = h0
set_option maxRecDepth 65536 in
set_option maxHeartbeats 40000000 in
theorem sbLen_0 (l : Launch) (Z : State) (a0 : Array Value) (hw : ∀ d ∈ tables_1, d.before a0 Z = true) (ws : List Jvm.Cond) (sb : Nat) (h0 : Heap) (n0 : Nat) (Z0 : n0 ≤ h0.size) (E_sb : Exa Z h0 sb "java/lang/StringBuilder") (F_count_sb : Fld Z h0 sb "java/lang/AbstractStringBuilder" "count" "I" (.int 0)) :
    own_M l (⟨"java/lang/StringBuilder", "length", "()I"⟩ : MethodName) jdk_67_method_93_code 1 (some .int) ws ({ frames := 1, cells := 0, slots := 0, locals := 12 } : Room) Z #[(.ref sb)] h0 (Q_sbLen_0 Z sb h0 n0) := by
  refine own_body (own := "java/lang/StringBuilder") rfl (plainFor_of_name pn_35) (fun m => ef_sbLen_0 m sb) ?_
  intro p e s m below meth c s₁ Bd hml hZ hh hx hby hown X0 e0
  have N0 := Fr.nil n0
  have lt1 : h0.size > sb := E_sb.lt
  refine own_aloadN X0.here hx hby d35_0 rfl rfl ?_
  refine own_super X0 hx hZ (by decide) hown (own_w hw 190 rfl) (own_sameM (y := (⟨"java/lang/AbstractStringBuilder", "length", "()I"⟩ : MethodName)) (y' := (⟨"java/lang/AbstractStringBuilder", "ensureCapacityInternal", "(I)V"⟩ : MethodName)) rfl (own_w hw 186 rfl) (own_w hw 98 rfl) (by decide)) (own_w hw 186 rfl) (own_w hw 80 rfl) (own_w hw 65 rfl) (own_w hw 191 rfl) (asbLen_0 l Z a0 hw [] sb h0 n0 Z0 F_count_sb) 0 (Nat.le_of_eq rfl) (by decide) (by decide) (by rw [hml]; rfl) (argsL := []) (st := []) E_sb (lenOf pd_5 rfl) rfl rfl (by decide) (by decide) e0 hby d35_1 ?_
  intro T2 v2 L2 X2 hQ2
  obtain ⟨rfl, Nq2, eh2⟩ := hQ2
  have N2 := Fr.app N0 Nq2
  refine own_sh (T := T2) 4 #[.val (.ref sb)] [(.int 0)] ?_
  obtain ⟨fs, hr, hrun, hended, hW, hsame⟩ := X2.leave (v := some (.int 0)) (fun h => by rw [Bd.returns] at h; cases h)
  refine own_ret (t := T2.setFrames fs) ?_ ⟨_, hrun, hended, _, _, rfl, ?_, ⟨_, rfl⟩, hW, hsame.mono (by decide) (by decide)⟩
  · exact retOut X2 hx Bd.returns rfl (Or.inl ⟨rfl, Or.inl rfl, _, rfl⟩) (hb hby d35_4) hr
  · show Q_sbLen_0 Z _ h0 n0 _ T2.heap _
    rw [eh2]
    exact ⟨rfl, N2, rfl⟩
theorem ef_asbIsL (m : MethodId) (x0 : Nat) : entryFrame m #[(.ref x0)] 1 = mkF m 0 #[.val (.ref x0)] [] := by first | (simp [entryFrame, mkF, argsToLocals, Value.category]; done) | rfl
theorem pn_37 : plainName "java/lang/AbstractStringBuilder" = true := by first | (simp [plainName, overriddenIn]; done) | decide +kernel
theorem d37_0 : decode jdk_68_method_68_code 0 = .ok (.getstatic 18, 3) := by decide +kernel
theorem d37_3 : decode jdk_68_method_68_code 3 = .ok (.ifCond .eq 14, 3) := by decide +kernel
theorem d37_6 : decode jdk_68_method_68_code 6 = .ok (.aload_n 0, 1) := by decide +kernel
theorem d37_7 : decode jdk_68_method_68_code 7 = .ok (.getfield 22, 3) := by decide +kernel
theorem d37_10 : decode jdk_68_method_68_code 10 = .ok (.ifCond .ne 7, 3) := by decide +kernel
theorem d37_13 : decode jdk_68_method_68_code 13 = .ok (.iconst 1, 1) := by decide +kernel
theorem d37_14 : decode jdk_68_method_68_code 14 = .ok (.goto 4, 3) := by decide +kernel
theorem d37_18 : decode jdk_68_method_68_code 18 = .ok (.ireturn, 1) := by decide +kernel
def Q_asbIsL (Z : State) (sb : Nat) (zc : Int32) (h0 : Heap) (n0 : Nat) (vR : Option Value) (hR : Heap) (LR : List Loc) : Prop := vR = some (.int 1) ∧ Fr n0 LR ∧ hR = h0
set_option maxRecDepth 65536 in
set_option maxHeartbeats 40000000 in
theorem asbIsL (l : Launch) (Z : State) (a0 : Array Value) (hw : ∀ d ∈ tables_1, d.before a0 Z = true) (ws : List Jvm.Cond) (sb : Nat) (zc : Int32) (h0 : Heap) (n0 : Nat) (Z0 : n0 ≤ h0.size) (F_coder_sb : Fld Z h0 sb "java/lang/AbstractStringBuilder" "coder" "B" (.int 0)) (S_C : Sta Z h0 "java/lang/String" "COMPACT_STRINGS" "Z" (.int zc)) (hz : ¬ (zc = (0 : Int32))) :
    own_M l (⟨"java/lang/AbstractStringBuilder", "isLatin1", "()Z"⟩ : MethodName) jdk_68_method_68_code 1 (some .boolean) ws ({ frames := 0, cells := 0, slots := 0, locals := 0 } : Room) Z #[(.ref sb)] h0 (Q_asbIsL Z sb zc h0 n0) := by
  refine own_body (own := "java/lang/AbstractStringBuilder") rfl (plainFor_of_name pn_37) (fun m => ef_asbIsL m sb) ?_
  intro p e s m below meth c s₁ Bd hml hZ hh hx hby hown X0 e0
  have N0 := Fr.nil n0
  have lt1 : h0.size > sb := F_coder_sb.lt
  refine own_getS X0 hx hZ hown (host := "") (Or.inl (own_w hw 68 rfl)) Via.refl e0 S_C hby d37_0 ?_
  intro T2 X2 e2
  refine own_ifNo X2.here hx hby d37_3 ((if0 _ _).trans (feq hz).1) ?_
  refine own_aloadN X2.here hx hby d37_6 rfl rfl ?_
  refine own_getF X2 hx hZ hown (host := "") (Or.inl (own_w hw 71 rfl)) Via.refl e2 F_coder_sb hby d37_7 ?_
  intro T3 X3 e3
  refine own_ifNo X3.here hx hby d37_10 ((if0 _ _).trans (teq (show (0 : Int32) = (0 : Int32) from (by decide))).2) ?_
  refine own_iconst X3.here hx hby d37_13 (v := (1 : Int32)) (by decide) ?_
  refine own_goto X3.here hx hby (pc' := 18) d37_14 (by decide) (by decide) ?_
  obtain ⟨fs, hr, hrun, hended, hW, hsame⟩ := X3.leave (v := some (.int 1)) (fun h => by rw [Bd.returns] at h; cases h)
  refine own_ret (t := T3.setFrames fs) ?_ ⟨_, hrun, hended, _, _, rfl, ?_, ⟨_, rfl⟩, hW, hsame.mono (by decide) (by decide)⟩
  · exact retN X3 hx (t := .boolean) Bd.returns (by simp) (hb hby d37_18) hr
  · show Q_asbIsL Z _ _ h0 n0 _ T3.heap _
    rw [e3]
    exact ⟨rfl, N0, rfl⟩
theorem ef_strOfA_0 (m : MethodId) (x0 : Nat) (x1 : Nat) : entryFrame m #[(.ref x0), (.ref x1), .null] 5 = mkF m 0 #[.val (.ref x0), .val (.ref x1), .val .null, .unset, .unset] [] := by first | (simp [entryFrame, mkF, argsToLocals, Value.category]; done) | rfl
theorem pn_33 : plainName "java/lang/String" = true := by first | (simp [plainName, overriddenIn]; done) | decide +kernel
theorem d33_0 : decode jdk_42_method_150_code 0 = .ok (.aload_n 0, 1) := by decide +kernel
theorem d33_1 : decode jdk_42_method_150_code 1 = .ok (.invokespecial 1, 3) := by decide +kernel
theorem d33_4 : decode jdk_42_method_150_code 4 = .ok (.aload_n 1, 1) := by decide +kernel
theorem d33_5 : decode jdk_42_method_150_code 5 = .ok (.invokevirtual 552, 3) := by decide +kernel
theorem pd_16 : parseMethodDescriptor "()[B" = some ⟨[], some (.array .byte)⟩ := by decide +kernel
theorem d33_8 : decode jdk_42_method_150_code 8 = .ok (.astore_n 3, 1) := by decide +kernel
theorem d33_9 : decode jdk_42_method_150_code 9 = .ok (.aload_n 1, 1) := by decide +kernel
theorem d33_10 : decode jdk_42_method_150_code 10 = .ok (.invokevirtual 549, 3) := by decide +kernel
theorem d33_13 : decode jdk_42_method_150_code 13 = .ok (.istore 4, 2) := by decide +kernel
theorem d33_15 : decode jdk_42_method_150_code 15 = .ok (.aload_n 1, 1) := by decide +kernel
theorem d33_16 : decode jdk_42_method_150_code 16 = .ok (.invokevirtual 1047, 3) := by decide +kernel
theorem d33_19 : decode jdk_42_method_150_code 19 = .ok (.ifCond .eq 22, 3) := by decide +kernel
theorem d33_22 : decode jdk_42_method_150_code 22 = .ok (.aload_n 0, 1) := by decide +kernel
theorem d33_23 : decode jdk_42_method_150_code 23 = .ok (.iconst 0, 1) := by decide +kernel
theorem d33_24 : decode jdk_42_method_150_code 24 = .ok (.putfield 15, 3) := by decide +kernel
theorem d33_27 : decode jdk_42_method_150_code 27 = .ok (.aload_n 0, 1) := by decide +kernel
theorem d33_28 : decode jdk_42_method_150_code 28 = .ok (.aload_n 3, 1) := by decide +kernel
theorem d33_29 : decode jdk_42_method_150_code 29 = .ok (.iconst 0, 1) := by decide +kernel
theorem d33_30 : decode jdk_42_method_150_code 30 = .ok (.iload 4, 2) := by decide +kernel
theorem d33_32 : decode jdk_42_method_150_code 32 = .ok (.invokestatic 54, 3) := by decide +kernel
theorem d33_35 : decode jdk_42_method_150_code 35 = .ok (.putfield 9, 3) := by decide +kernel
theorem d33_38 : decode jdk_42_method_150_code 38 = .ok (.goto 59, 3) := by decide +kernel
theorem d33_97 : decode jdk_42_method_150_code 97 = .ok (.return_, 1) := by decide +kernel
def Q_strOfA_0 (Z : State) (x : Nat) (sb : Nat) (b : Nat) (kb : ClassId) (zc : Int32) (h0 : Heap) (n0 : Nat) (vR : Option Value) (hR : Heap) (LR : List Loc) : Prop := ∃ (t : Nat) (kt : ClassId), vR = none ∧ Fr n0 LR ∧ Keep h0 hR [x] ∧ h0.size ≤ t ∧ (Exa Z hR x "java/lang/String") ∧ (Fld Z hR x "java/lang/String" "coder" "B" (.int 0)) ∧ (Fld Z hR x "java/lang/String" "value" "[B" (.ref t)) ∧ (Arv Z hR t kt .byte (0 : Int32) [] (.int 0))
set_option maxRecDepth 65536 in
set_option maxHeartbeats 40000000 in
theorem strOfA_0 (l : Launch) (Z : State) (a0 : Array Value) (hw : ∀ d ∈ tables_1, d.before a0 Z = true) (ws : List Jvm.Cond) (x : Nat) (sb : Nat) (b : Nat) (kb : ClassId) (zc : Int32) (h0 : Heap) (n0 : Nat) (Z0 : n0 ≤ h0.size) (E_x : Exa Z h0 x "java/lang/String") (g_x : n0 ≤ x) (Fv_x : Fld Z h0 x "java/lang/String" "value" "[B" .null) (Fc_x : Fld Z h0 x "java/lang/String" "coder" "B" (.int 0)) (E_sb : Exa Z h0 sb "java/lang/StringBuilder") (F_value_sb : Fld Z h0 sb "java/lang/AbstractStringBuilder" "value" "[B" (.ref b)) (F_coder_sb : Fld Z h0 sb "java/lang/AbstractStringBuilder" "coder" "B" (.int 0)) (F_count_sb : Fld Z h0 sb "java/lang/AbstractStringBuilder" "count" "I" (.int 0)) (V_b : Arv Z h0 b kb .byte (16 : Int32) [(.int 0), (.int 0), (.int 0), (.int 0), (.int 0), (.int 0), (.int 0), (.int 0), (.int 0), (.int 0), (.int 0), (.int 0), (.int 0), (.int 0), (.int 0), (.int 0)] (.int 0)) (S_C : Sta Z h0 "java/lang/String" "COMPACT_STRINGS" "Z" (.int zc)) (hz : ¬ (zc = (0 : Int32))) :
    own_M l (⟨"java/lang/String", "<init>", "(Ljava/lang/AbstractStringBuilder;Ljava/lang/Void;)V"⟩ : MethodName) jdk_42_method_150_code 5 none ws ({ frames := 3, cells := 1, slots := 0, locals := 49 } : Room) Z #[(.ref x), (.ref sb), .null] h0 (Q_strOfA_0 Z x sb b kb zc h0 n0) := by
  refine own_body (own := "java/lang/String") rfl (plainFor_of_name pn_33) (fun m => ef_strOfA_0 m x sb) ?_
  intro p e s m below meth c s₁ Bd hml hZ hh hx hby hown X0 e0
  have N0 := Fr.nil n0
  have lt1 : h0.size > x := E_x.lt
  have lt2 : h0.size > sb := E_sb.lt
  have lt3 : h0.size > b := V_b.lt
  refine own_aloadN X0.here hx hby d33_0 rfl rfl ?_
  refine own_initO X0 hx hZ hown (own_w hw 17 rfl) (own_w hw 18 rfl) (own_w hw 19 rfl) e0 (by rw [hml]; rfl) hby d33_1 (by decide) 0 (Nat.le_of_eq rfl) (by decide) ?_
  intro T4 X4 e4
  refine own_aloadN X4.here hx hby d33_4 rfl rfl ?_
  refine own_virtual X4 hx hZ hown (own_w hw 179 rfl) (own_w hw 180 rfl) (notFace_of_selects (args := #[]) (mvT hZ (own_w hw 182 rfl))) (own_w hw 182 rfl) (own_w hw 181 rfl) (own_w hw 65 rfl) (own_w hw 183 rfl) (by decide) (asbVal l Z a0 hw [] sb b h0 n0 Z0 F_value_sb) 0 (Nat.le_of_eq rfl) (by decide) (by decide) (by rw [hml]; rfl) (argsL := []) (st := []) E_sb (lenOf pd_16 rfl) rfl rfl (by decide) (by decide) e4 hby d33_5 ?_
  intro T5 v5 L5 X5 hQ5
  obtain ⟨rfl, Nq5, eh5⟩ := hQ5
  have N5 := Fr.app N0 Nq5
  refine own_sh (T := T5) 8 #[.val (.ref x), .val (.ref sb), .val .null, .unset, .unset] [(.ref b)] ?_
  refine own_astoreN X5.here hx hby d33_8 rfl (l' := #[.val (.ref x), .val (.ref sb), .val .null, .val (.ref b), .unset]) rfl ?_
  refine own_aloadN X5.here hx hby d33_9 rfl rfl ?_
  refine own_virtual X5 hx hZ hown (own_w hw 184 rfl) (own_w hw 185 rfl) (own_notFace (args := #[]) (y := (⟨"java/lang/AbstractStringBuilder", "length", "()I"⟩ : MethodName)) (y' := (⟨"java/lang/AbstractStringBuilder", "ensureCapacityInternal", "(I)V"⟩ : MethodName)) rfl (mvT hZ (own_w hw 98 rfl))) (own_w hw 187 rfl) (own_w hw 188 rfl) (own_w hw 57 rfl) (own_w hw 189 rfl) (by decide) (sbLen_0 l Z a0 hw [] sb h0 n0 Z0 E_sb F_count_sb) 0 (Nat.le_of_eq rfl) (by decide) (by decide) (by rw [hml]; rfl) (argsL := []) (st := []) E_sb (lenOf pd_5 rfl) rfl rfl (by decide) (by decide) eh5 hby d33_10 ?_
  intro T6 v6 L6 X6 hQ6
  obtain ⟨rfl, Nq6, eh6⟩ := hQ6
  have N6 := Fr.app N5 Nq6
  refine own_sh (T := T6) 13 #[.val (.ref x), .val (.ref sb), .val .null, .val (.ref b), .unset] [(.int 0)] ?_
  refine own_istore X6.here hx hby d33_13 (l' := #[.val (.ref x), .val (.ref sb), .val .null, .val (.ref b), .val (.int 0)]) rfl ?_
  refine own_aloadN X6.here hx hby d33_15 rfl rfl ?_
  refine own_virtual X6 hx hZ hown (own_w hw 192 rfl) (own_w hw 193 rfl) (notFace_of_selects (args := #[]) (mvT hZ (own_w hw 195 rfl))) (own_w hw 195 rfl) (own_w hw 194 rfl) (own_w hw 65 rfl) (own_w hw 196 rfl) (by decide) (asbIsL l Z a0 hw [] sb zc h0 n0 Z0 F_coder_sb S_C hz) 0 (Nat.le_of_eq rfl) (by decide) (by decide) (by rw [hml]; rfl) (argsL := []) (st := []) E_sb (lenOf pd_10 rfl) rfl rfl (by decide) (by decide) eh6 hby d33_16 ?_
  intro T7 v7 L7 X7 hQ7
  obtain ⟨rfl, Nq7, eh7⟩ := hQ7
  have N7 := Fr.app N6 Nq7
  refine own_sh (T := T7) 19 #[.val (.ref x), .val (.ref sb), .val .null, .val (.ref b), .val (.int 0)] [(.int 1)] ?_
  refine own_ifNo X7.here hx hby d33_19 ((if0 _ _).trans (feq (show ¬ ((1 : Int32) = (0 : Int32)) from (by decide))).1) ?_
  refine own_aloadN X7.here hx hby d33_22 rfl rfl ?_
  refine own_iconst X7.here hx hby d33_23 (v := (0 : Int32)) (by decide) ?_
  refine own_putFN X7 hx hZ (ty := .byte) (v' := (.int 0)) hown (own_w hw 31 rfl) Via.refl eh7 Fc_x E_x (Or.inr ⟨(own_w hw 6 rfl), rfl, (name_of_methodNamed Bd.named Bd.method).1⟩) (own_w hw 3 rfl) (by decide) rfl rfl hby d33_24 N7 g_x ?_
  intro T8 h8 lo8 X8 e8 N8 W8 F8 z8
  refine own_aloadN X8.here hx hby d33_27 rfl rfl ?_
  refine own_aloadN X8.here hx hby d33_28 rfl rfl ?_
  refine own_iconst X8.here hx hby d33_29 (v := (0 : Int32)) (by decide) ?_
  refine own_iload X8.here hx hby d33_30 rfl ?_
  have f9 := (V_b.other W8 (Ne.symm (own_ne_oa E_x (own_w hw 3 rfl) V_b)))
  have z11 : n0 ≤ h8.size := by omega
  refine own_callS X8 hx hZ hown (own_w hw 197 rfl) (own_w hw 150 rfl) (own_w hw 151 rfl) (own_w hw 152 rfl) (by decide) (cr_0_0_16 l Z a0 hw [] b kb h8 n0 z11 f9) 1 (Nat.le_of_eq rfl) (by decide) (by decide) (by rw [hml]; rfl) (argsL := [(.ref b), (.int 0), (.int 0)]) (st := [(.ref x)]) (lenOf pd_15 rfl) rfl rfl (by decide) (by decide) e8 hby d33_32 ?_
  intro T10 v10 L10 X10 hQ10
  obtain ⟨r_10, kr_10, rfl, Nq10, K10, P10_0, P10_1⟩ := hQ10
  have N10 := Fr.app N8 Nq10
  have z12 : h8.size ≤ T10.heap.size := K10.1
  have lt13 : T10.heap.size > r_10 := P10_1.lt
  refine own_sh (T := T10) 35 #[.val (.ref x), .val (.ref sb), .val .null, .val (.ref b), .val (.int 0)] [(.ref r_10), (.ref x)] ?_
  have f14 := ((E_x.wr W8).keep K10)
  have f15 := ((Fv_x.other W8 (Or.inr (slot_ne (Or.inr (own_w hw 5 rfl)) (Or.inr (own_w hw 6 rfl)) (by decide) (t := (.array .byte)) (t' := .byte) (by decide) (by decide)))).keep K10 nin0)
  refine own_putF X10 hx hZ (ty := (.array .byte)) hown (host := "") (Or.inl (own_w hw 32 rfl)) Via.refl rfl f15 f14 (Or.inr ⟨(own_w hw 5 rfl), rfl, (name_of_methodNamed Bd.named Bd.method).1⟩) (own_w hw 3 rfl) (by decide) rfl rfl hby d33_35 N10 g_x ?_
  intro T16 h16 lo16 X16 e16 N16 W16 F16 z16
  refine own_goto X16.here hx hby (pc' := 97) d33_38 (by decide) (by decide) ?_
  have K17 : Keep h0 h16 [x] := ((((Keep.refl h0 [x]).wr W8 (Or.inl (List.mem_of_getElem? (i := 0) rfl))).trans K10 all0).wr W16 (Or.inl (List.mem_of_getElem? (i := 0) rfl)))
  have f18 := (f14.wr W16)
  have f19 := ((F8.keep K10 nin0).other W16 (Or.inr (slot_ne (Or.inr (own_w hw 6 rfl)) (Or.inr (own_w hw 5 rfl)) (by decide) (t := .byte) (t' := (.array .byte)) (by decide) (by decide))))
  have f20 := (P10_1.other W16 (own_nn (by omega)))
  obtain ⟨fs, hr, hrun, hended, hW, hsame⟩ := X16.leave (v := none) (fun _ => rfl)
  refine own_ret (t := T16.setFrames fs) ?_ ⟨_, hrun, hended, _, _, rfl, ?_, ⟨_, rfl⟩, hW, hsame.mono (by decide) (by decide)⟩
  · exact X16.returnOut hx Bd.returns (hb hby d33_97) hr
  · show Q_strOfA_0 Z _ _ _ _ _ h0 n0 _ T16.heap _
    rw [e16]
    exact ⟨r_10, kr_10, rfl, N16, K17, (by omega), f18, f19, F16, f20⟩
theorem ef_strOfB_0 (m : MethodId) (x0 : Nat) (x1 : Nat) : entryFrame m #[(.ref x0), (.ref x1)] 2 = mkF m 0 #[.val (.ref x0), .val (.ref x1)] [] := by first | (simp [entryFrame, mkF, argsToLocals, Value.category]; done) | rfl
theorem pn_32 : plainName "java/lang/String" = true := by first | (simp [plainName, overriddenIn]; done) | decide +kernel
theorem d32_0 : decode jdk_42_method_53_code 0 = .ok (.aload_n 0, 1) := by decide +kernel
theorem d32_1 : decode jdk_42_method_53_code 1 = .ok (.aload_n 1, 1) := by decide +kernel
theorem d32_2 : decode jdk_42_method_53_code 2 = .ok (.aconst_null, 1) := by decide +kernel
theorem d32_3 : decode jdk_42_method_53_code 3 = .ok (.invokespecial 489, 3) := by decide +kernel
theorem pd_17 : parseMethodDescriptor "(Ljava/lang/AbstractStringBuilder;Ljava/lang/Void;)V" = some ⟨[(.object "java/lang/AbstractStringBuilder"), (.object "java/lang/Void")], none⟩ := by decide +kernel
theorem d32_6 : decode jdk_42_method_53_code 6 = .ok (.return_, 1) := by decide +kernel
def Q_strOfB_0 (Z : State) (x : Nat) (sb : Nat) (b : Nat) (kb : ClassId) (zc : Int32) (h0 : Heap) (n0 : Nat) (vR : Option Value) (hR : Heap) (LR : List Loc) : Prop := ∃ (t : Nat) (kt : ClassId), vR = none ∧ Fr n0 LR ∧ Keep h0 hR [x] ∧ h0.size ≤ t ∧ (Exa Z hR x "java/lang/String") ∧ (Fld Z hR x "java/lang/String" "coder" "B" (.int 0)) ∧ (Fld Z hR x "java/lang/String" "value" "[B" (.ref t)) ∧ (Arv Z hR t kt .byte (0 : Int32) [] (.int 0))
set_option maxRecDepth 65536 in
set_option maxHeartbeats 40000000 in
theorem strOfB_0 (l : Launch) (Z : State) (a0 : Array Value) (hw : ∀ d ∈ tables_1, d.before a0 Z = true) (ws : List Jvm.Cond) (x : Nat) (sb : Nat) (b : Nat) (kb : ClassId) (zc : Int32) (h0 : Heap) (n0 : Nat) (Z0 : n0 ≤ h0.size) (E_x : Exa Z h0 x "java/lang/String") (g_x : n0 ≤ x) (Fv_x : Fld Z h0 x "java/lang/String" "value" "[B" .null) (Fc_x : Fld Z h0 x "java/lang/String" "coder" "B" (.int 0)) (E_sb : Exa Z h0 sb "java/lang/StringBuilder") (F_value_sb : Fld Z h0 sb "java/lang/AbstractStringBuilder" "value" "[B" (.ref b)) (F_coder_sb : Fld Z h0 sb "java/lang/AbstractStringBuilder" "coder" "B" (.int 0)) (F_count_sb : Fld Z h0 sb "java/lang/AbstractStringBuilder" "count" "I" (.int 0)) (V_b : Arv Z h0 b kb .byte (16 : Int32) [(.int 0), (.int 0), (.int 0), (.int 0), (.int 0), (.int 0), (.int 0), (.int 0), (.int 0), (.int 0), (.int 0), (.int 0), (.int 0), (.int 0), (.int 0), (.int 0)] (.int 0)) (S_C : Sta Z h0 "java/lang/String" "COMPACT_STRINGS" "Z" (.int zc)) (hz : ¬ (zc = (0 : Int32))) :
    own_M l (⟨"java/lang/String", "<init>", "(Ljava/lang/StringBuilder;)V"⟩ : MethodName) jdk_42_method_53_code 2 none ws ({ frames := 4, cells := 1, slots := 0, locals := 65 } : Room) Z #[(.ref x), (.ref sb)] h0 (Q_strOfB_0 Z x sb b kb zc h0 n0) := by
  refine own_body (own := "java/lang/String") rfl (plainFor_of_name pn_32) (fun m => ef_strOfB_0 m x sb) ?_
  intro p e s m below meth c s₁ Bd hml hZ hh hx hby hown X0 e0
  have N0 := Fr.nil n0
  have lt1 : h0.size > x := E_x.lt
  have lt2 : h0.size > sb := E_sb.lt
  have lt3 : h0.size > b := V_b.lt
  refine own_aloadN X0.here hx hby d32_0 rfl rfl ?_
  refine own_aloadN X0.here hx hby d32_1 rfl rfl ?_
  refine own_aconstNull X0.here hx hby d32_2 ?_
  refine own_special X0 hx hZ rfl hown (own_w hw 176 rfl) (own_w hw 177 rfl) (own_w hw 2 rfl) (own_w hw 178 rfl) (by decide) (strOfA_0 l Z a0 hw [] x sb b kb zc h0 n0 Z0 E_x g_x Fv_x Fc_x E_sb F_value_sb F_coder_sb F_count_sb V_b S_C hz) 0 (Nat.le_of_eq rfl) (by decide) (by decide) (by rw [hml]; rfl) (argsL := [(.ref sb), .null]) (st := []) (a := x) (lenOf pd_17 rfl) rfl rfl (by decide) (by decide) e0 hby d32_3 ?_
  intro T4 v4 L4 X4 hQ4
  obtain ⟨t_4, kt_4, rfl, Nq4, K4, P4_0, P4_1, P4_2, P4_3, P4_4⟩ := hQ4
  have N4 := Fr.app N0 Nq4
  have z5 : h0.size ≤ T4.heap.size := K4.1
  have lt6 : T4.heap.size > x := P4_1.lt
  have lt7 : T4.heap.size > t_4 := P4_4.lt
  refine own_sh (T := T4) 6 #[.val (.ref x), .val (.ref sb)] [] ?_
  have K8 : Keep h0 T4.heap [x] := ((Keep.refl h0 [x]).trans K4 (allS (P := fun xq_ => xq_ ∈ [x] ∨ h0.size ≤ xq_) (Or.inl (List.mem_of_getElem? (i := 0) rfl)) all0))
  obtain ⟨fs, hr, hrun, hended, hW, hsame⟩ := X4.leave (v := none) (fun _ => rfl)
  refine own_ret (t := T4.setFrames fs) ?_ ⟨_, hrun, hended, _, _, rfl, ?_, ⟨_, rfl⟩, hW, hsame.mono (by decide) (by decide)⟩
  · exact X4.returnOut hx Bd.returns (hb hby d32_6) hr
  · show Q_strOfB_0 Z _ _ _ _ _ h0 n0 _ T4.heap _
    exact ⟨t_4, kt_4, rfl, N4, K8, (by omega), P4_1, P4_2, P4_3, P4_4⟩
theorem ef_sbStr_0 (m : MethodId) (x0 : Nat) : entryFrame m #[(.ref x0)] 1 = mkF m 0 #[.val (.ref x0)] [] := by first | (simp [entryFrame, mkF, argsToLocals, Value.category]; done) | rfl
theorem pn_31 : plainName "java/lang/StringBuilder" = true := by first | (simp [plainName, overriddenIn]; done) | decide +kernel
theorem d31_0 : decode jdk_67_method_42_code 0 = .ok (.new 18, 3) := by decide +kernel
theorem d31_3 : decode jdk_67_method_42_code 3 = .ok (.dup, 1) := by decide +kernel
theorem d31_4 : decode jdk_67_method_42_code 4 = .ok (.aload_n 0, 1) := by decide +kernel
theorem d31_5 : decode jdk_67_method_42_code 5 = .ok (.invokespecial 137, 3) := by decide +kernel
theorem pd_18 : parseMethodDescriptor "(Ljava/lang/StringBuilder;)V" = some ⟨[(.object "java/lang/StringBuilder")], none⟩ := by decide +kernel
theorem d31_8 : decode jdk_67_method_42_code 8 = .ok (.areturn, 1) := by decide +kernel
def Q_sbStr_0 (Z : State) (sb : Nat) (b : Nat) (kb : ClassId) (zc : Int32) (h0 : Heap) (n0 : Nat) (vR : Option Value) (hR : Heap) (LR : List Loc) : Prop := ∃ (x : Nat) (t : Nat) (kt : ClassId), vR = some (.ref x) ∧ Fr n0 LR ∧ Keep h0 hR [] ∧ h0.size ≤ x ∧ (Exa Z hR x "java/lang/String") ∧ (Fld Z hR x "java/lang/String" "coder" "B" (.int 0)) ∧ (Fld Z hR x "java/lang/String" "value" "[B" (.ref t)) ∧ (Arv Z hR t kt .byte (0 : Int32) [] (.int 0))
set_option maxRecDepth 65536 in
set_option maxHeartbeats 40000000 in
theorem sbStr_0 (l : Launch) (Z : State) (a0 : Array Value) (hw : ∀ d ∈ tables_1, d.before a0 Z = true) (ws : List Jvm.Cond) (sb : Nat) (b : Nat) (kb : ClassId) (zc : Int32) (h0 : Heap) (n0 : Nat) (Z0 : n0 ≤ h0.size) (E_sb : Exa Z h0 sb "java/lang/StringBuilder") (F_value_sb : Fld Z h0 sb "java/lang/AbstractStringBuilder" "value" "[B" (.ref b)) (F_coder_sb : Fld Z h0 sb "java/lang/AbstractStringBuilder" "coder" "B" (.int 0)) (F_count_sb : Fld Z h0 sb "java/lang/AbstractStringBuilder" "count" "I" (.int 0)) (V_b : Arv Z h0 b kb .byte (16 : Int32) [(.int 0), (.int 0), (.int 0), (.int 0), (.int 0), (.int 0), (.int 0), (.int 0), (.int 0), (.int 0), (.int 0), (.int 0), (.int 0), (.int 0), (.int 0), (.int 0)] (.int 0)) (S_C : Sta Z h0 "java/lang/String" "COMPACT_STRINGS" "Z" (.int zc)) (hz : ¬ (zc = (0 : Int32))) :
    own_M l (⟨"java/lang/StringBuilder", "toString", "()Ljava/lang/String;"⟩ : MethodName) jdk_67_method_42_code 1 (some (.object "java/lang/String")) ws ({ frames := 5, cells := 2, slots := 4, locals := 79 } : Room) Z #[(.ref sb)] h0 (Q_sbStr_0 Z sb b kb zc h0 n0) := by
  refine own_body (own := "java/lang/StringBuilder") rfl (plainFor_of_name pn_31) (fun m => ef_sbStr_0 m sb) ?_
  intro p e s m below meth c s₁ Bd hml hZ hh hx hby hown X0 e0
  have N0 := Fr.nil n0
  have lt1 : h0.size > sb := E_sb.lt
  have lt2 : h0.size > b := V_b.lt
  refine own_newO X0 hx hZ hown (own_w hw 172 rfl) (own_w hw 3 rfl) (own_w hw 2 rfl) e0 hby d31_0 (by decide) (by decide) ?_
  intro T3 h3 b3 X3 e3 E3 g3 A3 D3 lt3
  have z4 : h0.size ≤ h3.size := E3.1
  have F5 : Fld Z h3 b3 "java/lang/String" "value" "[B" .null := D3 (Or.inr (own_w hw 5 rfl)) (ty := (.array .byte)) (by decide)
  have F6 : Fld Z h3 b3 "java/lang/String" "coder" "B" (.int 0) := D3 (Or.inr (own_w hw 6 rfl)) (ty := .byte) (by decide)
  refine own_dup X3.here hx hby d31_3 rfl ?_
  refine own_aloadN X3.here hx hby d31_4 rfl rfl ?_
  have f7 := (E_sb.ext E3)
  have f8 := (F_value_sb.ext E3)
  have f9 := (F_coder_sb.ext E3)
  have f10 := (F_count_sb.ext E3)
  have f11 := (V_b.ext E3)
  have f12 := (S_C.ext E3)
  have z14 : n0 ≤ h3.size := by omega
  refine own_special X3 hx hZ rfl hown (own_w hw 173 rfl) (own_w hw 174 rfl) (own_w hw 2 rfl) (own_w hw 175 rfl) (by decide) (strOfB_0 l Z a0 hw [] b3 sb b kb zc h3 n0 z14 A3 (by omega) F5 F6 f7 f8 f9 f10 f11 f12 hz) 1 (Nat.le_of_eq rfl) (by decide) (by decide) (by rw [hml]; rfl) (argsL := [(.ref sb)]) (st := [(.ref b3)]) (a := b3) (lenOf pd_18 rfl) rfl rfl (by decide) (by decide) e3 hby d31_5 ?_
  intro T13 v13 L13 X13 hQ13
  obtain ⟨t_13, kt_13, rfl, Nq13, K13, P13_0, P13_1, P13_2, P13_3, P13_4⟩ := hQ13
  have N13 := Fr.app N0 Nq13
  have z15 : h3.size ≤ T13.heap.size := K13.1
  have lt16 : T13.heap.size > b3 := P13_1.lt
  have lt17 : T13.heap.size > t_13 := P13_4.lt
  refine own_sh (T := T13) 8 #[.val (.ref sb)] [(.ref b3)] ?_
  have K18 : Keep h0 T13.heap [] := (((Keep.refl h0 []).ext E3).trans K13 (allS (P := fun xq_ => xq_ ∈ [] ∨ h0.size ≤ xq_) (Or.inr (by omega)) all0))
  obtain ⟨fs, hr, hrun, hended, hW, hsame⟩ := X13.leave (v := some (.ref b3)) (fun h => by rw [Bd.returns] at h; cases h)
  refine own_ret (t := T13.setFrames fs) ?_ ⟨_, hrun, hended, _, _, rfl, ?_, ⟨_, rfl⟩, hW, hsame.mono (by decide) (by decide)⟩
  · exact retOut X13 hx Bd.returns rfl (Or.inr (Or.inr (Or.inr (Or.inr ⟨rfl, rfl, rfl⟩)))) (hb hby d31_8) hr
  · show Q_sbStr_0 Z _ _ _ _ h0 n0 _ T13.heap _
    exact ⟨b3, t_13, kt_13, rfl, N13, K18, (by omega), P13_1, P13_2, P13_3, P13_4⟩
theorem ef_uriOf_0_1 (m : MethodId) (x0 : Nat) (x1 : Nat) : entryFrame m #[(.ref x0), (.ref x1)] 2 = mkF m 0 #[.val (.ref x0), .val (.ref x1)] [] := by first | (simp [entryFrame, mkF, argsToLocals, Value.category]; done) | rfl
theorem pn_9 : plainName "com/example/undercroft/undercroft/store/UriSpace" = true := by first | (simp [plainName, overriddenIn]; done) | decide +kernel
theorem d9_0 : decode prog_21_method_8_code 0 = .ok (.new 16, 3) := by decide +kernel
theorem d9_3 : decode prog_21_method_8_code 3 = .ok (.dup, 1) := by decide +kernel
theorem d9_4 : decode prog_21_method_8_code 4 = .ok (.invokespecial 18, 3) := by decide +kernel
theorem d9_7 : decode prog_21_method_8_code 7 = .ok (.aload_n 0, 1) := by decide +kernel
theorem d9_8 : decode prog_21_method_8_code 8 = .ok (.getfield 7, 3) := by decide +kernel
theorem d9_11 : decode prog_21_method_8_code 11 = .ok (.invokevirtual 23, 3) := by decide +kernel
theorem pd_19 : parseMethodDescriptor "(Ljava/lang/String;)Ljava/lang/StringBuilder;" = some ⟨[(.object "java/lang/String")], some (.object "java/lang/StringBuilder")⟩ := by decide +kernel
theorem d9_14 : decode prog_21_method_8_code 14 = .ok (.aload_n 1, 1) := by decide +kernel
theorem d9_15 : decode prog_21_method_8_code 15 = .ok (.iconst 1, 1) := by decide +kernel
theorem d9_16 : decode prog_21_method_8_code 16 = .ok (.invokevirtual 99, 3) := by decide +kernel
theorem pd_20 : parseMethodDescriptor "(I)Ljava/lang/String;" = some ⟨[.int], some (.object "java/lang/String")⟩ := by decide +kernel
theorem d9_19 : decode prog_21_method_8_code 19 = .ok (.invokevirtual 23, 3) := by decide +kernel
theorem d9_22 : decode prog_21_method_8_code 22 = .ok (.invokevirtual 36, 3) := by decide +kernel
theorem pd_21 : parseMethodDescriptor "()Ljava/lang/String;" = some ⟨[], some (.object "java/lang/String")⟩ := by decide +kernel
theorem d9_25 : decode prog_21_method_8_code 25 = .ok (.areturn, 1) := by decide +kernel
def Q_uriOf_0_1 (Z : State) (u : Nat) (x : Nat) (t : Nat) (y : Nat) (ty : Nat) (kt : ClassId) (ky : ClassId) (fm : Value) (zc : Int32) (u0 : Int32) (h0 : Heap) (n0 : Nat) (vR : Option Value) (hR : Heap) (LR : List Loc) : Prop := ∃ (r : Nat) (tr : Nat) (kr : ClassId), vR = some (.ref r) ∧ Fr n0 LR ∧ Keep h0 hR [] ∧ h0.size ≤ r ∧ (Exa Z hR r "java/lang/String") ∧ (Fld Z hR r "java/lang/String" "coder" "B" (.int 0)) ∧ (Fld Z hR r "java/lang/String" "value" "[B" (.ref tr)) ∧ (Arv Z hR tr kr .byte (0 : Int32) [] (.int 0))
set_option maxRecDepth 65536 in
set_option maxHeartbeats 40000000 in
theorem uriOf_0_1 (l : Launch) (Z : State) (a0 : Array Value) (hw : ∀ d ∈ tables_1, d.before a0 Z = true) (ws : List Jvm.Cond) (u : Nat) (x : Nat) (t : Nat) (y : Nat) (ty : Nat) (kt : ClassId) (ky : ClassId) (fm : Value) (zc : Int32) (u0 : Int32) (h0 : Heap) (n0 : Nat) (Z0 : n0 ≤ h0.size) (E_u : Exa Z h0 u "com/example/undercroft/undercroft/store/UriSpace") (F_prefix_u : Fld Z h0 u "com/example/undercroft/undercroft/store/UriSpace" "prefix" "Ljava/lang/String;" (.ref x)) (E_x : Exa Z h0 x "java/lang/String") (Fc_x : Fld Z h0 x "java/lang/String" "coder" "B" (.int 0)) (Fv_x : Fld Z h0 x "java/lang/String" "value" "[B" (.ref t)) (V_t : Arv Z h0 t kt .byte (0 : Int32) [] (.int 0)) (E_y : Exa Z h0 y "java/lang/String") (Fc_y : Fld Z h0 y "java/lang/String" "coder" "B" (.int 0)) (Fv_y : Fld Z h0 y "java/lang/String" "value" "[B" (.ref ty)) (V_ty : Arv Z h0 ty ky .byte (1 : Int32) [(.int u0)] (.int 0)) (S_C : Sta Z h0 "java/lang/String" "COMPACT_STRINGS" "Z" (.int zc)) (hz : ¬ (zc = (0 : Int32))) (S_FM : Sta Z h0 "jdk/internal/util/Preconditions" "SIOOBE_FORMATTER" "Ljava/util/function/BiFunction;" fm) (hfm : fm.isRef = true) :
    own_MH l (⟨"com/example/undercroft/undercroft/store/UriSpace", "uriOfPath", "(Ljava/lang/String;)Ljava/lang/String;"⟩ : MethodName) prog_21_method_8_code 2 (some (.object "java/lang/String")) ws ({ frames := 6, cells := 6, slots := 28, locals := 91 } : Room) Z #[(.ref u), (.ref y)] h0 (Q_uriOf_0_1 Z u x t y ty kt ky fm zc u0 h0 n0) consts_1 := by
  refine own_bodyH (own := "com/example/undercroft/undercroft/store/UriSpace") rfl (plainFor_of_name pn_9) (fun m => ef_uriOf_0_1 m u y) ?_
  intro p e s m below meth c s₁ Bd hml hZ hh hx hby hown X0 e0 hS0 CH0
  have N0 := Fr.nil n0
  have hk0 : h0.size ≤ h0.size := Nat.le_refl _
  have Y0 : Stand p l e ({ frames := 6, cells := 6, slots := 28, locals := 91 } : Room) (s.setVm s.vm) m #[(.ref u), (.ref y)] below meth c s₁ [] 0 0 := X0
  have hEL := own_EW hw
  have C0 := CHr.refl CH0
  have lt1 : h0.size > u := E_u.lt
  have lt2 : h0.size > x := E_x.lt
  have lt3 : h0.size > t := V_t.lt
  have lt4 : h0.size > y := E_y.lt
  have lt5 : h0.size > ty := V_ty.lt
  refine own_newO Y0 hx hZ hown (own_w hw 55 rfl) (own_w hw 56 rfl) (own_w hw 57 rfl) e0 hby d9_0 (by decide) (by decide) ?_
  intro T6 h6 b6 X6 e6 E6 g6 A6 D6 lt6
  have z7 : h0.size ≤ h6.size := E6.1
  have C8 := C0.trans (CHr.ext E6 C0.1)
  have F9 : Fld Z h6 b6 "java/lang/AbstractStringBuilder" "value" "[B" .null := D6 (Or.inl (own_w hw 70 rfl)) (ty := (.array .byte)) (by decide)
  have F10 : Fld Z h6 b6 "java/lang/AbstractStringBuilder" "coder" "B" (.int 0) := D6 (Or.inl (own_w hw 72 rfl)) (ty := .byte) (by decide)
  have F11 : Fld Z h6 b6 "java/lang/AbstractStringBuilder" "count" "I" (.int 0) := D6 (Or.inl (own_w hw 94 rfl)) (ty := .int) (by decide)
  refine own_dup X6.here hx hby d9_3 rfl ?_
  have f12 := (S_C.ext E6)
  have z14 : n0 ≤ h6.size := by omega
  refine own_special X6 hx hZ rfl hown (own_w hw 58 rfl) (own_w hw 59 rfl) (own_w hw 57 rfl) (own_w hw 60 rfl) (by decide) (sbInit l Z a0 hw [] b6 zc h6 n0 z14 A6 (by omega) F9 F10 F11 f12 hz) 1 (Nat.le_of_eq rfl) (by decide) (by decide) (by rw [hml]; rfl) (argsL := []) (st := [(.ref b6)]) (a := b6) (lenOf pd_0 rfl) rfl rfl (by decide) (by decide) e6 hby d9_4 ?_
  intro T13 v13 L13 X13 hQ13
  obtain ⟨b_13, kb_13, rfl, Nq13, K13, P13_0, P13_1, P13_2, P13_3, P13_4, P13_5⟩ := hQ13
  have N13 := Fr.app N0 Nq13
  have z15 : h6.size ≤ T13.heap.size := K13.1
  have C16 := C8.trans (CHr.keep K13 (sfS (Safe.exa hZ.alike A6 (by decide) (by decide)) sf0) C8.1)
  have lt17 : T13.heap.size > b6 := P13_0.lt
  have lt18 : T13.heap.size > b_13 := P13_5.lt
  refine own_sh (T := T13) 7 #[.val (.ref u), .val (.ref y)] [(.ref b6)] ?_
  refine own_aloadN X13.here hx hby d9_7 rfl rfl ?_
  have f19 := ((F_prefix_u.ext E6).keep K13 (ninS (own_nn (by omega)) nin0))
  refine own_getF X13 hx hZ hown (host := "") (Or.inl (own_w hw 46 rfl)) Via.refl rfl f19 hby d9_8 ?_
  intro T20 X20 e20
  have f21 := ((E_x.ext E6).keep K13)
  have f22 := ((Fc_x.ext E6).keep K13 (ninS (own_nn (by omega)) nin0))
  have f23 := ((Fv_x.ext E6).keep K13 (ninS (own_nn (by omega)) nin0))
  have f24 := ((V_t.ext E6).keep K13 (ninS (own_nn (by omega)) nin0))
  have f25 := (own_sta_keep f12 K13 (allS (own_exa_plain A6) all0))
  have z27 : n0 ≤ T13.heap.size := by omega
  refine own_virtual X20 hx hZ hown (own_w hw 73 rfl) (own_w hw 74 rfl) (notFace_of_selects (args := #[]) (mvT hZ (own_w hw 76 rfl))) (own_w hw 76 rfl) (own_w hw 75 rfl) (own_w hw 57 rfl) (own_w hw 77 rfl) (by decide) (sbApp_0_0 l Z a0 hw [] b6 b_13 x t kb_13 kt zc T13.heap n0 z27 P13_0 P13_1 P13_2 P13_5 f21 f22 f23 f24 (by omega) f25 hz (by omega) P13_3) 0 (Nat.le_of_eq rfl) (by decide) (by decide) (by rw [hml]; rfl) (argsL := [(.ref x)]) (st := []) P13_0 (lenOf pd_19 rfl) rfl rfl (by decide) (by decide) e20 hby d9_11 ?_
  intro T26 v26 L26 X26 hQ26
  obtain ⟨rfl, Nq26, K26, P26_0, P26_1, P26_2, P26_3, P26_4⟩ := hQ26
  have N26 := Fr.app N13 Nq26
  have z28 : T13.heap.size ≤ T26.heap.size := K26.1
  have sf29 := (Safe.keep K13 (sfS (Safe.exa hZ.alike A6 (by decide) (by decide)) sf0) C8.1 (Safe.new (h := h6) (x := b_13) (by omega)))
  have C30 := C16.trans (CHr.keep K26 (sfS (Safe.exa hZ.alike P13_0 (by decide) (by decide)) (sfS sf29 sf0)) C16.1)
  have lt31 : T26.heap.size > b6 := P26_0.lt
  have lt32 : T26.heap.size > b_13 := P26_4.lt
  refine own_sh (T := T26) 14 #[.val (.ref u), .val (.ref y)] [(.ref b6)] ?_
  refine own_aloadN X26.here hx hby d9_14 rfl rfl ?_
  refine own_iconst X26.here hx hby d9_15 (v := (1 : Int32)) (by decide) ?_
  have f33 := (((E_y.ext E6).keep K13).keep K26)
  have f34 := (((Fc_y.ext E6).keep K13 (ninS (own_nn (by omega)) nin0)).keep K26 (ninS (own_nn (by omega)) (ninS (own_nn (by omega)) nin0)))
  have f35 := (((Fv_y.ext E6).keep K13 (ninS (own_nn (by omega)) nin0)).keep K26 (ninS (own_nn (by omega)) (ninS (own_nn (by omega)) nin0)))
  have f36 := (((V_ty.ext E6).keep K13 (ninS (own_nn (by omega)) nin0)).keep K26 (ninS (own_nn (by omega)) (ninS (own_nn (by omega)) nin0)))
  have f37 := (own_sta_keep f25 K26 (allS (own_exa_plain P13_0) (allS (own_arv_plain P13_5) all0)))
  have f38 := (own_sta_keep (own_sta_keep (S_FM.ext E6) K13 (allS (own_exa_plain A6) all0)) K26 (allS (own_exa_plain P13_0) (allS (own_arv_plain P13_5) all0)))
  have z40 : n0 ≤ T26.heap.size := by omega
  refine own_virtualH X26 hx hZ hEL hown (own_w hw 120 rfl) (own_w hw 121 rfl) (notFace_of_selects (args := #[]) (mvT hZ (own_w hw 123 rfl))) (own_w hw 123 rfl) (own_w hw 122 rfl) (own_w hw 2 rfl) (own_w hw 124 rfl) (by decide) (strSub_1_1 l Z a0 hw [] y ty ky fm zc u0 T26.heap n0 z40 f33 f34 f35 f36 f37 hz f38 hfm) 1 (Nat.le_of_eq rfl) (by decide) (by decide) (by rw [hml]; rfl) (argsL := [(.int 1)]) (st := [(.ref b6)]) f33 (lenOf pd_20 rfl) rfl rfl (by decide) (by decide) rfl hby C30.1 hS0 (by omega) d9_16 ?_
  intro T39 v39 L39 vm39 X39 hS39 hZ39 hown39 hg39 Cn39 hQ39
  obtain ⟨r_39, tr_39, kr_39, rfl, Nq39, K39, P39_0, P39_1, P39_2, P39_3⟩ := hQ39
  have N39 := Fr.app N26 Nq39
  have z41 : T26.heap.size ≤ T39.heap.size := K39.1
  have C42 := C30.trans Cn39
  have lt43 : T39.heap.size > r_39 := P39_0.lt
  have lt44 : T39.heap.size > tr_39 := P39_3.lt
  refine own_sh (T := T39) 19 #[.val (.ref u), .val (.ref y)] [(.ref r_39), (.ref b6)] ?_
  have f45 := (P26_0.keep K39)
  have f46 := (P26_1.keep K39 nin0)
  have f47 := (P26_2.keep K39 nin0)
  have f48 := (P26_4.keep K39 nin0)
  have f49 := (own_sta_keep f37 K39 all0)
  have f50 := (P26_3.keep K39 nin0)
  have z52 : n0 ≤ T39.heap.size := by omega
  refine own_virtual X39 hx hZ39 hown39 (own_w hw 73 rfl) (own_w hw 74 rfl) (notFace_of_selects (args := #[]) (mvT hZ39 (own_w hw 76 rfl))) (own_w hw 76 rfl) (own_w hw 75 rfl) (own_w hw 57 rfl) (own_w hw 77 rfl) (by decide) (sbApp_0_0 l Z a0 hw [] b6 b_13 r_39 tr_39 kb_13 kr_39 zc T39.heap n0 z52 f45 f46 f47 f48 P39_0 P39_1 P39_2 P39_3 (by omega) f49 hz (by omega) f50) 0 (Nat.le_of_eq rfl) (by decide) (by decide) (by rw [hml]; rfl) (argsL := [(.ref r_39)]) (st := []) f45 (lenOf pd_19 rfl) rfl rfl (by decide) (by decide) rfl hby d9_19 ?_
  intro T51 v51 L51 X51 hQ51
  obtain ⟨rfl, Nq51, K51, P51_0, P51_1, P51_2, P51_3, P51_4⟩ := hQ51
  have N51 := Fr.app N39 Nq51
  have z53 : T39.heap.size ≤ T51.heap.size := K51.1
  have sf54 := (Cn39.safe (own_ll (by omega)) (Safe.keep K26 (sfS (Safe.exa hZ.alike P13_0 (by decide) (by decide)) (sfS sf29 sf0)) C16.1 sf29))
  have C55 := C42.trans (CHr.keep K51 (sfS (Safe.exa hZ39.alike f45 (by decide) (by decide)) (sfS sf54 sf0)) C42.1)
  have lt56 : T51.heap.size > b6 := P51_0.lt
  have lt57 : T51.heap.size > b_13 := P51_4.lt
  refine own_sh (T := T51) 22 #[.val (.ref u), .val (.ref y)] [(.ref b6)] ?_
  have f58 := (own_sta_keep f49 K51 (allS (own_exa_plain f45) (allS (own_arv_plain f48) all0)))
  have z60 : n0 ≤ T51.heap.size := by omega
  refine own_virtual X51 hx hZ39 hown39 (own_w hw 167 rfl) (own_w hw 168 rfl) (notFace_of_selects (args := #[]) (mvT hZ39 (own_w hw 170 rfl))) (own_w hw 170 rfl) (own_w hw 169 rfl) (own_w hw 57 rfl) (own_w hw 171 rfl) (by decide) (sbStr_0 l Z a0 hw [] b6 b_13 kb_13 zc T51.heap n0 z60 P51_0 P51_1 P51_2 P51_3 P51_4 f58 hz) 0 (Nat.le_of_eq rfl) (by decide) (by decide) (by rw [hml]; rfl) (argsL := []) (st := []) P51_0 (lenOf pd_21 rfl) rfl rfl (by decide) (by decide) rfl hby d9_22 ?_
  intro T59 v59 L59 X59 hQ59
  obtain ⟨x_59, t_59, kt_59, rfl, Nq59, K59, P59_0, P59_1, P59_2, P59_3, P59_4⟩ := hQ59
  have N59 := Fr.app N51 Nq59
  have z61 : T51.heap.size ≤ T59.heap.size := K59.1
  have C62 := C55.trans (CHr.keep K59 sf0 C55.1)
  have lt63 : T59.heap.size > x_59 := P59_1.lt
  have lt64 : T59.heap.size > t_59 := P59_4.lt
  refine own_sh (T := T59) 25 #[.val (.ref u), .val (.ref y)] [(.ref x_59)] ?_
  have K65 : Keep h0 T59.heap [] := (((((((Keep.refl h0 []).ext E6).trans K13 (allS (P := fun xq_ => xq_ ∈ [] ∨ h0.size ≤ xq_) (Or.inr (by omega)) all0)).trans K26 (allS (P := fun xq_ => xq_ ∈ [] ∨ h0.size ≤ xq_) (Or.inr (by omega)) (allS (P := fun xq_ => xq_ ∈ [] ∨ h0.size ≤ xq_) (Or.inr (by omega)) all0))).trans K39 all0).trans K51 (allS (P := fun xq_ => xq_ ∈ [] ∨ h0.size ≤ xq_) (Or.inr (by omega)) (allS (P := fun xq_ => xq_ ∈ [] ∨ h0.size ≤ xq_) (Or.inr (by omega)) all0))).trans K59 all0)
  obtain ⟨fs, hr, hrun, hended, hRW⟩ := X59.leaveW hS39 (by omega) (v := some (.ref x_59)) (fun h => by rw [Bd.returns] at h; cases h)
  have hCf : CHr Z consts_1 s.vm s.heap T59.vm T59.heap := by
    rw [hh]
    exact C62.trans (CHv.at X59 hZ39 hEL C62.1)
  refine own_ret (t := T59.setFrames fs) ?_ ⟨_, hrun, hended, _, _, rfl, ?_, hCf, hRW.1, hRW.2.1, hRW.2.2.1, hRW.2.2.2.mono (by decide) (by decide)⟩
  · exact retOut X59 hx Bd.returns rfl (Or.inr (Or.inr (Or.inr (Or.inr ⟨rfl, rfl, rfl⟩)))) (hb hby d9_25) hr
  · show Q_uriOf_0_1 Z _ _ _ _ _ _ _ _ _ _ h0 n0 _ T59.heap _
    exact ⟨x_59, t_59, kt_59, rfl, N59, K65, (by omega), P59_1, P59_2, P59_3, P59_4⟩
def Q_strLen_2 (Z : State) (x : Nat) (t : Nat) (kb : ClassId) (zc : Int32) (vs_ : List Value) (h0 : Heap) (n0 : Nat) (vR : Option Value) (hR : Heap) (LR : List Loc) : Prop := vR = some (.int 2) ∧ Fr n0 LR ∧ hR = h0
set_option maxRecDepth 65536 in
set_option maxHeartbeats 40000000 in
theorem strLen_2 (l : Launch) (Z : State) (a0 : Array Value) (hw : ∀ d ∈ tables_1, d.before a0 Z = true) (ws : List Jvm.Cond) (x : Nat) (t : Nat) (kb : ClassId) (zc : Int32) (vs_ : List Value) (h0 : Heap) (n0 : Nat) (Z0 : n0 ≤ h0.size) (E_x : Exa Z h0 x "java/lang/String") (Fc_x : Fld Z h0 x "java/lang/String" "coder" "B" (.int 0)) (Fv_x : Fld Z h0 x "java/lang/String" "value" "[B" (.ref t)) (V_t : Arv Z h0 t kb .byte (2 : Int32) vs_ (.int 0)) (S_C : Sta Z h0 "java/lang/String" "COMPACT_STRINGS" "Z" (.int zc)) (hz : ¬ (zc = (0 : Int32))) :
    own_M l (⟨"java/lang/String", "length", "()I"⟩ : MethodName) jdk_42_method_54_code 1 (some .int) ws ({ frames := 1, cells := 0, slots := 0, locals := 13 } : Room) Z #[(.ref x)] h0 (Q_strLen_2 Z x t kb zc vs_ h0 n0) := by
  refine own_body (own := "java/lang/String") rfl (plainFor_of_name pn_14) (fun m => ef_strLen_0 m x) ?_
  intro p e s m below meth c s₁ Bd hml hZ hh hx hby hown X0 e0
  have N0 := Fr.nil n0
  have lt1 : h0.size > x := E_x.lt
  have lt2 : h0.size > t := V_t.lt
  refine own_aloadN X0.here hx hby d14_0 rfl rfl ?_
  refine own_getF X0 hx hZ hown (host := "") (Or.inl (own_w hw 32 rfl)) Via.refl e0 Fv_x hby d14_1 ?_
  intro T3 X3 e3
  refine own_alen X3 hx hZ e3 V_t hby d14_4 ?_
  refine own_aloadN X3.here hx hby d14_5 rfl rfl ?_
  refine own_virtual X3 hx hZ hown (own_w hw 88 rfl) (own_w hw 89 rfl) (notFace_of_selects (args := #[]) (mvT hZ (own_w hw 91 rfl))) (own_w hw 91 rfl) (own_w hw 90 rfl) (own_w hw 2 rfl) (own_w hw 92 rfl) (by decide) (strCoder l Z a0 hw [] x zc h0 n0 Z0 Fc_x S_C hz) 1 (Nat.le_of_eq rfl) (by decide) (by decide) (by rw [hml]; rfl) (argsL := []) (st := [(.int 2)]) E_x (lenOf pd_2 rfl) rfl rfl (by decide) (by decide) e3 hby d14_6 ?_
  intro T4 v4 L4 X4 hQ4
  obtain ⟨rfl, Nq4, eh4⟩ := hQ4
  have N4 := Fr.app N0 Nq4
  refine own_sh (T := T4) 9 #[.val (.ref x)] [(.int 0), (.int 2)] ?_
  refine own_ishr X4.here hx hby d14_9 (v := (2 : Int32)) (by decide) ?_
  obtain ⟨fs, hr, hrun, hended, hW, hsame⟩ := X4.leave (v := some (.int 2)) (fun h => by rw [Bd.returns] at h; cases h)
  refine own_ret (t := T4.setFrames fs) ?_ ⟨_, hrun, hended, _, _, rfl, ?_, ⟨_, rfl⟩, hW, hsame.mono (by decide) (by decide)⟩
  · exact retOut X4 hx Bd.returns rfl (Or.inl ⟨rfl, Or.inl rfl, _, rfl⟩) (hb hby d14_10) hr
  · show Q_strLen_2 Z _ _ _ _ _ h0 n0 _ T4.heap _
    rw [eh4]
    exact ⟨rfl, N4, rfl⟩
def Q_asbEns_2 (Z : State) (sb : Nat) (b : Nat) (kb : ClassId) (vs_ : List Value) (h0 : Heap) (n0 : Nat) (vR : Option Value) (hR : Heap) (LR : List Loc) : Prop := vR = none ∧ Fr n0 LR ∧ hR = h0
set_option maxRecDepth 65536 in
set_option maxHeartbeats 40000000 in
theorem asbEns_2 (l : Launch) (Z : State) (a0 : Array Value) (hw : ∀ d ∈ tables_1, d.before a0 Z = true) (ws : List Jvm.Cond) (sb : Nat) (b : Nat) (kb : ClassId) (vs_ : List Value) (h0 : Heap) (n0 : Nat) (Z0 : n0 ≤ h0.size) (F_value_sb : Fld Z h0 sb "java/lang/AbstractStringBuilder" "value" "[B" (.ref b)) (F_coder_sb : Fld Z h0 sb "java/lang/AbstractStringBuilder" "coder" "B" (.int 0)) (V_b : Arv Z h0 b kb .byte (16 : Int32) vs_ (.int 0)) :
    own_M l (⟨"java/lang/AbstractStringBuilder", "ensureCapacityInternal", "(I)V"⟩ : MethodName) jdk_68_method_9_code 3 none ws ({ frames := 0, cells := 0, slots := 0, locals := 0 } : Room) Z #[(.ref sb), (.int 2)] h0 (Q_asbEns_2 Z sb b kb vs_ h0 n0) := by
  refine own_body (own := "java/lang/AbstractStringBuilder") rfl (plainFor_of_name pn_16) (fun m => ef_asbEns_0 m sb (2 : Int32)) ?_
  intro p e s m below meth c s₁ Bd hml hZ hh hx hby hown X0 e0
  have N0 := Fr.nil n0
  have lt1 : h0.size > sb := F_value_sb.lt
  have lt2 : h0.size > b := V_b.lt
  refine own_aloadN X0.here hx hby d16_0 rfl rfl ?_
  refine own_getF X0 hx hZ hown (host := "") (Or.inl (own_w hw 69 rfl)) Via.refl e0 F_value_sb hby d16_1 ?_
  intro T3 X3 e3
  refine own_alen X3 hx hZ e3 V_b hby d16_4 ?_
  refine own_aloadN X3.here hx hby d16_5 rfl rfl ?_
  refine own_getF X3 hx hZ hown (host := "") (Or.inl (own_w hw 71 rfl)) Via.refl e3 F_coder_sb hby d16_6 ?_
  intro T4 X4 e4
  refine own_ishr X4.here hx hby d16_9 (v := (16 : Int32)) (by decide) ?_
  refine own_istoreN X4.here hx hby d16_10 (l' := #[.val (.ref sb), .val (.int 2), .val (.int 16)]) rfl ?_
  refine own_iloadN X4.here hx hby d16_11 rfl ?_
  refine own_iloadN X4.here hx hby d16_12 rfl ?_
  refine own_isub X4.here hx hby d16_13 (v := (-14 : Int32)) (by decide) ?_
  refine own_ifYes X4.here hx hby (pc' := 38) d16_14 ((if0 _ _).trans (flt (show ¬ ((0 : Int32) < (-14 : Int32)) from (by decide))).2.2.2) (by decide) (by decide) ?_
  obtain ⟨fs, hr, hrun, hended, hW, hsame⟩ := X4.leave (v := none) (fun _ => rfl)
  refine own_ret (t := T4.setFrames fs) ?_ ⟨_, hrun, hended, _, _, rfl, ?_, ⟨_, rfl⟩, hW, hsame.mono (by decide) (by decide)⟩
  · exact X4.returnOut hx Bd.returns (hb hby d16_38) hr
  · show Q_asbEns_2 Z _ _ _ _ h0 n0 _ T4.heap _
    rw [e4]
    exact ⟨rfl, N0, rfl⟩
def Q_strGB_0_2 (Z : State) (x : Nat) (t : Nat) (b : Nat) (kt : ClassId) (kb : ClassId) (zc : Int32) (u0 : Int32) (u1 : Int32) (h0 : Heap) (n0 : Nat) (vR : Option Value) (hR : Heap) (LR : List Loc) : Prop := vR = none ∧ Fr n0 LR ∧ Keep h0 hR [b] ∧ (Arv Z hR b kb .byte (16 : Int32) [(.int u0), (.int u1), (.int 0), (.int 0), (.int 0), (.int 0), (.int 0), (.int 0), (.int 0), (.int 0), (.int 0), (.int 0), (.int 0), (.int 0), (.int 0), (.int 0)] (.int 0))
set_option maxRecDepth 65536 in
set_option maxHeartbeats 40000000 in
theorem strGB_0_2 (l : Launch) (Z : State) (a0 : Array Value) (hw : ∀ d ∈ tables_1, d.before a0 Z = true) (ws : List Jvm.Cond) (x : Nat) (t : Nat) (b : Nat) (kt : ClassId) (kb : ClassId) (zc : Int32) (u0 : Int32) (u1 : Int32) (h0 : Heap) (n0 : Nat) (Z0 : n0 ≤ h0.size) (E_x : Exa Z h0 x "java/lang/String") (Fc_x : Fld Z h0 x "java/lang/String" "coder" "B" (.int 0)) (Fv_x : Fld Z h0 x "java/lang/String" "value" "[B" (.ref t)) (V_t : Arv Z h0 t kt .byte (2 : Int32) [(.int u0), (.int u1)] (.int 0)) (g_b : n0 ≤ b) (V_b : Arv Z h0 b kb .byte (16 : Int32) [(.int 0), (.int 0), (.int 0), (.int 0), (.int 0), (.int 0), (.int 0), (.int 0), (.int 0), (.int 0), (.int 0), (.int 0), (.int 0), (.int 0), (.int 0), (.int 0)] (.int 0)) (S_C : Sta Z h0 "java/lang/String" "COMPACT_STRINGS" "Z" (.int zc)) (hz : ¬ (zc = (0 : Int32))) :
    own_M l (⟨"java/lang/String", "getBytes", "([BIB)V"⟩ : MethodName) jdk_42_method_147_code 4 none ws ({ frames := 1, cells := 0, slots := 0, locals := 18 } : Room) Z #[(.ref x), (.ref b), (.int 0), (.int 0)] h0 (Q_strGB_0_2 Z x t b kt kb zc u0 u1 h0 n0) := by
  refine own_body (own := "java/lang/String") rfl (plainFor_of_name pn_19) (fun m => ef_strGB_0_0 m x b (0 : Int32) (0 : Int32)) ?_
  intro p e s m below meth c s₁ Bd hml hZ hh hx hby hown X0 e0
  have N0 := Fr.nil n0
  have lt2 : h0.size > x := E_x.lt
  have lt3 : h0.size > t := V_t.lt
  have lt4 : h0.size > b := V_b.lt
  refine own_aloadN X0.here hx hby d19_0 rfl rfl ?_
  refine own_virtual X0 hx hZ hown (own_w hw 88 rfl) (own_w hw 89 rfl) (notFace_of_selects (args := #[]) (mvT hZ (own_w hw 91 rfl))) (own_w hw 91 rfl) (own_w hw 90 rfl) (own_w hw 2 rfl) (own_w hw 92 rfl) (by decide) (strCoder l Z a0 hw [] x zc h0 n0 Z0 Fc_x S_C hz) 0 (Nat.le_of_eq rfl) (by decide) (by decide) (by rw [hml]; rfl) (argsL := []) (st := []) E_x (lenOf pd_2 rfl) rfl rfl (by decide) (by decide) e0 hby d19_1 ?_
  intro T5 v5 L5 X5 hQ5
  obtain ⟨rfl, Nq5, eh5⟩ := hQ5
  have N5 := Fr.app N0 Nq5
  refine own_sh (T := T5) 4 #[.val (.ref x), .val (.ref b), .val (.int 0), .val (.int 0)] [(.int 0)] ?_
  refine own_iloadN X5.here hx hby d19_4 rfl ?_
  refine own_icmpNo X5.here hx hby d19_5 (teq (show (0 : Int32) = (0 : Int32) from (by decide))).2 ?_
  refine own_aloadN X5.here hx hby d19_8 rfl rfl ?_
  refine own_getF X5 hx hZ hown (host := "") (Or.inl (own_w hw 32 rfl)) Via.refl eh5 Fv_x hby d19_9 ?_
  intro T6 X6 e6
  refine own_iconst X6.here hx hby d19_12 (v := (0 : Int32)) (by decide) ?_
  refine own_aloadN X6.here hx hby d19_13 rfl rfl ?_
  refine own_iloadN X6.here hx hby d19_14 rfl ?_
  refine own_iloadN X6.here hx hby d19_15 rfl ?_
  refine own_ishl X6.here hx hby d19_16 (v := (0 : Int32)) (by decide) ?_
  refine own_aloadN X6.here hx hby d19_17 rfl rfl ?_
  refine own_getF X6 hx hZ hown (host := "") (Or.inl (own_w hw 32 rfl)) Via.refl e6 Fv_x hby d19_18 ?_
  intro T7 X7 e7
  refine own_alen X7 hx hZ e7 V_t hby d19_21 ?_
  refine own_copyL X7 hx hZ hown (own_w hw 116 rfl) (own_w hw 119 rfl) (own_w hw 117 rfl) (own_w hw 118 rfl) e7 V_t V_b (res := [(.int u0), (.int u1), (.int 0), (.int 0), (.int 0), (.int 0), (.int 0), (.int 0), (.int 0), (.int 0), (.int 0), (.int 0), (.int 0), (.int 0), (.int 0), (.int 0)]) rfl 0 0 2 (by decide) (by decide) (by decide) (by decide) (by decide) (by decide) (by decide) (by decide) (Nat.le_of_ble_eq_true rfl) rfl N5 g_b (by rw [hml]; rfl) hby d19_22 (by decide) 0 (Nat.le_of_eq rfl) (by decide) ?_
  intro T8 h8 lo8 X8 e8 N8 K8 V8 z8
  refine own_goto X8.here hx hby (pc' := 43) d19_25 (by decide) (by decide) ?_
  have K9 : Keep h0 h8 [b] := ((Keep.refl h0 [b]).trans K8 (allS (P := fun xq_ => xq_ ∈ [b] ∨ h0.size ≤ xq_) (Or.inl (List.mem_of_getElem? (i := 0) rfl)) all0))
  obtain ⟨fs, hr, hrun, hended, hW, hsame⟩ := X8.leave (v := none) (fun _ => rfl)
  refine own_ret (t := T8.setFrames fs) ?_ ⟨_, hrun, hended, _, _, rfl, ?_, ⟨_, rfl⟩, hW, hsame.mono (by decide) (by decide)⟩
  · exact X8.returnOut hx Bd.returns (hb hby d19_43) hr
  · show Q_strGB_0_2 Z _ _ _ _ _ _ _ _ h0 n0 _ T8.heap _
    rw [e8]
    exact ⟨rfl, N8, K9, V8⟩
def Q_asbPut_0_2 (Z : State) (sb : Nat) (b : Nat) (x : Nat) (t : Nat) (kb : ClassId) (kt : ClassId) (zc : Int32) (u0 : Int32) (u1 : Int32) (h0 : Heap) (n0 : Nat) (vR : Option Value) (hR : Heap) (LR : List Loc) : Prop := vR = none ∧ Fr n0 LR ∧ Keep h0 hR [b] ∧ (Arv Z hR b kb .byte (16 : Int32) [(.int u0), (.int u1), (.int 0), (.int 0), (.int 0), (.int 0), (.int 0), (.int 0), (.int 0), (.int 0), (.int 0), (.int 0), (.int 0), (.int 0), (.int 0), (.int 0)] (.int 0))
set_option maxRecDepth 65536 in
set_option maxHeartbeats 40000000 in
theorem asbPut_0_2 (l : Launch) (Z : State) (a0 : Array Value) (hw : ∀ d ∈ tables_1, d.before a0 Z = true) (ws : List Jvm.Cond) (sb : Nat) (b : Nat) (x : Nat) (t : Nat) (kb : ClassId) (kt : ClassId) (zc : Int32) (u0 : Int32) (u1 : Int32) (h0 : Heap) (n0 : Nat) (Z0 : n0 ≤ h0.size) (E_sb : Exa Z h0 sb "java/lang/StringBuilder") (F_value_sb : Fld Z h0 sb "java/lang/AbstractStringBuilder" "value" "[B" (.ref b)) (F_coder_sb : Fld Z h0 sb "java/lang/AbstractStringBuilder" "coder" "B" (.int 0)) (V_b : Arv Z h0 b kb .byte (16 : Int32) [(.int 0), (.int 0), (.int 0), (.int 0), (.int 0), (.int 0), (.int 0), (.int 0), (.int 0), (.int 0), (.int 0), (.int 0), (.int 0), (.int 0), (.int 0), (.int 0)] (.int 0)) (E_x : Exa Z h0 x "java/lang/String") (Fc_x : Fld Z h0 x "java/lang/String" "coder" "B" (.int 0)) (Fv_x : Fld Z h0 x "java/lang/String" "value" "[B" (.ref t)) (V_t : Arv Z h0 t kt .byte (2 : Int32) [(.int u0), (.int u1)] (.int 0)) (g_b : n0 ≤ b) (S_C : Sta Z h0 "java/lang/String" "COMPACT_STRINGS" "Z" (.int zc)) (hz : ¬ (zc = (0 : Int32))) :
    own_M l (⟨"java/lang/AbstractStringBuilder", "putStringAt", "(ILjava/lang/String;)V"⟩ : MethodName) jdk_68_method_73_code 3 none ws ({ frames := 2, cells := 0, slots := 0, locals := 33 } : Room) Z #[(.ref sb), (.int 0), (.ref x)] h0 (Q_asbPut_0_2 Z sb b x t kb kt zc u0 u1 h0 n0) := by
  refine own_body (own := "java/lang/AbstractStringBuilder") rfl (plainFor_of_name pn_17) (fun m => ef_asbPut_0_0 m sb (0 : Int32) x) ?_
  intro p e s m below meth c s₁ Bd hml hZ hh hx hby hown X0 e0
  have N0 := Fr.nil n0
  have lt2 : h0.size > sb := E_sb.lt
  have lt3 : h0.size > b := V_b.lt
  have lt4 : h0.size > x := E_x.lt
  have lt5 : h0.size > t := V_t.lt
  refine own_aloadN X0.here hx hby d17_0 rfl rfl ?_
  refine own_aloadN X0.here hx hby d17_1 rfl rfl ?_
  refine own_privateS X0 hx hZ hown (own_w hw 105 rfl) (own_w hw 106 rfl) (own_w hw 108 rfl) (own_w hw 107 rfl) (own_w hw 65 rfl) (own_w hw 109 rfl) (by decide) (asbInfl l Z a0 hw [] sb x zc h0 n0 Z0 F_coder_sb E_x Fc_x S_C hz) 0 (Nat.le_of_eq rfl) (by decide) (by decide) (by rw [hml]; rfl) (argsL := [(.ref x)]) (st := []) E_sb (lenOf pd_3 rfl) rfl rfl (by decide) (by decide) e0 hby d17_2 ?_
  intro T6 v6 L6 X6 hQ6
  obtain ⟨rfl, Nq6, eh6⟩ := hQ6
  have N6 := Fr.app N0 Nq6
  refine own_sh (T := T6) 5 #[.val (.ref sb), .val (.int 0), .val (.ref x)] [] ?_
  refine own_aloadN X6.here hx hby d17_5 rfl rfl ?_
  refine own_aloadN X6.here hx hby d17_6 rfl rfl ?_
  refine own_getF X6 hx hZ hown (host := "") (Or.inl (own_w hw 69 rfl)) Via.refl eh6 F_value_sb hby d17_7 ?_
  intro T7 X7 e7
  refine own_iloadN X7.here hx hby d17_10 rfl ?_
  refine own_aloadN X7.here hx hby d17_11 rfl rfl ?_
  refine own_getF X7 hx hZ hown (host := "") (Or.inl (own_w hw 71 rfl)) Via.refl e7 F_coder_sb hby d17_12 ?_
  intro T8 X8 e8
  refine own_virtual X8 hx hZ hown (own_w hw 111 rfl) (own_w hw 112 rfl) (notFace_of_selects (args := #[]) (mvT hZ (own_w hw 114 rfl))) (own_w hw 114 rfl) (own_w hw 113 rfl) (own_w hw 2 rfl) (own_w hw 115 rfl) (by decide) (strGB_0_2 l Z a0 hw [] x t b kt kb zc u0 u1 h0 n0 Z0 E_x Fc_x Fv_x V_t g_b V_b S_C hz) 0 (Nat.le_of_eq rfl) (by decide) (by decide) (by rw [hml]; rfl) (argsL := [(.ref b), (.int 0), (.int 0)]) (st := []) E_x (lenOf pd_4 rfl) rfl rfl (by decide) (by decide) e8 hby d17_15 ?_
  intro T9 v9 L9 X9 hQ9
  obtain ⟨rfl, Nq9, K9, P9_0⟩ := hQ9
  have N9 := Fr.app N6 Nq9
  have z10 : h0.size ≤ T9.heap.size := K9.1
  have lt11 : T9.heap.size > b := P9_0.lt
  refine own_sh (T := T9) 18 #[.val (.ref sb), .val (.int 0), .val (.ref x)] [] ?_
  have K12 : Keep h0 T9.heap [b] := ((Keep.refl h0 [b]).trans K9 (allS (P := fun xq_ => xq_ ∈ [b] ∨ h0.size ≤ xq_) (Or.inl (List.mem_of_getElem? (i := 0) rfl)) all0))
  obtain ⟨fs, hr, hrun, hended, hW, hsame⟩ := X9.leave (v := none) (fun _ => rfl)
  refine own_ret (t := T9.setFrames fs) ?_ ⟨_, hrun, hended, _, _, rfl, ?_, ⟨_, rfl⟩, hW, hsame.mono (by decide) (by decide)⟩
  · exact X9.returnOut hx Bd.returns (hb hby d17_18) hr
  · show Q_asbPut_0_2 Z _ _ _ _ _ _ _ _ _ h0 n0 _ T9.heap _
    exact ⟨rfl, N9, K12, P9_0⟩
def Q_asbApp_0_2 (Z : State) (sb : Nat) (b : Nat) (x : Nat) (t : Nat) (kb : ClassId) (kt : ClassId) (zc : Int32) (u0 : Int32) (u1 : Int32) (h0 : Heap) (n0 : Nat) (vR : Option Value) (hR : Heap) (LR : List Loc) : Prop := vR = some (.ref sb) ∧ Fr n0 LR ∧ Keep h0 hR [sb, b] ∧ (Exa Z hR sb "java/lang/StringBuilder") ∧ (Fld Z hR sb "java/lang/AbstractStringBuilder" "value" "[B" (.ref b)) ∧ (Fld Z hR sb "java/lang/AbstractStringBuilder" "coder" "B" (.int 0)) ∧ (Fld Z hR sb "java/lang/AbstractStringBuilder" "count" "I" (.int 2)) ∧ (Arv Z hR b kb .byte (16 : Int32) [(.int u0), (.int u1), (.int 0), (.int 0), (.int 0), (.int 0), (.int 0), (.int 0), (.int 0), (.int 0), (.int 0), (.int 0), (.int 0), (.int 0), (.int 0), (.int 0)] (.int 0))
set_option maxRecDepth 65536 in
set_option maxHeartbeats 40000000 in
theorem asbApp_0_2 (l : Launch) (Z : State) (a0 : Array Value) (hw : ∀ d ∈ tables_1, d.before a0 Z = true) (ws : List Jvm.Cond) (sb : Nat) (b : Nat) (x : Nat) (t : Nat) (kb : ClassId) (kt : ClassId) (zc : Int32) (u0 : Int32) (u1 : Int32) (h0 : Heap) (n0 : Nat) (Z0 : n0 ≤ h0.size) (E_sb : Exa Z h0 sb "java/lang/StringBuilder") (F_value_sb : Fld Z h0 sb "java/lang/AbstractStringBuilder" "value" "[B" (.ref b)) (F_coder_sb : Fld Z h0 sb "java/lang/AbstractStringBuilder" "coder" "B" (.int 0)) (V_b : Arv Z h0 b kb .byte (16 : Int32) [(.int 0), (.int 0), (.int 0), (.int 0), (.int 0), (.int 0), (.int 0), (.int 0), (.int 0), (.int 0), (.int 0), (.int 0), (.int 0), (.int 0), (.int 0), (.int 0)] (.int 0)) (E_x : Exa Z h0 x "java/lang/String") (Fc_x : Fld Z h0 x "java/lang/String" "coder" "B" (.int 0)) (Fv_x : Fld Z h0 x "java/lang/String" "value" "[B" (.ref t)) (V_t : Arv Z h0 t kt .byte (2 : Int32) [(.int u0), (.int u1)] (.int 0)) (g_b : n0 ≤ b) (S_C : Sta Z h0 "java/lang/String" "COMPACT_STRINGS" "Z" (.int zc)) (hz : ¬ (zc = (0 : Int32))) (g_sb : n0 ≤ sb) (F_count_sb : Fld Z h0 sb "java/lang/AbstractStringBuilder" "count" "I" (.int 0)) :
    own_M l (⟨"java/lang/AbstractStringBuilder", "append", "(Ljava/lang/String;)Ljava/lang/AbstractStringBuilder;"⟩ : MethodName) jdk_68_method_22_code 3 (some (.object "java/lang/AbstractStringBuilder")) ws ({ frames := 3, cells := 0, slots := 0, locals := 47 } : Room) Z #[(.ref sb), (.ref x)] h0 (Q_asbApp_0_2 Z sb b x t kb kt zc u0 u1 h0 n0) := by
  refine own_body (own := "java/lang/AbstractStringBuilder") rfl (plainFor_of_name pn_13) (fun m => ef_asbApp_0_0 m sb x) ?_
  intro p e s m below meth c s₁ Bd hml hZ hh hx hby hown X0 e0
  have N0 := Fr.nil n0
  have lt2 : h0.size > sb := E_sb.lt
  have lt3 : h0.size > b := V_b.lt
  have lt4 : h0.size > x := E_x.lt
  have lt5 : h0.size > t := V_t.lt
  refine own_aloadN X0.here hx hby d13_0 rfl rfl ?_
  refine own_ifnonnullYes X0.here hx hby (pc' := 9) d13_1 (by decide) (by decide) ?_
  refine own_aloadN X0.here hx hby d13_9 rfl rfl ?_
  refine own_virtual X0 hx hZ hown (own_w hw 83 rfl) (own_w hw 84 rfl) (notFace_of_selects (args := #[]) (mvT hZ (own_w hw 86 rfl))) (own_w hw 86 rfl) (own_w hw 85 rfl) (own_w hw 2 rfl) (own_w hw 87 rfl) (by decide) (strLen_2 l Z a0 hw [] x t kt zc ([(.int u0), (.int u1)]) h0 n0 Z0 E_x Fc_x Fv_x V_t S_C hz) 0 (Nat.le_of_eq rfl) (by decide) (by decide) (by rw [hml]; rfl) (argsL := []) (st := []) E_x (lenOf pd_5 rfl) rfl rfl (by decide) (by decide) e0 hby d13_10 ?_
  intro T6 v6 L6 X6 hQ6
  obtain ⟨rfl, Nq6, eh6⟩ := hQ6
  have N6 := Fr.app N0 Nq6
  refine own_sh (T := T6) 13 #[.val (.ref sb), .val (.ref x), .unset] [(.int 2)] ?_
  refine own_istoreN X6.here hx hby d13_13 (l' := #[.val (.ref sb), .val (.ref x), .val (.int 2)]) rfl ?_
  refine own_aloadN X6.here hx hby d13_14 rfl rfl ?_
  refine own_aloadN X6.here hx hby d13_15 rfl rfl ?_
  refine own_getF X6 hx hZ hown (host := "") (Or.inl (own_w hw 93 rfl)) Via.refl eh6 F_count_sb hby d13_16 ?_
  intro T7 X7 e7
  refine own_iloadN X7.here hx hby d13_19 rfl ?_
  refine own_iadd X7.here hx hby d13_20 (v := (2 : Int32)) (by decide) ?_
  refine own_privateS X7 hx hZ hown (own_w hw 95 rfl) (own_w hw 96 rfl) (own_w hw 98 rfl) (own_w hw 97 rfl) (own_w hw 65 rfl) (own_w hw 99 rfl) (by decide) (asbEns_2 l Z a0 hw [] sb b kb ([(.int 0), (.int 0), (.int 0), (.int 0), (.int 0), (.int 0), (.int 0), (.int 0), (.int 0), (.int 0), (.int 0), (.int 0), (.int 0), (.int 0), (.int 0), (.int 0)]) h0 n0 Z0 F_value_sb F_coder_sb V_b) 0 (Nat.le_of_eq rfl) (by decide) (by decide) (by rw [hml]; rfl) (argsL := [(.int 2)]) (st := []) E_sb (lenOf pd_1 rfl) rfl rfl (by decide) (by decide) e7 hby d13_21 ?_
  intro T8 v8 L8 X8 hQ8
  obtain ⟨rfl, Nq8, eh8⟩ := hQ8
  have N8 := Fr.app N6 Nq8
  refine own_sh (T := T8) 24 #[.val (.ref sb), .val (.ref x), .val (.int 2)] [] ?_
  refine own_aloadN X8.here hx hby d13_24 rfl rfl ?_
  refine own_aloadN X8.here hx hby d13_25 rfl rfl ?_
  refine own_getF X8 hx hZ hown (host := "") (Or.inl (own_w hw 93 rfl)) Via.refl eh8 F_count_sb hby d13_26 ?_
  intro T9 X9 e9
  refine own_aloadN X9.here hx hby d13_29 rfl rfl ?_
  refine own_privateS X9 hx hZ hown (own_w hw 100 rfl) (own_w hw 101 rfl) (own_w hw 103 rfl) (own_w hw 102 rfl) (own_w hw 65 rfl) (own_w hw 104 rfl) (by decide) (asbPut_0_2 l Z a0 hw [] sb b x t kb kt zc u0 u1 h0 n0 Z0 E_sb F_value_sb F_coder_sb V_b E_x Fc_x Fv_x V_t g_b S_C hz) 0 (Nat.le_of_eq rfl) (by decide) (by decide) (by rw [hml]; rfl) (argsL := [(.int 0), (.ref x)]) (st := []) E_sb (lenOf pd_6 rfl) rfl rfl (by decide) (by decide) e9 hby d13_30 ?_
  intro T10 v10 L10 X10 hQ10
  obtain ⟨rfl, Nq10, K10, P10_0⟩ := hQ10
  have N10 := Fr.app N8 Nq10
  have z11 : h0.size ≤ T10.heap.size := K10.1
  have lt12 : T10.heap.size > b := P10_0.lt
  refine own_sh (T := T10) 33 #[.val (.ref sb), .val (.ref x), .val (.int 2)] [] ?_
  refine own_aloadN X10.here hx hby d13_33 rfl rfl ?_
  refine own_dup X10.here hx hby d13_34 rfl ?_
  have f13 := (F_count_sb.keep K10 (ninS (own_ne_oa E_sb (own_w hw 56 rfl) V_b) nin0))
  refine own_getF X10 hx hZ hown (host := "") (Or.inl (own_w hw 93 rfl)) Via.refl rfl f13 hby d13_35 ?_
  intro T14 X14 e14
  refine own_iloadN X14.here hx hby d13_38 rfl ?_
  refine own_iadd X14.here hx hby d13_39 (v := (2 : Int32)) (by decide) ?_
  have f15 := (E_sb.keep K10)
  refine own_putF X14 hx hZ (ty := .int) hown (host := "") (Or.inl (own_w hw 93 rfl)) Via.refl e14 f13 f15 (Or.inl (own_w hw 94 rfl)) (own_w hw 56 rfl) (by decide) rfl rfl hby d13_40 N10 g_sb ?_
  intro T16 h16 lo16 X16 e16 N16 W16 F16 z16
  refine own_aloadN X16.here hx hby d13_43 rfl rfl ?_
  have K17 : Keep h0 h16 [sb, b] := (((Keep.refl h0 [sb, b]).trans K10 (allS (P := fun xq_ => xq_ ∈ [sb, b] ∨ h0.size ≤ xq_) (Or.inl (List.mem_of_getElem? (i := 1) rfl)) all0)).wr W16 (Or.inl (List.mem_of_getElem? (i := 0) rfl)))
  have f18 := (f15.wr W16)
  have f19 := ((F_value_sb.keep K10 (ninS (own_ne_oa E_sb (own_w hw 56 rfl) V_b) nin0)).other W16 (Or.inr (slot_ne (Or.inl (own_w hw 70 rfl)) (Or.inl (own_w hw 94 rfl)) (by decide) (t := (.array .byte)) (t' := .int) (by decide) (by decide))))
  have f20 := ((F_coder_sb.keep K10 (ninS (own_ne_oa E_sb (own_w hw 56 rfl) V_b) nin0)).other W16 (Or.inr (slot_ne (Or.inl (own_w hw 72 rfl)) (Or.inl (own_w hw 94 rfl)) (by decide) (t := .byte) (t' := .int) (by decide) (by decide))))
  have f21 := (P10_0.other W16 (Ne.symm (own_ne_oa E_sb (own_w hw 56 rfl) V_b)))
  obtain ⟨fs, hr, hrun, hended, hW, hsame⟩ := X16.leave (v := some (.ref sb)) (fun h => by rw [Bd.returns] at h; cases h)
  refine own_ret (t := T16.setFrames fs) ?_ ⟨_, hrun, hended, _, _, rfl, ?_, ⟨_, rfl⟩, hW, hsame.mono (by decide) (by decide)⟩
  · exact retOut X16 hx Bd.returns rfl (Or.inr (Or.inr (Or.inr (Or.inr ⟨rfl, rfl, rfl⟩)))) (hb hby d13_44) hr
  · show Q_asbApp_0_2 Z _ _ _ _ _ _ _ _ _ h0 n0 _ T16.heap _
    rw [e16]
    exact ⟨rfl, N16, K17, f18, f19, f20, F16, f21⟩
def Q_sbApp_0_2 (Z : State) (sb : Nat) (b : Nat) (x : Nat) (t : Nat) (kb : ClassId) (kt : ClassId) (zc : Int32) (u0 : Int32) (u1 : Int32) (h0 : Heap) (n0 : Nat) (vR : Option Value) (hR : Heap) (LR : List Loc) : Prop := vR = some (.ref sb) ∧ Fr n0 LR ∧ Keep h0 hR [sb, b] ∧ (Exa Z hR sb "java/lang/StringBuilder") ∧ (Fld Z hR sb "java/lang/AbstractStringBuilder" "value" "[B" (.ref b)) ∧ (Fld Z hR sb "java/lang/AbstractStringBuilder" "coder" "B" (.int 0)) ∧ (Fld Z hR sb "java/lang/AbstractStringBuilder" "count" "I" (.int 2)) ∧ (Arv Z hR b kb .byte (16 : Int32) [(.int u0), (.int u1), (.int 0), (.int 0), (.int 0), (.int 0), (.int 0), (.int 0), (.int 0), (.int 0), (.int 0), (.int 0), (.int 0), (.int 0), (.int 0), (.int 0)] (.int 0))
set_option maxRecDepth 65536 in
set_option maxHeartbeats 40000000 in
theorem sbApp_0_2 (l : Launch) (Z : State) (a0 : Array Value) (hw : ∀ d ∈ tables_1, d.before a0 Z = true) (ws : List Jvm.Cond) (sb : Nat) (b : Nat) (x : Nat) (t : Nat) (kb : ClassId) (kt : ClassId) (zc : Int32) (u0 : Int32) (u1 : Int32) (h0 : Heap) (n0 : Nat) (Z0 : n0 ≤ h0.size) (E_sb : Exa Z h0 sb "java/lang/StringBuilder") (F_value_sb : Fld Z h0 sb "java/lang/AbstractStringBuilder" "value" "[B" (.ref b)) (F_coder_sb : Fld Z h0 sb "java/lang/AbstractStringBuilder" "coder" "B" (.int 0)) (V_b : Arv Z h0 b kb .byte (16 : Int32) [(.int 0), (.int 0), (.int 0), (.int 0), (.int 0), (.int 0), (.int 0), (.int 0), (.int 0), (.int 0), (.int 0), (.int 0), (.int 0), (.int 0), (.int 0), (.int 0)] (.int 0)) (E_x : Exa Z h0 x "java/lang/String") (Fc_x : Fld Z h0 x "java/lang/String" "coder" "B" (.int 0)) (Fv_x : Fld Z h0 x "java/lang/String" "value" "[B" (.ref t)) (V_t : Arv Z h0 t kt .byte (2 : Int32) [(.int u0), (.int u1)] (.int 0)) (g_b : n0 ≤ b) (S_C : Sta Z h0 "java/lang/String" "COMPACT_STRINGS" "Z" (.int zc)) (hz : ¬ (zc = (0 : Int32))) (g_sb : n0 ≤ sb) (F_count_sb : Fld Z h0 sb "java/lang/AbstractStringBuilder" "count" "I" (.int 0)) :
    own_M l (⟨"java/lang/StringBuilder", "append", "(Ljava/lang/String;)Ljava/lang/StringBuilder;"⟩ : MethodName) jdk_67_method_7_code 2 (some (.object "java/lang/StringBuilder")) ws ({ frames := 4, cells := 0, slots := 0, locals := 61 } : Room) Z #[(.ref sb), (.ref x)] h0 (Q_sbApp_0_2 Z sb b x t kb kt zc u0 u1 h0 n0) := by
  refine own_body (own := "java/lang/StringBuilder") rfl (plainFor_of_name pn_12) (fun m => ef_sbApp_0_0 m sb x) ?_
  intro p e s m below meth c s₁ Bd hml hZ hh hx hby hown X0 e0
  have N0 := Fr.nil n0
  have lt2 : h0.size > sb := E_sb.lt
  have lt3 : h0.size > b := V_b.lt
  have lt4 : h0.size > x := E_x.lt
  have lt5 : h0.size > t := V_t.lt
  refine own_aloadN X0.here hx hby d12_0 rfl rfl ?_
  refine own_aloadN X0.here hx hby d12_1 rfl rfl ?_
  refine own_super X0 hx hZ (by decide) hown (own_w hw 78 rfl) (own_sameM (y := (⟨"java/lang/AbstractStringBuilder", "append", "(Ljava/lang/String;)Ljava/lang/AbstractStringBuilder;"⟩ : MethodName)) (y' := (⟨"java/lang/AbstractStringBuilder", "ensureCapacityInternal", "(I)V"⟩ : MethodName)) rfl (own_w hw 79 rfl) (own_w hw 98 rfl) (by decide)) (own_w hw 79 rfl) (own_w hw 80 rfl) (own_w hw 65 rfl) (own_w hw 82 rfl) (asbApp_0_2 l Z a0 hw [] sb b x t kb kt zc u0 u1 h0 n0 Z0 E_sb F_value_sb F_coder_sb V_b E_x Fc_x Fv_x V_t g_b S_C hz g_sb F_count_sb) 0 (Nat.le_of_eq rfl) (by decide) (by decide) (by rw [hml]; rfl) (argsL := [(.ref x)]) (st := []) E_sb (lenOf pd_7 rfl) rfl rfl (by decide) (by decide) e0 hby d12_2 ?_
  intro T6 v6 L6 X6 hQ6
  obtain ⟨rfl, Nq6, K6, P6_0, P6_1, P6_2, P6_3, P6_4⟩ := hQ6
  have N6 := Fr.app N0 Nq6
  have z7 : h0.size ≤ T6.heap.size := K6.1
  have lt8 : T6.heap.size > sb := P6_0.lt
  have lt9 : T6.heap.size > b := P6_4.lt
  refine own_sh (T := T6) 5 #[.val (.ref sb), .val (.ref x)] [(.ref sb)] ?_
  refine own_pop X6.here hx hby d12_5 rfl ?_
  refine own_aloadN X6.here hx hby d12_6 rfl rfl ?_
  have K10 : Keep h0 T6.heap [sb, b] := ((Keep.refl h0 [sb, b]).trans K6 (allS (P := fun xq_ => xq_ ∈ [sb, b] ∨ h0.size ≤ xq_) (Or.inl (List.mem_of_getElem? (i := 0) rfl)) (allS (P := fun xq_ => xq_ ∈ [sb, b] ∨ h0.size ≤ xq_) (Or.inl (List.mem_of_getElem? (i := 1) rfl)) all0)))
  obtain ⟨fs, hr, hrun, hended, hW, hsame⟩ := X6.leave (v := some (.ref sb)) (fun h => by rw [Bd.returns] at h; cases h)
  refine own_ret (t := T6.setFrames fs) ?_ ⟨_, hrun, hended, _, _, rfl, ?_, ⟨_, rfl⟩, hW, hsame.mono (by decide) (by decide)⟩
  · exact retOut X6 hx Bd.returns rfl (Or.inr (Or.inr (Or.inr (Or.inr ⟨rfl, rfl, rfl⟩)))) (hb hby d12_7) hr
  · show Q_sbApp_0_2 Z _ _ _ _ _ _ _ _ _ h0 n0 _ T6.heap _
    exact ⟨rfl, N6, K10, P6_0, P6_1, P6_2, P6_3, P6_4⟩
def Q_strLen_3 (Z : State) (x : Nat) (t : Nat) (kb : ClassId) (zc : Int32) (vs_ : List Value) (h0 : Heap) (n0 : Nat) (vR : Option Value) (hR : Heap) (LR : List Loc) : Prop := vR = some (.int 3) ∧ Fr n0 LR ∧ hR = h0
set_option maxRecDepth 65536 in
set_option maxHeartbeats 40000000 in
theorem strLen_3 (l : Launch) (Z : State) (a0 : Array Value) (hw : ∀ d ∈ tables_1, d.before a0 Z = true) (ws : List Jvm.Cond) (x : Nat) (t : Nat) (kb : ClassId) (zc : Int32) (vs_ : List Value) (h0 : Heap) (n0 : Nat) (Z0 : n0 ≤ h0.size) (E_x : Exa Z h0 x "java/lang/String") (Fc_x : Fld Z h0 x "java/lang/String" "coder" "B" (.int 0)) (Fv_x : Fld Z h0 x "java/lang/String" "value" "[B" (.ref t)) (V_t : Arv Z h0 t kb .byte (3 : Int32) vs_ (.int 0)) (S_C : Sta Z h0 "java/lang/String" "COMPACT_STRINGS" "Z" (.int zc)) (hz : ¬ (zc = (0 : Int32))) :
    own_M l (⟨"java/lang/String", "length", "()I"⟩ : MethodName) jdk_42_method_54_code 1 (some .int) ws ({ frames := 1, cells := 0, slots := 0, locals := 13 } : Room) Z #[(.ref x)] h0 (Q_strLen_3 Z x t kb zc vs_ h0 n0) := by
  refine own_body (own := "java/lang/String") rfl (plainFor_of_name pn_14) (fun m => ef_strLen_0 m x) ?_
  intro p e s m below meth c s₁ Bd hml hZ hh hx hby hown X0 e0
  have N0 := Fr.nil n0
  have lt1 : h0.size > x := E_x.lt
  have lt2 : h0.size > t := V_t.lt
  refine own_aloadN X0.here hx hby d14_0 rfl rfl ?_
  refine own_getF X0 hx hZ hown (host := "") (Or.inl (own_w hw 32 rfl)) Via.refl e0 Fv_x hby d14_1 ?_
  intro T3 X3 e3
  refine own_alen X3 hx hZ e3 V_t hby d14_4 ?_
  refine own_aloadN X3.here hx hby d14_5 rfl rfl ?_
  refine own_virtual X3 hx hZ hown (own_w hw 88 rfl) (own_w hw 89 rfl) (notFace_of_selects (args := #[]) (mvT hZ (own_w hw 91 rfl))) (own_w hw 91 rfl) (own_w hw 90 rfl) (own_w hw 2 rfl) (own_w hw 92 rfl) (by decide) (strCoder l Z a0 hw [] x zc h0 n0 Z0 Fc_x S_C hz) 1 (Nat.le_of_eq rfl) (by decide) (by decide) (by rw [hml]; rfl) (argsL := []) (st := [(.int 3)]) E_x (lenOf pd_2 rfl) rfl rfl (by decide) (by decide) e3 hby d14_6 ?_
  intro T4 v4 L4 X4 hQ4
  obtain ⟨rfl, Nq4, eh4⟩ := hQ4
  have N4 := Fr.app N0 Nq4
  refine own_sh (T := T4) 9 #[.val (.ref x)] [(.int 0), (.int 3)] ?_
  refine own_ishr X4.here hx hby d14_9 (v := (3 : Int32)) (by decide) ?_
  obtain ⟨fs, hr, hrun, hended, hW, hsame⟩ := X4.leave (v := some (.int 3)) (fun h => by rw [Bd.returns] at h; cases h)
  refine own_ret (t := T4.setFrames fs) ?_ ⟨_, hrun, hended, _, _, rfl, ?_, ⟨_, rfl⟩, hW, hsame.mono (by decide) (by decide)⟩
  · exact retOut X4 hx Bd.returns rfl (Or.inl ⟨rfl, Or.inl rfl, _, rfl⟩) (hb hby d14_10) hr
  · show Q_strLen_3 Z _ _ _ _ _ h0 n0 _ T4.heap _
    rw [eh4]
    exact ⟨rfl, N4, rfl⟩
def Q_preFT_1_3 (Z : State) (fm : Value) (h0 : Heap) (n0 : Nat) (vR : Option Value) (hR : Heap) (LR : List Loc) : Prop := vR = some (.int 1) ∧ Fr n0 LR ∧ hR = h0
set_option maxRecDepth 65536 in
set_option maxHeartbeats 40000000 in
theorem preFT_1_3 (l : Launch) (Z : State) (a0 : Array Value) (hw : ∀ d ∈ tables_1, d.before a0 Z = true) (ws : List Jvm.Cond) (fm : Value) (h0 : Heap) (n0 : Nat) (Z0 : n0 ≤ h0.size) (hfm : fm.isRef = true) :
    own_M l (⟨"jdk/internal/util/Preconditions", "checkFromToIndex", "(IIILjava/util/function/BiFunction;)I"⟩ : MethodName) jdk_41_method_12_code 4 (some .int) ws ({ frames := 0, cells := 0, slots := 0, locals := 0 } : Room) Z #[(.int 1), (.int 3), (.int 3), fm] h0 (Q_preFT_1_3 Z fm h0 n0) := by
  refine own_body (own := "jdk/internal/util/Preconditions") rfl (plainFor_of_name pn_23) (fun m => ef_preFT_1_1 m (1 : Int32) (3 : Int32) (3 : Int32) fm hfm) ?_
  intro p e s m below meth c s₁ Bd hml hZ hh hx hby hown X0 e0
  have N0 := Fr.nil n0
  refine own_iloadN X0.here hx hby d23_0 rfl ?_
  refine own_ifNo X0.here hx hby d23_1 ((if0 _ _).trans (flt (show ¬ ((1 : Int32) < (0 : Int32)) from (by decide))).1) ?_
  refine own_iloadN X0.here hx hby d23_4 rfl ?_
  refine own_iloadN X0.here hx hby d23_5 rfl ?_
  refine own_icmpNo X0.here hx hby d23_6 (flt (show ¬ ((3 : Int32) < (1 : Int32)) from (by decide))).2.2.1 ?_
  refine own_iloadN X0.here hx hby d23_9 rfl ?_
  refine own_iloadN X0.here hx hby d23_10 rfl ?_
  refine own_icmpYes X0.here hx hby (pc' := 22) d23_11 (flt (show ¬ ((3 : Int32) < (3 : Int32)) from (by decide))).2.2.2 (by decide) (by decide) ?_
  refine own_iloadN X0.here hx hby d23_22 rfl ?_
  obtain ⟨fs, hr, hrun, hended, hW, hsame⟩ := X0.leave (v := some (.int 1)) (fun h => by rw [Bd.returns] at h; cases h)
  refine own_ret (t := s₁.setFrames fs) ?_ ⟨_, hrun, hended, _, _, rfl, ?_, ⟨_, rfl⟩, hW, hsame.mono (by decide) (by decide)⟩
  · exact retOut X0 hx Bd.returns rfl (Or.inl ⟨rfl, Or.inl rfl, _, rfl⟩) (hb hby d23_23) hr
  · show Q_preFT_1_3 Z _ h0 n0 _ s₁.heap _
    rw [e0]
    exact ⟨rfl, N0, rfl⟩
def Q_strBE_1_3 (Z : State) (fm : Value) (h0 : Heap) (n0 : Nat) (vR : Option Value) (hR : Heap) (LR : List Loc) : Prop := vR = none ∧ Fr n0 LR ∧ hR = h0
set_option maxRecDepth 65536 in
set_option maxHeartbeats 40000000 in
theorem strBE_1_3 (l : Launch) (Z : State) (a0 : Array Value) (hw : ∀ d ∈ tables_1, d.before a0 Z = true) (ws : List Jvm.Cond) (fm : Value) (h0 : Heap) (n0 : Nat) (Z0 : n0 ≤ h0.size) (S_FM : Sta Z h0 "jdk/internal/util/Preconditions" "SIOOBE_FORMATTER" "Ljava/util/function/BiFunction;" fm) (hfm : fm.isRef = true) :
    own_M l (⟨"java/lang/String", "checkBoundsBeginEnd", "(III)V"⟩ : MethodName) jdk_42_method_158_code 3 none ws ({ frames := 1, cells := 0, slots := 0, locals := 15 } : Room) Z #[(.int 1), (.int 3), (.int 3)] h0 (Q_strBE_1_3 Z fm h0 n0) := by
  refine own_body (own := "java/lang/String") rfl (plainFor_of_name pn_22) (fun m => ef_strBE_1_1 m (1 : Int32) (3 : Int32) (3 : Int32)) ?_
  intro p e s m below meth c s₁ Bd hml hZ hh hx hby hown X0 e0
  have N0 := Fr.nil n0
  refine own_iloadN X0.here hx hby d22_0 rfl ?_
  refine own_iloadN X0.here hx hby d22_1 rfl ?_
  refine own_iloadN X0.here hx hby d22_2 rfl ?_
  refine own_getS X0 hx hZ hown (host := "") (Or.inl (own_w hw 134 rfl)) Via.refl e0 S_FM hby d22_3 ?_
  intro T1 X1 e1
  refine own_callS X1 hx hZ hown (own_w hw 136 rfl) (own_w hw 137 rfl) (own_w hw 135 rfl) (own_w hw 138 rfl) (by decide) (preFT_1_3 l Z a0 hw [] fm h0 n0 Z0 hfm) 0 (Nat.le_of_eq rfl) (by decide) (by decide) (by rw [hml]; rfl) (argsL := [(.int 1), (.int 3), (.int 3), fm]) (st := []) (lenOf pd_8 rfl) rfl rfl (by decide) (by decide) e1 hby d22_6 ?_
  intro T2 v2 L2 X2 hQ2
  obtain ⟨rfl, Nq2, eh2⟩ := hQ2
  have N2 := Fr.app N0 Nq2
  refine own_sh (T := T2) 9 #[.val (.int 1), .val (.int 3), .val (.int 3)] [(.int 1)] ?_
  refine own_pop X2.here hx hby d22_9 rfl ?_
  obtain ⟨fs, hr, hrun, hended, hW, hsame⟩ := X2.leave (v := none) (fun _ => rfl)
  refine own_ret (t := T2.setFrames fs) ?_ ⟨_, hrun, hended, _, _, rfl, ?_, ⟨_, rfl⟩, hW, hsame.mono (by decide) (by decide)⟩
  · exact X2.returnOut hx Bd.returns (hb hby d22_10) hr
  · show Q_strBE_1_3 Z _ h0 n0 _ T2.heap _
    rw [eh2]
    exact ⟨rfl, N2, rfl⟩
theorem d29_5 : decode jdk_29_method_69_code 5 = .ok (.iload_n 0, 1) := by decide +kernel
theorem d29_6 : decode jdk_29_method_69_code 6 = .ok (.goto 4, 3) := by decide +kernel
def Q_min_2_2 (Z : State)  (h0 : Heap) (n0 : Nat) (vR : Option Value) (hR : Heap) (LR : List Loc) : Prop := vR = some (.int 2) ∧ Fr n0 LR ∧ hR = h0
set_option maxRecDepth 65536 in
set_option maxHeartbeats 40000000 in
theorem min_2_2 (l : Launch) (Z : State) (a0 : Array Value) (hw : ∀ d ∈ tables_1, d.before a0 Z = true) (ws : List Jvm.Cond)  (h0 : Heap) (n0 : Nat) (Z0 : n0 ≤ h0.size)  :
    own_M l (⟨"java/lang/Math", "min", "(II)I"⟩ : MethodName) jdk_29_method_69_code 2 (some .int) ws ({ frames := 0, cells := 0, slots := 0, locals := 0 } : Room) Z #[(.int 2), (.int 2)] h0 (Q_min_2_2 Z  h0 n0) := by
  refine own_body (own := "java/lang/Math") rfl (Jvm.Free.JP.mathPlain rfl (by decide +kernel)) (fun m => ef_min_16_0 m (2 : Int32) (2 : Int32)) ?_
  intro p e s m below meth c s₁ Bd hml hZ hh hx hby hown X0 e0
  have N0 := Fr.nil n0
  refine own_iloadN X0.here hx hby d29_0 rfl ?_
  refine own_iloadN X0.here hx hby d29_1 rfl ?_
  refine own_icmpNo X0.here hx hby d29_2 (flt (show ¬ ((2 : Int32) < (2 : Int32)) from (by decide))).2.2.1 ?_
  refine own_iloadN X0.here hx hby d29_5 rfl ?_
  refine own_goto X0.here hx hby (pc' := 10) d29_6 (by decide) (by decide) ?_
  obtain ⟨fs, hr, hrun, hended, hW, hsame⟩ := X0.leave (v := some (.int 2)) (fun h => by rw [Bd.returns] at h; cases h)
  refine own_ret (t := s₁.setFrames fs) ?_ ⟨_, hrun, hended, _, _, rfl, ?_, ⟨_, rfl⟩, hW, hsame.mono (by decide) (by decide)⟩
  · exact retOut X0 hx Bd.returns rfl (Or.inl ⟨rfl, Or.inl rfl, _, rfl⟩) (hb hby d29_10) hr
  · show Q_min_2_2 Z h0 n0 _ s₁.heap _
    rw [e0]
    exact ⟨rfl, N0, rfl⟩
def Q_arrChk_1_3 (Z : State)  (h0 : Heap) (n0 : Nat) (vR : Option Value) (hR : Heap) (LR : List Loc) : Prop := vR = none ∧ Fr n0 LR ∧ hR = h0
set_option maxRecDepth 65536 in
set_option maxHeartbeats 40000000 in
theorem arrChk_1_3 (l : Launch) (Z : State) (a0 : Array Value) (hw : ∀ d ∈ tables_1, d.before a0 Z = true) (ws : List Jvm.Cond)  (h0 : Heap) (n0 : Nat) (Z0 : n0 ≤ h0.size)  :
    own_M l (⟨"java/util/Arrays", "checkLength", "(II)V"⟩ : MethodName) jdk_65_method_131_code 2 none ws ({ frames := 0, cells := 0, slots := 0, locals := 0 } : Room) Z #[(.int 1), (.int 3)] h0 (Q_arrChk_1_3 Z  h0 n0) := by
  refine own_body (own := "java/util/Arrays") rfl (plainFor_of_name pn_28) (fun m => ef_arrChk_0_0 m (1 : Int32) (3 : Int32)) ?_
  intro p e s m below meth c s₁ Bd hml hZ hh hx hby hown X0 e0
  have N0 := Fr.nil n0
  refine own_iloadN X0.here hx hby d28_0 rfl ?_
  refine own_iloadN X0.here hx hby d28_1 rfl ?_
  refine own_icmpYes X0.here hx hby (pc' := 37) d28_2 (flt (show ¬ ((3 : Int32) < (1 : Int32)) from (by decide))).2.1 (by decide) (by decide) ?_
  obtain ⟨fs, hr, hrun, hended, hW, hsame⟩ := X0.leave (v := none) (fun _ => rfl)
  refine own_ret (t := s₁.setFrames fs) ?_ ⟨_, hrun, hended, _, _, rfl, ?_, ⟨_, rfl⟩, hW, hsame.mono (by decide) (by decide)⟩
  · exact X0.returnOut hx Bd.returns (hb hby d28_37) hr
  · show Q_arrChk_1_3 Z h0 n0 _ s₁.heap _
    rw [e0]
    exact ⟨rfl, N0, rfl⟩
def Q_crB_1_3_3 (Z : State) (t : Nat) (kt : ClassId) (u0 : Int32) (u1 : Int32) (u2 : Int32) (h0 : Heap) (n0 : Nat) (vR : Option Value) (hR : Heap) (LR : List Loc) : Prop := ∃ (r : Nat) (kr : ClassId), vR = some (.ref r) ∧ Fr n0 LR ∧ Keep h0 hR [] ∧ h0.size ≤ r ∧ (Arv Z hR r kr .byte (2 : Int32) [(.int u1), (.int u2)] (.int 0))
set_option maxRecDepth 65536 in
set_option maxHeartbeats 40000000 in
theorem crB_1_3_3 (l : Launch) (Z : State) (a0 : Array Value) (hw : ∀ d ∈ tables_1, d.before a0 Z = true) (ws : List Jvm.Cond) (t : Nat) (kt : ClassId) (u0 : Int32) (u1 : Int32) (u2 : Int32) (h0 : Heap) (n0 : Nat) (Z0 : n0 ≤ h0.size) (V_t : Arv Z h0 t kt .byte (3 : Int32) [(.int u0), (.int u1), (.int u2)] (.int 0)) :
    own_M l (⟨"java/util/Arrays", "copyOfRangeByte", "([BII)[B"⟩ : MethodName) jdk_65_method_133_code 5 (some (.array .byte)) ws ({ frames := 1, cells := 1, slots := 2, locals := 18 } : Room) Z #[(.ref t), (.int 1), (.int 3)] h0 (Q_crB_1_3_3 Z t kt u0 u1 u2 h0 n0) := by
  refine own_body (own := "java/util/Arrays") rfl (plainFor_of_name pn_27) (fun m => ef_crB_0_0_16 m t (1 : Int32) (3 : Int32)) ?_
  intro p e s m below meth c s₁ Bd hml hZ hh hx hby hown X0 e0
  have N0 := Fr.nil n0
  have lt3 : h0.size > t := V_t.lt
  refine own_iloadN X0.here hx hby d27_0 rfl ?_
  refine own_iloadN X0.here hx hby d27_1 rfl ?_
  refine own_callS X0 hx hZ hown (own_w hw 156 rfl) (own_w hw 157 rfl) (own_w hw 151 rfl) (own_w hw 158 rfl) (by decide) (arrChk_1_3 l Z a0 hw []  h0 n0 Z0 ) 0 (Nat.le_of_eq rfl) (by decide) (by decide) (by rw [hml]; rfl) (argsL := [(.int 1), (.int 3)]) (st := []) (lenOf pd_13 rfl) rfl rfl (by decide) (by decide) e0 hby d27_2 ?_
  intro T4 v4 L4 X4 hQ4
  obtain ⟨rfl, Nq4, eh4⟩ := hQ4
  have N4 := Fr.app N0 Nq4
  refine own_sh (T := T4) 5 #[.val (.ref t), .val (.int 1), .val (.int 3), .unset, .unset] [] ?_
  refine own_iloadN X4.here hx hby d27_5 rfl ?_
  refine own_iloadN X4.here hx hby d27_6 rfl ?_
  refine own_isub X4.here hx hby d27_7 (v := (2 : Int32)) (by decide) ?_
  refine own_istoreN X4.here hx hby d27_8 (l' := #[.val (.ref t), .val (.int 1), .val (.int 3), .val (.int 2), .unset]) rfl ?_
  refine own_iloadN X4.here hx hby d27_9 rfl ?_
  refine own_newP X4 hx hZ (aty := .byte) (own_w hw 4 rfl) eh4 hby d27_10 (by decide) 2 (by decide) (by decide) (by decide) (by decide) (ad := "[B") (by decide) ?_
  intro T5 h5 k5 b5 X5 e5 E5 g5 V5 C5 lt5
  have z6 : h0.size ≤ h5.size := E5.1
  have V7 : Arv Z h5 b5 k5 .byte (2 : Int32) [(.int 0), (.int 0)] (.int 0) := V5.pad (pad_rep [] (.int 0) 2)
  refine own_astore X5.here hx hby d27_12 rfl (l' := #[.val (.ref t), .val (.int 1), .val (.int 3), .val (.int 2), .val (.ref b5)]) rfl ?_
  refine own_aloadN X5.here hx hby d27_14 rfl rfl ?_
  refine own_iloadN X5.here hx hby d27_15 rfl ?_
  refine own_aload X5.here hx hby d27_16 rfl rfl ?_
  refine own_iconst X5.here hx hby d27_18 (v := (0 : Int32)) (by decide) ?_
  refine own_aloadN X5.here hx hby d27_19 rfl rfl ?_
  have f8 := (V_t.ext E5)
  refine own_alen X5 hx hZ e5 f8 hby d27_20 ?_
  refine own_iloadN X5.here hx hby d27_21 rfl ?_
  refine own_isub X5.here hx hby d27_22 (v := (2 : Int32)) (by decide) ?_
  refine own_iloadN X5.here hx hby d27_23 rfl ?_
  have z10 : n0 ≤ h5.size := by omega
  refine own_callS X5 hx hZ hown (own_w hw 159 rfl) (own_w hw 160 rfl) (own_w hw 161 rfl) (own_w hw 162 rfl) (by decide) (min_2_2 l Z a0 hw []  h5 n0 z10 ) 4 (Nat.le_of_eq rfl) (by decide) (by decide) (by rw [hml]; rfl) (argsL := [(.int 2), (.int 2)]) (st := [(.int 0), (.ref b5), (.int 1), (.ref t)]) (lenOf pd_14 rfl) rfl rfl (by decide) (by decide) e5 hby d27_24 ?_
  intro T9 v9 L9 X9 hQ9
  obtain ⟨rfl, Nq9, eh9⟩ := hQ9
  have N9 := Fr.app N4 Nq9
  refine own_sh (T := T9) 27 #[.val (.ref t), .val (.int 1), .val (.int 3), .val (.int 2), .val (.ref b5)] [(.int 2), (.int 0), (.ref b5), (.int 1), (.ref t)] ?_
  refine own_copyL X9 hx hZ hown (own_w hw 163 rfl) (own_w hw 119 rfl) (own_w hw 117 rfl) (own_w hw 118 rfl) eh9 f8 V7 (res := [(.int u1), (.int u2)]) rfl 1 0 2 (by decide) (by decide) (by decide) (by decide) (by decide) (by decide) (by decide) (by decide) (Nat.le_of_ble_eq_true rfl) rfl N9 (by omega) (by rw [hml]; rfl) hby d27_27 (by decide) 0 (Nat.le_of_eq rfl) (by decide) ?_
  intro T11 h11 lo11 X11 e11 N11 K11 V11 z11
  refine own_aload X11.here hx hby d27_30 rfl rfl ?_
  have K12 : Keep h0 h11 [] := (((Keep.refl h0 []).ext E5).trans K11 (allS (P := fun xq_ => xq_ ∈ [] ∨ h0.size ≤ xq_) (Or.inr (by omega)) all0))
  obtain ⟨fs, hr, hrun, hended, hW, hsame⟩ := X11.leave (v := some (.ref b5)) (fun h => by rw [Bd.returns] at h; cases h)
  refine own_ret (t := T11.setFrames fs) ?_ ⟨_, hrun, hended, _, _, rfl, ?_, ⟨_, rfl⟩, hW, hsame.mono (by decide) (by decide)⟩
  · exact retOut X11 hx Bd.returns rfl (Or.inr (Or.inr (Or.inr (Or.inr ⟨rfl, rfl, rfl⟩)))) (hb hby d27_32) hr
  · show Q_crB_1_3_3 Z _ _ _ _ _ h0 n0 _ T11.heap _
    rw [e11]
    exact ⟨b5, k5, rfl, N11, K12, (by omega), V11⟩
def Q_cr_1_3_3 (Z : State) (t : Nat) (kt : ClassId) (u0 : Int32) (u1 : Int32) (u2 : Int32) (h0 : Heap) (n0 : Nat) (vR : Option Value) (hR : Heap) (LR : List Loc) : Prop := ∃ (r : Nat) (kr : ClassId), vR = some (.ref r) ∧ Fr n0 LR ∧ Keep h0 hR [] ∧ h0.size ≤ r ∧ (Arv Z hR r kr .byte (2 : Int32) [(.int u1), (.int u2)] (.int 0))
set_option maxRecDepth 65536 in
set_option maxHeartbeats 40000000 in
theorem cr_1_3_3 (l : Launch) (Z : State) (a0 : Array Value) (hw : ∀ d ∈ tables_1, d.before a0 Z = true) (ws : List Jvm.Cond) (t : Nat) (kt : ClassId) (u0 : Int32) (u1 : Int32) (u2 : Int32) (h0 : Heap) (n0 : Nat) (Z0 : n0 ≤ h0.size) (V_t : Arv Z h0 t kt .byte (3 : Int32) [(.int u0), (.int u1), (.int u2)] (.int 0)) :
    own_M l (⟨"java/util/Arrays", "copyOfRange", "([BII)[B"⟩ : MethodName) jdk_65_method_132_code 3 (some (.array .byte)) ws ({ frames := 2, cells := 1, slots := 2, locals := 34 } : Room) Z #[(.ref t), (.int 1), (.int 3)] h0 (Q_cr_1_3_3 Z t kt u0 u1 u2 h0 n0) := by
  refine own_body (own := "java/util/Arrays") rfl (plainFor_of_name pn_26) (fun m => ef_cr_0_0_16 m t (1 : Int32) (3 : Int32)) ?_
  intro p e s m below meth c s₁ Bd hml hZ hh hx hby hown X0 e0
  have N0 := Fr.nil n0
  have lt3 : h0.size > t := V_t.lt
  refine own_iloadN X0.here hx hby d26_0 rfl ?_
  refine own_ifYes X0.here hx hby (pc' := 10) d26_1 ((if0 _ _).trans (feq (show ¬ ((1 : Int32) = (0 : Int32)) from (by decide))).2) (by decide) (by decide) ?_
  refine own_aloadN X0.here hx hby d26_10 rfl rfl ?_
  refine own_iloadN X0.here hx hby d26_11 rfl ?_
  refine own_iloadN X0.here hx hby d26_12 rfl ?_
  refine own_callS X0 hx hZ hown (own_w hw 153 rfl) (own_w hw 154 rfl) (own_w hw 151 rfl) (own_w hw 155 rfl) (by decide) (crB_1_3_3 l Z a0 hw [] t kt u0 u1 u2 h0 n0 Z0 V_t) 0 (Nat.le_of_eq rfl) (by decide) (by decide) (by rw [hml]; rfl) (argsL := [(.ref t), (.int 1), (.int 3)]) (st := []) (lenOf pd_15 rfl) rfl rfl (by decide) (by decide) e0 hby d26_13 ?_
  intro T4 v4 L4 X4 hQ4
  obtain ⟨r_4, kr_4, rfl, Nq4, K4, P4_0, P4_1⟩ := hQ4
  have N4 := Fr.app N0 Nq4
  have z5 : h0.size ≤ T4.heap.size := K4.1
  have lt6 : T4.heap.size > r_4 := P4_1.lt
  refine own_sh (T := T4) 16 #[.val (.ref t), .val (.int 1), .val (.int 3)] [(.ref r_4)] ?_
  have K7 : Keep h0 T4.heap [] := ((Keep.refl h0 []).trans K4 all0)
  obtain ⟨fs, hr, hrun, hended, hW, hsame⟩ := X4.leave (v := some (.ref r_4)) (fun h => by rw [Bd.returns] at h; cases h)
  refine own_ret (t := T4.setFrames fs) ?_ ⟨_, hrun, hended, _, _, rfl, ?_, ⟨_, rfl⟩, hW, hsame.mono (by decide) (by decide)⟩
  · exact retOut X4 hx Bd.returns rfl (Or.inr (Or.inr (Or.inr (Or.inr ⟨rfl, rfl, rfl⟩)))) (hb hby d26_16) hr
  · show Q_cr_1_3_3 Z _ _ _ _ _ h0 n0 _ T4.heap _
    exact ⟨r_4, kr_4, rfl, N4, K7, (by omega), P4_1⟩
theorem ef_bbInit (m : MethodId) (x0 : Nat) (x1 : Nat) (x2 : Int32) : entryFrame m #[(.ref x0), (.ref x1), (.int x2)] 3 = mkF m 0 #[.val (.ref x0), .val (.ref x1), .val (.int x2)] [] := by first | (simp [entryFrame, mkF, argsToLocals, Value.category]; done) | rfl
theorem pn_30 : plainName "java/lang/String" = true := by first | (simp [plainName, overriddenIn]; done) | decide +kernel
theorem d30_0 : decode jdk_42_method_151_code 0 = .ok (.aload_n 0, 1) := by decide +kernel
theorem d30_1 : decode jdk_42_method_151_code 1 = .ok (.invokespecial 1, 3) := by decide +kernel
theorem d30_4 : decode jdk_42_method_151_code 4 = .ok (.aload_n 0, 1) := by decide +kernel
theorem d30_5 : decode jdk_42_method_151_code 5 = .ok (.aload_n 1, 1) := by decide +kernel
theorem d30_6 : decode jdk_42_method_151_code 6 = .ok (.putfield 9, 3) := by decide +kernel
theorem d30_9 : decode jdk_42_method_151_code 9 = .ok (.aload_n 0, 1) := by decide +kernel
theorem d30_10 : decode jdk_42_method_151_code 10 = .ok (.iload_n 2, 1) := by decide +kernel
theorem d30_11 : decode jdk_42_method_151_code 11 = .ok (.putfield 15, 3) := by decide +kernel
theorem d30_14 : decode jdk_42_method_151_code 14 = .ok (.return_, 1) := by decide +kernel
def Q_bbInit (Z : State) (x : Nat) (t : Nat) (h0 : Heap) (n0 : Nat) (vR : Option Value) (hR : Heap) (LR : List Loc) : Prop := vR = none ∧ Fr n0 LR ∧ Keep h0 hR [x] ∧ (Exa Z hR x "java/lang/String") ∧ (Fld Z hR x "java/lang/String" "value" "[B" (.ref t)) ∧ (Fld Z hR x "java/lang/String" "coder" "B" (.int 0))
set_option maxRecDepth 65536 in
set_option maxHeartbeats 40000000 in
theorem bbInit (l : Launch) (Z : State) (a0 : Array Value) (hw : ∀ d ∈ tables_1, d.before a0 Z = true) (ws : List Jvm.Cond) (x : Nat) (t : Nat) (h0 : Heap) (n0 : Nat) (Z0 : n0 ≤ h0.size) (E_x : Exa Z h0 x "java/lang/String") (Fv_x : Fld Z h0 x "java/lang/String" "value" "[B" .null) (Fc_x : Fld Z h0 x "java/lang/String" "coder" "B" (.int 0)) (g_x : n0 ≤ x) :
    own_M l (⟨"java/lang/String", "<init>", "([BB)V"⟩ : MethodName) jdk_42_method_151_code 3 none ws ({ frames := 1, cells := 0, slots := 0, locals := 12 } : Room) Z #[(.ref x), (.ref t), (.int 0)] h0 (Q_bbInit Z x t h0 n0) := by
  refine own_body (own := "java/lang/String") rfl (plainFor_of_name pn_30) (fun m => ef_bbInit m x t (0 : Int32)) ?_
  intro p e s m below meth c s₁ Bd hml hZ hh hx hby hown X0 e0
  have N0 := Fr.nil n0
  have lt1 : h0.size > x := E_x.lt
  refine own_aloadN X0.here hx hby d30_0 rfl rfl ?_
  refine own_initO X0 hx hZ hown (own_w hw 17 rfl) (own_w hw 18 rfl) (own_w hw 19 rfl) e0 (by rw [hml]; rfl) hby d30_1 (by decide) 0 (Nat.le_of_eq rfl) (by decide) ?_
  intro T2 X2 e2
  refine own_aloadN X2.here hx hby d30_4 rfl rfl ?_
  refine own_aloadN X2.here hx hby d30_5 rfl rfl ?_
  refine own_putF X2 hx hZ (ty := (.array .byte)) hown (host := "") (Or.inl (own_w hw 32 rfl)) Via.refl e2 Fv_x E_x (Or.inr ⟨(own_w hw 5 rfl), rfl, (name_of_methodNamed Bd.named Bd.method).1⟩) (own_w hw 3 rfl) (by decide) rfl rfl hby d30_6 N0 g_x ?_
  intro T3 h3 lo3 X3 e3 N3 W3 F3 z3
  refine own_aloadN X3.here hx hby d30_9 rfl rfl ?_
  refine own_iloadN X3.here hx hby d30_10 rfl ?_
  have f4 := (E_x.wr W3)
  have f5 := (Fc_x.other W3 (Or.inr (slot_ne (Or.inr (own_w hw 6 rfl)) (Or.inr (own_w hw 5 rfl)) (by decide) (t := .byte) (t' := (.array .byte)) (by decide) (by decide))))
  refine own_putFN X3 hx hZ (ty := .byte) (v' := (.int 0)) hown (own_w hw 31 rfl) Via.refl e3 f5 f4 (Or.inr ⟨(own_w hw 6 rfl), rfl, (name_of_methodNamed Bd.named Bd.method).1⟩) (own_w hw 3 rfl) (by decide) rfl rfl hby d30_11 N3 g_x ?_
  intro T6 h6 lo6 X6 e6 N6 W6 F6 z6
  have K7 : Keep h0 h6 [x] := (((Keep.refl h0 [x]).wr W3 (Or.inl (List.mem_of_getElem? (i := 0) rfl))).wr W6 (Or.inl (List.mem_of_getElem? (i := 0) rfl)))
  have f8 := (f4.wr W6)
  have f9 := (F3.other W6 (Or.inr (slot_ne (Or.inr (own_w hw 5 rfl)) (Or.inr (own_w hw 6 rfl)) (by decide) (t := (.array .byte)) (t' := .byte) (by decide) (by decide))))
  obtain ⟨fs, hr, hrun, hended, hW, hsame⟩ := X6.leave (v := none) (fun _ => rfl)
  refine own_ret (t := T6.setFrames fs) ?_ ⟨_, hrun, hended, _, _, rfl, ?_, ⟨_, rfl⟩, hW, hsame.mono (by decide) (by decide)⟩
  · exact X6.returnOut hx Bd.returns (hb hby d30_14) hr
  · show Q_bbInit Z _ _ h0 n0 _ T6.heap _
    rw [e6]
    exact ⟨rfl, N6, K7, f8, f9, F6⟩
theorem d25_7 : decode jdk_43_method_47_code 7 = .ok (.new 1, 3) := by decide +kernel
theorem d25_10 : decode jdk_43_method_47_code 10 = .ok (.dup, 1) := by decide +kernel
theorem d25_11 : decode jdk_43_method_47_code 11 = .ok (.aload_n 0, 1) := by decide +kernel
theorem d25_12 : decode jdk_43_method_47_code 12 = .ok (.iload_n 1, 1) := by decide +kernel
theorem d25_13 : decode jdk_43_method_47_code 13 = .ok (.iload_n 1, 1) := by decide +kernel
theorem d25_14 : decode jdk_43_method_47_code 14 = .ok (.iload_n 2, 1) := by decide +kernel
theorem d25_15 : decode jdk_43_method_47_code 15 = .ok (.iadd, 1) := by decide +kernel
theorem d25_16 : decode jdk_43_method_47_code 16 = .ok (.invokestatic 232, 3) := by decide +kernel
theorem d25_19 : decode jdk_43_method_47_code 19 = .ok (.iconst 0, 1) := by decide +kernel
theorem d25_20 : decode jdk_43_method_47_code 20 = .ok (.invokespecial 112, 3) := by decide +kernel
theorem pd_22 : parseMethodDescriptor "([BB)V" = some ⟨[(.array .byte), .byte], none⟩ := by decide +kernel
theorem d25_23 : decode jdk_43_method_47_code 23 = .ok (.areturn, 1) := by decide +kernel
def Q_l1New_1_3 (Z : State) (t : Nat) (kt : ClassId) (u0 : Int32) (u1 : Int32) (u2 : Int32) (h0 : Heap) (n0 : Nat) (vR : Option Value) (hR : Heap) (LR : List Loc) : Prop := ∃ (r : Nat) (tr : Nat) (kr : ClassId), vR = some (.ref r) ∧ Fr n0 LR ∧ Keep h0 hR [] ∧ (Exa Z hR r "java/lang/String") ∧ (Fld Z hR r "java/lang/String" "coder" "B" (.int 0)) ∧ (Fld Z hR r "java/lang/String" "value" "[B" (.ref tr)) ∧ (Arv Z hR tr kr .byte (2 : Int32) [(.int u1), (.int u2)] (.int 0))
set_option maxRecDepth 65536 in
set_option maxHeartbeats 40000000 in
theorem l1New_1_3 (l : Launch) (Z : State) (a0 : Array Value) (hw : ∀ d ∈ tables_1, d.before a0 Z = true) (ws : List Jvm.Cond) (t : Nat) (kt : ClassId) (u0 : Int32) (u1 : Int32) (u2 : Int32) (h0 : Heap) (n0 : Nat) (Z0 : n0 ≤ h0.size) (V_t : Arv Z h0 t kt .byte (3 : Int32) [(.int u0), (.int u1), (.int u2)] (.int 0)) :
    own_M l (⟨"java/lang/StringLatin1", "newString", "([BII)Ljava/lang/String;"⟩ : MethodName) jdk_43_method_47_code 3 (some (.object "java/lang/String")) ws ({ frames := 3, cells := 2, slots := 6, locals := 50 } : Room) Z #[(.ref t), (.int 1), (.int 2)] h0 (Q_l1New_1_3 Z t kt u0 u1 u2 h0 n0) := by
  refine own_body (own := "java/lang/StringLatin1") rfl (plainFor_of_name pn_25) (fun m => ef_l1New_1_1 m t (1 : Int32) (2 : Int32)) ?_
  intro p e s m below meth c s₁ Bd hml hZ hh hx hby hown X0 e0
  have N0 := Fr.nil n0
  have lt3 : h0.size > t := V_t.lt
  refine own_iloadN X0.here hx hby d25_0 rfl ?_
  refine own_ifYes X0.here hx hby (pc' := 7) d25_1 ((if0 _ _).trans (feq (show ¬ ((2 : Int32) = (0 : Int32)) from (by decide))).2) (by decide) (by decide) ?_
  refine own_newO X0 hx hZ hown (own_w hw 148 rfl) (own_w hw 3 rfl) (own_w hw 2 rfl) e0 hby d25_7 (by decide) (by decide) ?_
  intro T4 h4 b4 X4 e4 E4 g4 A4 D4 lt4
  have z5 : h0.size ≤ h4.size := E4.1
  have F6 : Fld Z h4 b4 "java/lang/String" "value" "[B" .null := D4 (Or.inr (own_w hw 5 rfl)) (ty := (.array .byte)) (by decide)
  have F7 : Fld Z h4 b4 "java/lang/String" "coder" "B" (.int 0) := D4 (Or.inr (own_w hw 6 rfl)) (ty := .byte) (by decide)
  refine own_dup X4.here hx hby d25_10 rfl ?_
  refine own_aloadN X4.here hx hby d25_11 rfl rfl ?_
  refine own_iloadN X4.here hx hby d25_12 rfl ?_
  refine own_iloadN X4.here hx hby d25_13 rfl ?_
  refine own_iloadN X4.here hx hby d25_14 rfl ?_
  refine own_iadd X4.here hx hby d25_15 (v := (3 : Int32)) (by decide) ?_
  have f8 := (V_t.ext E4)
  have z10 : n0 ≤ h4.size := by omega
  refine own_callS X4 hx hZ hown (own_w hw 149 rfl) (own_w hw 150 rfl) (own_w hw 151 rfl) (own_w hw 152 rfl) (by decide) (cr_1_3_3 l Z a0 hw [] t kt u0 u1 u2 h4 n0 z10 f8) 2 (Nat.le_of_eq rfl) (by decide) (by decide) (by rw [hml]; rfl) (argsL := [(.ref t), (.int 1), (.int 3)]) (st := [(.ref b4), (.ref b4)]) (lenOf pd_15 rfl) rfl rfl (by decide) (by decide) e4 hby d25_16 ?_
  intro T9 v9 L9 X9 hQ9
  obtain ⟨r_9, kr_9, rfl, Nq9, K9, P9_0, P9_1⟩ := hQ9
  have N9 := Fr.app N0 Nq9
  have z11 : h4.size ≤ T9.heap.size := K9.1
  have lt12 : T9.heap.size > r_9 := P9_1.lt
  refine own_sh (T := T9) 19 #[.val (.ref t), .val (.int 1), .val (.int 2)] [(.ref r_9), (.ref b4), (.ref b4)] ?_
  refine own_iconst X9.here hx hby d25_19 (v := (0 : Int32)) (by decide) ?_
  have f13 := (A4.keep K9)
  have f14 := (F6.keep K9 nin0)
  have f15 := (F7.keep K9 nin0)
  have z17 : n0 ≤ T9.heap.size := by omega
  refine own_special X9 hx hZ rfl hown (own_w hw 164 rfl) (own_w hw 165 rfl) (own_w hw 2 rfl) (own_w hw 166 rfl) (by decide) (bbInit l Z a0 hw [] b4 r_9 T9.heap n0 z17 f13 f14 f15 (by omega)) 1 (Nat.le_of_eq rfl) (by decide) (by decide) (by rw [hml]; rfl) (argsL := [(.ref r_9), (.int 0)]) (st := [(.ref b4)]) (a := b4) (lenOf pd_22 rfl) rfl rfl (by decide) (by decide) rfl hby d25_20 ?_
  intro T16 v16 L16 X16 hQ16
  obtain ⟨rfl, Nq16, K16, P16_0, P16_1, P16_2⟩ := hQ16
  have N16 := Fr.app N9 Nq16
  have z18 : T9.heap.size ≤ T16.heap.size := K16.1
  have lt19 : T16.heap.size > b4 := P16_0.lt
  refine own_sh (T := T16) 23 #[.val (.ref t), .val (.int 1), .val (.int 2)] [(.ref b4)] ?_
  have K20 : Keep h0 T16.heap [] := ((((Keep.refl h0 []).ext E4).trans K9 all0).trans K16 (allS (P := fun xq_ => xq_ ∈ [] ∨ h0.size ≤ xq_) (Or.inr (by omega)) all0))
  have f21 := (P9_1.keep K16 (ninS (own_nn (by omega)) nin0))
  obtain ⟨fs, hr, hrun, hended, hW, hsame⟩ := X16.leave (v := some (.ref b4)) (fun h => by rw [Bd.returns] at h; cases h)
  refine own_ret (t := T16.setFrames fs) ?_ ⟨_, hrun, hended, _, _, rfl, ?_, ⟨_, rfl⟩, hW, hsame.mono (by decide) (by decide)⟩
  · exact retOut X16 hx Bd.returns rfl (Or.inr (Or.inr (Or.inr (Or.inr ⟨rfl, rfl, rfl⟩)))) (hb hby d25_23) hr
  · show Q_l1New_1_3 Z _ _ _ _ _ h0 n0 _ T16.heap _
    exact ⟨b4, r_9, kr_9, rfl, N16, K20, P16_0, P16_2, P16_1, f21⟩
def Q_strSub2_1_3 (Z : State) (x : Nat) (t : Nat) (kt : ClassId) (fm : Value) (zc : Int32) (u0 : Int32) (u1 : Int32) (u2 : Int32) (h0 : Heap) (n0 : Nat) (vR : Option Value) (hR : Heap) (LR : List Loc) : Prop := ∃ (r : Nat) (tr : Nat) (kr : ClassId), vR = some (.ref r) ∧ Fr n0 LR ∧ Keep h0 hR [] ∧ (Exa Z hR r "java/lang/String") ∧ (Fld Z hR r "java/lang/String" "coder" "B" (.int 0)) ∧ (Fld Z hR r "java/lang/String" "value" "[B" (.ref tr)) ∧ (Arv Z hR tr kr .byte (2 : Int32) [(.int u1), (.int u2)] (.int 0))
set_option maxRecDepth 65536 in
set_option maxHeartbeats 40000000 in
theorem strSub2_1_3 (l : Launch) (Z : State) (a0 : Array Value) (hw : ∀ d ∈ tables_1, d.before a0 Z = true) (ws : List Jvm.Cond) (x : Nat) (t : Nat) (kt : ClassId) (fm : Value) (zc : Int32) (u0 : Int32) (u1 : Int32) (u2 : Int32) (h0 : Heap) (n0 : Nat) (Z0 : n0 ≤ h0.size) (E_x : Exa Z h0 x "java/lang/String") (Fc_x : Fld Z h0 x "java/lang/String" "coder" "B" (.int 0)) (Fv_x : Fld Z h0 x "java/lang/String" "value" "[B" (.ref t)) (V_t : Arv Z h0 t kt .byte (3 : Int32) [(.int u0), (.int u1), (.int u2)] (.int 0)) (S_C : Sta Z h0 "java/lang/String" "COMPACT_STRINGS" "Z" (.int zc)) (hz : ¬ (zc = (0 : Int32))) (S_FM : Sta Z h0 "jdk/internal/util/Preconditions" "SIOOBE_FORMATTER" "Ljava/util/function/BiFunction;" fm) (hfm : fm.isRef = true) :
    own_M l (⟨"java/lang/String", "substring", "(II)Ljava/lang/String;"⟩ : MethodName) jdk_42_method_92_code 5 (some (.object "java/lang/String")) ws ({ frames := 4, cells := 2, slots := 6, locals := 64 } : Room) Z #[(.ref x), (.int 1), (.int 3)] h0 (Q_strSub2_1_3 Z x t kt fm zc u0 u1 u2 h0 n0) := by
  refine own_body (own := "java/lang/String") rfl (plainFor_of_name pn_21) (fun m => ef_strSub2_1_1 m x (1 : Int32) (3 : Int32)) ?_
  intro p e s m below meth c s₁ Bd hml hZ hh hx hby hown X0 e0
  have N0 := Fr.nil n0
  have lt3 : h0.size > x := E_x.lt
  have lt4 : h0.size > t := V_t.lt
  refine own_aloadN X0.here hx hby d21_0 rfl rfl ?_
  refine own_virtual X0 hx hZ hown (own_w hw 125 rfl) (own_w hw 84 rfl) (notFace_of_selects (args := #[]) (mvT hZ (own_w hw 86 rfl))) (own_w hw 86 rfl) (own_w hw 85 rfl) (own_w hw 2 rfl) (own_w hw 87 rfl) (by decide) (strLen_3 l Z a0 hw [] x t kt zc ([(.int u0), (.int u1), (.int u2)]) h0 n0 Z0 E_x Fc_x Fv_x V_t S_C hz) 0 (Nat.le_of_eq rfl) (by decide) (by decide) (by rw [hml]; rfl) (argsL := []) (st := []) E_x (lenOf pd_5 rfl) rfl rfl (by decide) (by decide) e0 hby d21_1 ?_
  intro T5 v5 L5 X5 hQ5
  obtain ⟨rfl, Nq5, eh5⟩ := hQ5
  have N5 := Fr.app N0 Nq5
  refine own_sh (T := T5) 4 #[.val (.ref x), .val (.int 1), .val (.int 3), .unset, .unset] [(.int 3)] ?_
  refine own_istoreN X5.here hx hby d21_4 (l' := #[.val (.ref x), .val (.int 1), .val (.int 3), .val (.int 3), .unset]) rfl ?_
  refine own_iloadN X5.here hx hby d21_5 rfl ?_
  refine own_iloadN X5.here hx hby d21_6 rfl ?_
  refine own_iloadN X5.here hx hby d21_7 rfl ?_
  refine own_callS X5 hx hZ hown (own_w hw 131 rfl) (own_w hw 132 rfl) (own_w hw 2 rfl) (own_w hw 133 rfl) (by decide) (strBE_1_3 l Z a0 hw [] fm h0 n0 Z0 S_FM hfm) 0 (Nat.le_of_eq rfl) (by decide) (by decide) (by rw [hml]; rfl) (argsL := [(.int 1), (.int 3), (.int 3)]) (st := []) (lenOf pd_9 rfl) rfl rfl (by decide) (by decide) eh5 hby d21_8 ?_
  intro T6 v6 L6 X6 hQ6
  obtain ⟨rfl, Nq6, eh6⟩ := hQ6
  have N6 := Fr.app N5 Nq6
  refine own_sh (T := T6) 11 #[.val (.ref x), .val (.int 1), .val (.int 3), .val (.int 3), .unset] [] ?_
  refine own_iloadN X6.here hx hby d21_11 rfl ?_
  refine own_ifYes X6.here hx hby (pc' := 22) d21_12 ((if0 _ _).trans (feq (show ¬ ((1 : Int32) = (0 : Int32)) from (by decide))).2) (by decide) (by decide) ?_
  refine own_iloadN X6.here hx hby d21_22 rfl ?_
  refine own_iloadN X6.here hx hby d21_23 rfl ?_
  refine own_isub X6.here hx hby d21_24 (v := (2 : Int32)) (by decide) ?_
  refine own_istore X6.here hx hby d21_25 (l' := #[.val (.ref x), .val (.int 1), .val (.int 3), .val (.int 3), .val (.int 2)]) rfl ?_
  refine own_aloadN X6.here hx hby d21_27 rfl rfl ?_
  refine own_virtual X6 hx hZ hown (own_w hw 139 rfl) (own_w hw 140 rfl) (notFace_of_selects (args := #[]) (mvT hZ (own_w hw 142 rfl))) (own_w hw 142 rfl) (own_w hw 141 rfl) (own_w hw 2 rfl) (own_w hw 143 rfl) (by decide) (strIsL l Z a0 hw [] x zc h0 n0 Z0 Fc_x S_C hz) 0 (Nat.le_of_eq rfl) (by decide) (by decide) (by rw [hml]; rfl) (argsL := []) (st := []) E_x (lenOf pd_10 rfl) rfl rfl (by decide) (by decide) eh6 hby d21_28 ?_
  intro T7 v7 L7 X7 hQ7
  obtain ⟨rfl, Nq7, eh7⟩ := hQ7
  have N7 := Fr.app N6 Nq7
  refine own_sh (T := T7) 31 #[.val (.ref x), .val (.int 1), .val (.int 3), .val (.int 3), .val (.int 2)] [(.int 1)] ?_
  refine own_ifNo X7.here hx hby d21_31 ((if0 _ _).trans (feq (show ¬ ((1 : Int32) = (0 : Int32)) from (by decide))).1) ?_
  refine own_aloadN X7.here hx hby d21_34 rfl rfl ?_
  refine own_getF X7 hx hZ hown (host := "") (Or.inl (own_w hw 32 rfl)) Via.refl eh7 Fv_x hby d21_35 ?_
  intro T8 X8 e8
  refine own_iloadN X8.here hx hby d21_38 rfl ?_
  refine own_iload X8.here hx hby d21_39 rfl ?_
  refine own_callS X8 hx hZ hown (own_w hw 144 rfl) (own_w hw 145 rfl) (own_w hw 146 rfl) (own_w hw 147 rfl) (by decide) (l1New_1_3 l Z a0 hw [] t kt u0 u1 u2 h0 n0 Z0 V_t) 0 (Nat.le_of_eq rfl) (by decide) (by decide) (by rw [hml]; rfl) (argsL := [(.ref t), (.int 1), (.int 2)]) (st := []) (lenOf pd_11 rfl) rfl rfl (by decide) (by decide) e8 hby d21_41 ?_
  intro T9 v9 L9 X9 hQ9
  obtain ⟨r_9, tr_9, kr_9, rfl, Nq9, K9, P9_0, P9_1, P9_2, P9_3⟩ := hQ9
  have N9 := Fr.app N7 Nq9
  have z10 : h0.size ≤ T9.heap.size := K9.1
  have lt11 : T9.heap.size > r_9 := P9_0.lt
  have lt12 : T9.heap.size > tr_9 := P9_3.lt
  refine own_sh (T := T9) 44 #[.val (.ref x), .val (.int 1), .val (.int 3), .val (.int 3), .val (.int 2)] [(.ref r_9)] ?_
  refine own_goto X9.here hx hby (pc' := 57) d21_44 (by decide) (by decide) ?_
  have K13 : Keep h0 T9.heap [] := ((Keep.refl h0 []).trans K9 all0)
  obtain ⟨fs, hr, hrun, hended, hW, hsame⟩ := X9.leave (v := some (.ref r_9)) (fun h => by rw [Bd.returns] at h; cases h)
  refine own_ret (t := T9.setFrames fs) ?_ ⟨_, hrun, hended, _, _, rfl, ?_, ⟨_, rfl⟩, hW, hsame.mono (by decide) (by decide)⟩
  · exact retOut X9 hx Bd.returns rfl (Or.inr (Or.inr (Or.inr (Or.inr ⟨rfl, rfl, rfl⟩)))) (hb hby d21_57) hr
  · show Q_strSub2_1_3 Z _ _ _ _ _ _ _ _ h0 n0 _ T9.heap _
    exact ⟨r_9, tr_9, kr_9, rfl, N9, K13, P9_0, P9_1, P9_2, P9_3⟩
def Q_strSub_1_3 (Z : State) (x : Nat) (t : Nat) (kt : ClassId) (fm : Value) (zc : Int32) (u0 : Int32) (u1 : Int32) (u2 : Int32) (h0 : Heap) (n0 : Nat) (vR : Option Value) (hR : Heap) (LR : List Loc) : Prop := ∃ (r : Nat) (tr : Nat) (kr : ClassId), vR = some (.ref r) ∧ Fr n0 LR ∧ Keep h0 hR [] ∧ (Exa Z hR r "java/lang/String") ∧ (Fld Z hR r "java/lang/String" "coder" "B" (.int 0)) ∧ (Fld Z hR r "java/lang/String" "value" "[B" (.ref tr)) ∧ (Arv Z hR tr kr .byte (2 : Int32) [(.int u1), (.int u2)] (.int 0))
set_option maxRecDepth 65536 in
set_option maxHeartbeats 40000000 in
theorem strSub_1_3 (l : Launch) (Z : State) (a0 : Array Value) (hw : ∀ d ∈ tables_1, d.before a0 Z = true) (ws : List Jvm.Cond) (x : Nat) (t : Nat) (kt : ClassId) (fm : Value) (zc : Int32) (u0 : Int32) (u1 : Int32) (u2 : Int32) (h0 : Heap) (n0 : Nat) (Z0 : n0 ≤ h0.size) (E_x : Exa Z h0 x "java/lang/String") (Fc_x : Fld Z h0 x "java/lang/String" "coder" "B" (.int 0)) (Fv_x : Fld Z h0 x "java/lang/String" "value" "[B" (.ref t)) (V_t : Arv Z h0 t kt .byte (3 : Int32) [(.int u0), (.int u1), (.int u2)] (.int 0)) (S_C : Sta Z h0 "java/lang/String" "COMPACT_STRINGS" "Z" (.int zc)) (hz : ¬ (zc = (0 : Int32))) (S_FM : Sta Z h0 "jdk/internal/util/Preconditions" "SIOOBE_FORMATTER" "Ljava/util/function/BiFunction;" fm) (hfm : fm.isRef = true) :
    own_M l (⟨"java/lang/String", "substring", "(I)Ljava/lang/String;"⟩ : MethodName) jdk_42_method_91_code 2 (some (.object "java/lang/String")) ws ({ frames := 5, cells := 2, slots := 6, locals := 80 } : Room) Z #[(.ref x), (.int 1)] h0 (Q_strSub_1_3 Z x t kt fm zc u0 u1 u2 h0 n0) := by
  refine own_body (own := "java/lang/String") rfl (plainFor_of_name pn_20) (fun m => ef_strSub_1_1 m x (1 : Int32)) ?_
  intro p e s m below meth c s₁ Bd hml hZ hh hx hby hown X0 e0
  have N0 := Fr.nil n0
  have lt3 : h0.size > x := E_x.lt
  have lt4 : h0.size > t := V_t.lt
  refine own_aloadN X0.here hx hby d20_0 rfl rfl ?_
  refine own_iloadN X0.here hx hby d20_1 rfl ?_
  refine own_aloadN X0.here hx hby d20_2 rfl rfl ?_
  refine own_virtual X0 hx hZ hown (own_w hw 125 rfl) (own_w hw 84 rfl) (notFace_of_selects (args := #[]) (mvT hZ (own_w hw 86 rfl))) (own_w hw 86 rfl) (own_w hw 85 rfl) (own_w hw 2 rfl) (own_w hw 87 rfl) (by decide) (strLen_3 l Z a0 hw [] x t kt zc ([(.int u0), (.int u1), (.int u2)]) h0 n0 Z0 E_x Fc_x Fv_x V_t S_C hz) 2 (Nat.le_of_eq rfl) (by decide) (by decide) (by rw [hml]; rfl) (argsL := []) (st := [(.int 1), (.ref x)]) E_x (lenOf pd_5 rfl) rfl rfl (by decide) (by decide) e0 hby d20_3 ?_
  intro T5 v5 L5 X5 hQ5
  obtain ⟨rfl, Nq5, eh5⟩ := hQ5
  have N5 := Fr.app N0 Nq5
  refine own_sh (T := T5) 6 #[.val (.ref x), .val (.int 1)] [(.int 3), (.int 1), (.ref x)] ?_
  refine own_virtual X5 hx hZ hown (own_w hw 126 rfl) (own_w hw 127 rfl) (notFace_of_selects (args := #[]) (mvT hZ (own_w hw 129 rfl))) (own_w hw 129 rfl) (own_w hw 128 rfl) (own_w hw 2 rfl) (own_w hw 130 rfl) (by decide) (strSub2_1_3 l Z a0 hw [] x t kt fm zc u0 u1 u2 h0 n0 Z0 E_x Fc_x Fv_x V_t S_C hz S_FM hfm) 0 (Nat.le_of_eq rfl) (by decide) (by decide) (by rw [hml]; rfl) (argsL := [(.int 1), (.int 3)]) (st := []) E_x (lenOf pd_12 rfl) rfl rfl (by decide) (by decide) eh5 hby d20_6 ?_
  intro T6 v6 L6 X6 hQ6
  obtain ⟨r_6, tr_6, kr_6, rfl, Nq6, K6, P6_0, P6_1, P6_2, P6_3⟩ := hQ6
  have N6 := Fr.app N5 Nq6
  have z7 : h0.size ≤ T6.heap.size := K6.1
  have lt8 : T6.heap.size > r_6 := P6_0.lt
  have lt9 : T6.heap.size > tr_6 := P6_3.lt
  refine own_sh (T := T6) 9 #[.val (.ref x), .val (.int 1)] [(.ref r_6)] ?_
  have K10 : Keep h0 T6.heap [] := ((Keep.refl h0 []).trans K6 all0)
  obtain ⟨fs, hr, hrun, hended, hW, hsame⟩ := X6.leave (v := some (.ref r_6)) (fun h => by rw [Bd.returns] at h; cases h)
  refine own_ret (t := T6.setFrames fs) ?_ ⟨_, hrun, hended, _, _, rfl, ?_, ⟨_, rfl⟩, hW, hsame.mono (by decide) (by decide)⟩
  · exact retOut X6 hx Bd.returns rfl (Or.inr (Or.inr (Or.inr (Or.inr ⟨rfl, rfl, rfl⟩)))) (hb hby d20_9) hr
  · show Q_strSub_1_3 Z _ _ _ _ _ _ _ _ h0 n0 _ T6.heap _
    exact ⟨r_6, tr_6, kr_6, rfl, N6, K10, P6_0, P6_1, P6_2, P6_3⟩
def Q_min_16_2 (Z : State)  (h0 : Heap) (n0 : Nat) (vR : Option Value) (hR : Heap) (LR : List Loc) : Prop := vR = some (.int 2) ∧ Fr n0 LR ∧ hR = h0
set_option maxRecDepth 65536 in
set_option maxHeartbeats 40000000 in
theorem min_16_2 (l : Launch) (Z : State) (a0 : Array Value) (hw : ∀ d ∈ tables_1, d.before a0 Z = true) (ws : List Jvm.Cond)  (h0 : Heap) (n0 : Nat) (Z0 : n0 ≤ h0.size)  :
    own_M l (⟨"java/lang/Math", "min", "(II)I"⟩ : MethodName) jdk_29_method_69_code 2 (some .int) ws ({ frames := 0, cells := 0, slots := 0, locals := 0 } : Room) Z #[(.int 16), (.int 2)] h0 (Q_min_16_2 Z  h0 n0) := by
  refine own_body (own := "java/lang/Math") rfl (Jvm.Free.JP.mathPlain rfl (by decide +kernel)) (fun m => ef_min_16_0 m (16 : Int32) (2 : Int32)) ?_
  intro p e s m below meth c s₁ Bd hml hZ hh hx hby hown X0 e0
  have N0 := Fr.nil n0
  refine own_iloadN X0.here hx hby d29_0 rfl ?_
  refine own_iloadN X0.here hx hby d29_1 rfl ?_
  refine own_icmpYes X0.here hx hby (pc' := 9) d29_2 (tlt (show (2 : Int32) < (16 : Int32) from (by decide))).2.2.1 (by decide) (by decide) ?_
  refine own_iloadN X0.here hx hby d29_9 rfl ?_
  obtain ⟨fs, hr, hrun, hended, hW, hsame⟩ := X0.leave (v := some (.int 2)) (fun h => by rw [Bd.returns] at h; cases h)
  refine own_ret (t := s₁.setFrames fs) ?_ ⟨_, hrun, hended, _, _, rfl, ?_, ⟨_, rfl⟩, hW, hsame.mono (by decide) (by decide)⟩
  · exact retOut X0 hx Bd.returns rfl (Or.inl ⟨rfl, Or.inl rfl, _, rfl⟩) (hb hby d29_10) hr
  · show Q_min_16_2 Z h0 n0 _ s₁.heap _
    rw [e0]
    exact ⟨rfl, N0, rfl⟩
def Q_arrChk_0_2 (Z : State)  (h0 : Heap) (n0 : Nat) (vR : Option Value) (hR : Heap) (LR : List Loc) : Prop := vR = none ∧ Fr n0 LR ∧ hR = h0
set_option maxRecDepth 65536 in
set_option maxHeartbeats 40000000 in
theorem arrChk_0_2 (l : Launch) (Z : State) (a0 : Array Value) (hw : ∀ d ∈ tables_1, d.before a0 Z = true) (ws : List Jvm.Cond)  (h0 : Heap) (n0 : Nat) (Z0 : n0 ≤ h0.size)  :
    own_M l (⟨"java/util/Arrays", "checkLength", "(II)V"⟩ : MethodName) jdk_65_method_131_code 2 none ws ({ frames := 0, cells := 0, slots := 0, locals := 0 } : Room) Z #[(.int 0), (.int 2)] h0 (Q_arrChk_0_2 Z  h0 n0) := by
  refine own_body (own := "java/util/Arrays") rfl (plainFor_of_name pn_28) (fun m => ef_arrChk_0_0 m (0 : Int32) (2 : Int32)) ?_
  intro p e s m below meth c s₁ Bd hml hZ hh hx hby hown X0 e0
  have N0 := Fr.nil n0
  refine own_iloadN X0.here hx hby d28_0 rfl ?_
  refine own_iloadN X0.here hx hby d28_1 rfl ?_
  refine own_icmpYes X0.here hx hby (pc' := 37) d28_2 (flt (show ¬ ((2 : Int32) < (0 : Int32)) from (by decide))).2.1 (by decide) (by decide) ?_
  obtain ⟨fs, hr, hrun, hended, hW, hsame⟩ := X0.leave (v := none) (fun _ => rfl)
  refine own_ret (t := s₁.setFrames fs) ?_ ⟨_, hrun, hended, _, _, rfl, ?_, ⟨_, rfl⟩, hW, hsame.mono (by decide) (by decide)⟩
  · exact X0.returnOut hx Bd.returns (hb hby d28_37) hr
  · show Q_arrChk_0_2 Z h0 n0 _ s₁.heap _
    rw [e0]
    exact ⟨rfl, N0, rfl⟩
def Q_crB_0_2_16 (Z : State) (t : Nat) (kt : ClassId) (u0 : Int32) (u1 : Int32) (h0 : Heap) (n0 : Nat) (vR : Option Value) (hR : Heap) (LR : List Loc) : Prop := ∃ (r : Nat) (kr : ClassId), vR = some (.ref r) ∧ Fr n0 LR ∧ Keep h0 hR [] ∧ h0.size ≤ r ∧ (Arv Z hR r kr .byte (2 : Int32) [(.int u0), (.int u1)] (.int 0))
set_option maxRecDepth 65536 in
set_option maxHeartbeats 40000000 in
theorem crB_0_2_16 (l : Launch) (Z : State) (a0 : Array Value) (hw : ∀ d ∈ tables_1, d.before a0 Z = true) (ws : List Jvm.Cond) (t : Nat) (kt : ClassId) (u0 : Int32) (u1 : Int32) (h0 : Heap) (n0 : Nat) (Z0 : n0 ≤ h0.size) (V_t : Arv Z h0 t kt .byte (16 : Int32) [(.int u0), (.int u1), (.int 0), (.int 0), (.int 0), (.int 0), (.int 0), (.int 0), (.int 0), (.int 0), (.int 0), (.int 0), (.int 0), (.int 0), (.int 0), (.int 0)] (.int 0)) :
    own_M l (⟨"java/util/Arrays", "copyOfRangeByte", "([BII)[B"⟩ : MethodName) jdk_65_method_133_code 5 (some (.array .byte)) ws ({ frames := 1, cells := 1, slots := 2, locals := 18 } : Room) Z #[(.ref t), (.int 0), (.int 2)] h0 (Q_crB_0_2_16 Z t kt u0 u1 h0 n0) := by
  refine own_body (own := "java/util/Arrays") rfl (plainFor_of_name pn_27) (fun m => ef_crB_0_0_16 m t (0 : Int32) (2 : Int32)) ?_
  intro p e s m below meth c s₁ Bd hml hZ hh hx hby hown X0 e0
  have N0 := Fr.nil n0
  have lt2 : h0.size > t := V_t.lt
  refine own_iloadN X0.here hx hby d27_0 rfl ?_
  refine own_iloadN X0.here hx hby d27_1 rfl ?_
  refine own_callS X0 hx hZ hown (own_w hw 156 rfl) (own_w hw 157 rfl) (own_w hw 151 rfl) (own_w hw 158 rfl) (by decide) (arrChk_0_2 l Z a0 hw []  h0 n0 Z0 ) 0 (Nat.le_of_eq rfl) (by decide) (by decide) (by rw [hml]; rfl) (argsL := [(.int 0), (.int 2)]) (st := []) (lenOf pd_13 rfl) rfl rfl (by decide) (by decide) e0 hby d27_2 ?_
  intro T3 v3 L3 X3 hQ3
  obtain ⟨rfl, Nq3, eh3⟩ := hQ3
  have N3 := Fr.app N0 Nq3
  refine own_sh (T := T3) 5 #[.val (.ref t), .val (.int 0), .val (.int 2), .unset, .unset] [] ?_
  refine own_iloadN X3.here hx hby d27_5 rfl ?_
  refine own_iloadN X3.here hx hby d27_6 rfl ?_
  refine own_isub X3.here hx hby d27_7 (v := (2 : Int32)) (by decide) ?_
  refine own_istoreN X3.here hx hby d27_8 (l' := #[.val (.ref t), .val (.int 0), .val (.int 2), .val (.int 2), .unset]) rfl ?_
  refine own_iloadN X3.here hx hby d27_9 rfl ?_
  refine own_newP X3 hx hZ (aty := .byte) (own_w hw 4 rfl) eh3 hby d27_10 (by decide) 2 (by decide) (by decide) (by decide) (by decide) (ad := "[B") (by decide) ?_
  intro T4 h4 k4 b4 X4 e4 E4 g4 V4 C4 lt4
  have z5 : h0.size ≤ h4.size := E4.1
  have V6 : Arv Z h4 b4 k4 .byte (2 : Int32) [(.int 0), (.int 0)] (.int 0) := V4.pad (pad_rep [] (.int 0) 2)
  refine own_astore X4.here hx hby d27_12 rfl (l' := #[.val (.ref t), .val (.int 0), .val (.int 2), .val (.int 2), .val (.ref b4)]) rfl ?_
  refine own_aloadN X4.here hx hby d27_14 rfl rfl ?_
  refine own_iloadN X4.here hx hby d27_15 rfl ?_
  refine own_aload X4.here hx hby d27_16 rfl rfl ?_
  refine own_iconst X4.here hx hby d27_18 (v := (0 : Int32)) (by decide) ?_
  refine own_aloadN X4.here hx hby d27_19 rfl rfl ?_
  have f7 := (V_t.ext E4)
  refine own_alen X4 hx hZ e4 f7 hby d27_20 ?_
  refine own_iloadN X4.here hx hby d27_21 rfl ?_
  refine own_isub X4.here hx hby d27_22 (v := (16 : Int32)) (by decide) ?_
  refine own_iloadN X4.here hx hby d27_23 rfl ?_
  have z9 : n0 ≤ h4.size := by omega
  refine own_callS X4 hx hZ hown (own_w hw 159 rfl) (own_w hw 160 rfl) (own_w hw 161 rfl) (own_w hw 162 rfl) (by decide) (min_16_2 l Z a0 hw []  h4 n0 z9 ) 4 (Nat.le_of_eq rfl) (by decide) (by decide) (by rw [hml]; rfl) (argsL := [(.int 16), (.int 2)]) (st := [(.int 0), (.ref b4), (.int 0), (.ref t)]) (lenOf pd_14 rfl) rfl rfl (by decide) (by decide) e4 hby d27_24 ?_
  intro T8 v8 L8 X8 hQ8
  obtain ⟨rfl, Nq8, eh8⟩ := hQ8
  have N8 := Fr.app N3 Nq8
  refine own_sh (T := T8) 27 #[.val (.ref t), .val (.int 0), .val (.int 2), .val (.int 2), .val (.ref b4)] [(.int 2), (.int 0), (.ref b4), (.int 0), (.ref t)] ?_
  refine own_copyL X8 hx hZ hown (own_w hw 163 rfl) (own_w hw 119 rfl) (own_w hw 117 rfl) (own_w hw 118 rfl) eh8 f7 V6 (res := [(.int u0), (.int u1)]) rfl 0 0 2 (by decide) (by decide) (by decide) (by decide) (by decide) (by decide) (by decide) (by decide) (Nat.le_of_ble_eq_true rfl) rfl N8 (by omega) (by rw [hml]; rfl) hby d27_27 (by decide) 0 (Nat.le_of_eq rfl) (by decide) ?_
  intro T10 h10 lo10 X10 e10 N10 K10 V10 z10
  refine own_aload X10.here hx hby d27_30 rfl rfl ?_
  have K11 : Keep h0 h10 [] := (((Keep.refl h0 []).ext E4).trans K10 (allS (P := fun xq_ => xq_ ∈ [] ∨ h0.size ≤ xq_) (Or.inr (by omega)) all0))
  obtain ⟨fs, hr, hrun, hended, hW, hsame⟩ := X10.leave (v := some (.ref b4)) (fun h => by rw [Bd.returns] at h; cases h)
  refine own_ret (t := T10.setFrames fs) ?_ ⟨_, hrun, hended, _, _, rfl, ?_, ⟨_, rfl⟩, hW, hsame.mono (by decide) (by decide)⟩
  · exact retOut X10 hx Bd.returns rfl (Or.inr (Or.inr (Or.inr (Or.inr ⟨rfl, rfl, rfl⟩)))) (hb hby d27_32) hr
  · show Q_crB_0_2_16 Z _ _ _ _ h0 n0 _ T10.heap _
    rw [e10]
    exact ⟨b4, k4, rfl, N10, K11, (by omega), V10⟩
def Q_cr_0_2_16 (Z : State) (t : Nat) (kt : ClassId) (u0 : Int32) (u1 : Int32) (h0 : Heap) (n0 : Nat) (vR : Option Value) (hR : Heap) (LR : List Loc) : Prop := ∃ (r : Nat) (kr : ClassId), vR = some (.ref r) ∧ Fr n0 LR ∧ Keep h0 hR [] ∧ h0.size ≤ r ∧ (Arv Z hR r kr .byte (2 : Int32) [(.int u0), (.int u1)] (.int 0))
set_option maxRecDepth 65536 in
set_option maxHeartbeats 40000000 in
theorem cr_0_2_16 (l : Launch) (Z : State) (a0 : Array Value) (hw : ∀ d ∈ tables_1, d.before a0 Z = true) (ws : List Jvm.Cond) (t : Nat) (kt : ClassId) (u0 : Int32) (u1 : Int32) (h0 : Heap) (n0 : Nat) (Z0 : n0 ≤ h0.size) (V_t : Arv Z h0 t kt .byte (16 : Int32) [(.int u0), (.int u1), (.int 0), (.int 0), (.int 0), (.int 0), (.int 0), (.int 0), (.int 0), (.int 0), (.int 0), (.int 0), (.int 0), (.int 0), (.int 0), (.int 0)] (.int 0)) :
    own_M l (⟨"java/util/Arrays", "copyOfRange", "([BII)[B"⟩ : MethodName) jdk_65_method_132_code 3 (some (.array .byte)) ws ({ frames := 2, cells := 1, slots := 2, locals := 34 } : Room) Z #[(.ref t), (.int 0), (.int 2)] h0 (Q_cr_0_2_16 Z t kt u0 u1 h0 n0) := by
  refine own_body (own := "java/util/Arrays") rfl (plainFor_of_name pn_26) (fun m => ef_cr_0_0_16 m t (0 : Int32) (2 : Int32)) ?_
  intro p e s m below meth c s₁ Bd hml hZ hh hx hby hown X0 e0
  have N0 := Fr.nil n0
  have lt2 : h0.size > t := V_t.lt
  refine own_iloadN X0.here hx hby d26_0 rfl ?_
  refine own_ifNo X0.here hx hby d26_1 ((if0 _ _).trans (teq (show (0 : Int32) = (0 : Int32) from (by decide))).2) ?_
  refine own_iloadN X0.here hx hby d26_4 rfl ?_
  refine own_aloadN X0.here hx hby d26_5 rfl rfl ?_
  refine own_alen X0 hx hZ e0 V_t hby d26_6 ?_
  refine own_icmpNo X0.here hx hby d26_7 (feq (show ¬ ((2 : Int32) = (16 : Int32)) from (by decide))).1 ?_
  refine own_aloadN X0.here hx hby d26_10 rfl rfl ?_
  refine own_iloadN X0.here hx hby d26_11 rfl ?_
  refine own_iloadN X0.here hx hby d26_12 rfl ?_
  refine own_callS X0 hx hZ hown (own_w hw 153 rfl) (own_w hw 154 rfl) (own_w hw 151 rfl) (own_w hw 155 rfl) (by decide) (crB_0_2_16 l Z a0 hw [] t kt u0 u1 h0 n0 Z0 V_t) 0 (Nat.le_of_eq rfl) (by decide) (by decide) (by rw [hml]; rfl) (argsL := [(.ref t), (.int 0), (.int 2)]) (st := []) (lenOf pd_15 rfl) rfl rfl (by decide) (by decide) e0 hby d26_13 ?_
  intro T3 v3 L3 X3 hQ3
  obtain ⟨r_3, kr_3, rfl, Nq3, K3, P3_0, P3_1⟩ := hQ3
  have N3 := Fr.app N0 Nq3
  have z4 : h0.size ≤ T3.heap.size := K3.1
  have lt5 : T3.heap.size > r_3 := P3_1.lt
  refine own_sh (T := T3) 16 #[.val (.ref t), .val (.int 0), .val (.int 2)] [(.ref r_3)] ?_
  have K6 : Keep h0 T3.heap [] := ((Keep.refl h0 []).trans K3 all0)
  obtain ⟨fs, hr, hrun, hended, hW, hsame⟩ := X3.leave (v := some (.ref r_3)) (fun h => by rw [Bd.returns] at h; cases h)
  refine own_ret (t := T3.setFrames fs) ?_ ⟨_, hrun, hended, _, _, rfl, ?_, ⟨_, rfl⟩, hW, hsame.mono (by decide) (by decide)⟩
  · exact retOut X3 hx Bd.returns rfl (Or.inr (Or.inr (Or.inr (Or.inr ⟨rfl, rfl, rfl⟩)))) (hb hby d26_16) hr
  · show Q_cr_0_2_16 Z _ _ _ _ h0 n0 _ T3.heap _
    exact ⟨r_3, kr_3, rfl, N3, K6, (by omega), P3_1⟩
def Q_asbLen_2 (Z : State) (sb : Nat) (h0 : Heap) (n0 : Nat) (vR : Option Value) (hR : Heap) (LR : List Loc) : Prop := vR = some (.int 2) ∧ Fr n0 LR ∧ hR = h0
set_option maxRecDepth 65536 in
set_option maxHeartbeats 40000000 in
theorem asbLen_2 (l : Launch) (Z : State) (a0 : Array Value) (hw : ∀ d ∈ tables_1, d.before a0 Z = true) (ws : List Jvm.Cond) (sb : Nat) (h0 : Heap) (n0 : Nat) (Z0 : n0 ≤ h0.size) (F_count_sb : Fld Z h0 sb "java/lang/AbstractStringBuilder" "count" "I" (.int 2)) :
    own_M l (⟨"java/lang/AbstractStringBuilder", "length", "()I"⟩ : MethodName) jdk_68_method_6_code 1 (some .int) ws ({ frames := 0, cells := 0, slots := 0, locals := 0 } : Room) Z #[(.ref sb)] h0 (Q_asbLen_2 Z sb h0 n0) := by
  refine own_body (own := "java/lang/AbstractStringBuilder") rfl (plainFor_of_name pn_36) (fun m => ef_asbLen_0 m sb) ?_
  intro p e s m below meth c s₁ Bd hml hZ hh hx hby hown X0 e0
  have N0 := Fr.nil n0
  have lt1 : h0.size > sb := F_count_sb.lt
  refine own_aloadN X0.here hx hby d36_0 rfl rfl ?_
  refine own_getF X0 hx hZ hown (host := "") (Or.inl (own_w hw 93 rfl)) Via.refl e0 F_count_sb hby d36_1 ?_
  intro T2 X2 e2
  obtain ⟨fs, hr, hrun, hended, hW, hsame⟩ := X2.leave (v := some (.int 2)) (fun h => by rw [Bd.returns] at h; cases h)
  refine own_ret (t := T2.setFrames fs) ?_ ⟨_, hrun, hended, _, _, rfl, ?_, ⟨_, rfl⟩, hW, hsame.mono (by decide) (by decide)⟩
  · exact retOut X2 hx Bd.returns rfl (Or.inl ⟨rfl, Or.inl rfl, _, rfl⟩) (hb hby d36_4) hr
  · show Q_asbLen_2 Z _ h0 n0 _ T2.heap _
    rw [e2]
    exact ⟨rfl, N0, rfl⟩
def Q_sbLen_2 (Z : State) (sb : Nat) (h0 : Heap) (n0 : Nat) (vR : Option Value) (hR : Heap) (LR : List Loc) : Prop := vR = some (.int 2) ∧ Fr n0 LR ∧ hR = h0
set_option maxRecDepth 65536 in
set_option maxHeartbeats 40000000 in
theorem sbLen_2 (l : Launch) (Z : State) (a0 : Array Value) (hw : ∀ d ∈ tables_1, d.before a0 Z = true) (ws : List Jvm.Cond) (sb : Nat) (h0 : Heap) (n0 : Nat) (Z0 : n0 ≤ h0.size) (E_sb : Exa Z h0 sb "java/lang/StringBuilder") (F_count_sb : Fld Z h0 sb "java/lang/AbstractStringBuilder" "count" "I" (.int 2)) :
    own_M l (⟨"java/lang/StringBuilder", "length", "()I"⟩ : MethodName) jdk_67_method_93_code 1 (some .int) ws ({ frames := 1, cells := 0, slots := 0, locals := 12 } : Room) Z #[(.ref sb)] h0 (Q_sbLen_2 Z sb h0 n0) := by
  refine own_body (own := "java/lang/StringBuilder") rfl (plainFor_of_name pn_35) (fun m => ef_sbLen_0 m sb) ?_
  intro p e s m below meth c s₁ Bd hml hZ hh hx hby hown X0 e0
  have N0 := Fr.nil n0
  have lt1 : h0.size > sb := E_sb.lt
  refine own_aloadN X0.here hx hby d35_0 rfl rfl ?_
  refine own_super X0 hx hZ (by decide) hown (own_w hw 190 rfl) (own_sameM (y := (⟨"java/lang/AbstractStringBuilder", "length", "()I"⟩ : MethodName)) (y' := (⟨"java/lang/AbstractStringBuilder", "ensureCapacityInternal", "(I)V"⟩ : MethodName)) rfl (own_w hw 186 rfl) (own_w hw 98 rfl) (by decide)) (own_w hw 186 rfl) (own_w hw 80 rfl) (own_w hw 65 rfl) (own_w hw 191 rfl) (asbLen_2 l Z a0 hw [] sb h0 n0 Z0 F_count_sb) 0 (Nat.le_of_eq rfl) (by decide) (by decide) (by rw [hml]; rfl) (argsL := []) (st := []) E_sb (lenOf pd_5 rfl) rfl rfl (by decide) (by decide) e0 hby d35_1 ?_
  intro T2 v2 L2 X2 hQ2
  obtain ⟨rfl, Nq2, eh2⟩ := hQ2
  have N2 := Fr.app N0 Nq2
  refine own_sh (T := T2) 4 #[.val (.ref sb)] [(.int 2)] ?_
  obtain ⟨fs, hr, hrun, hended, hW, hsame⟩ := X2.leave (v := some (.int 2)) (fun h => by rw [Bd.returns] at h; cases h)
  refine own_ret (t := T2.setFrames fs) ?_ ⟨_, hrun, hended, _, _, rfl, ?_, ⟨_, rfl⟩, hW, hsame.mono (by decide) (by decide)⟩
  · exact retOut X2 hx Bd.returns rfl (Or.inl ⟨rfl, Or.inl rfl, _, rfl⟩) (hb hby d35_4) hr
  · show Q_sbLen_2 Z _ h0 n0 _ T2.heap _
    rw [eh2]
    exact ⟨rfl, N2, rfl⟩
def Q_strOfA_2 (Z : State) (x : Nat) (sb : Nat) (b : Nat) (kb : ClassId) (zc : Int32) (w0 : Int32) (w1 : Int32) (h0 : Heap) (n0 : Nat) (vR : Option Value) (hR : Heap) (LR : List Loc) : Prop := ∃ (t : Nat) (kt : ClassId), vR = none ∧ Fr n0 LR ∧ Keep h0 hR [x] ∧ h0.size ≤ t ∧ (Exa Z hR x "java/lang/String") ∧ (Fld Z hR x "java/lang/String" "coder" "B" (.int 0)) ∧ (Fld Z hR x "java/lang/String" "value" "[B" (.ref t)) ∧ (Arv Z hR t kt .byte (2 : Int32) [(.int w0), (.int w1)] (.int 0))
set_option maxRecDepth 65536 in
set_option maxHeartbeats 40000000 in
theorem strOfA_2 (l : Launch) (Z : State) (a0 : Array Value) (hw : ∀ d ∈ tables_1, d.before a0 Z = true) (ws : List Jvm.Cond) (x : Nat) (sb : Nat) (b : Nat) (kb : ClassId) (zc : Int32) (w0 : Int32) (w1 : Int32) (h0 : Heap) (n0 : Nat) (Z0 : n0 ≤ h0.size) (E_x : Exa Z h0 x "java/lang/String") (g_x : n0 ≤ x) (Fv_x : Fld Z h0 x "java/lang/String" "value" "[B" .null) (Fc_x : Fld Z h0 x "java/lang/String" "coder" "B" (.int 0)) (E_sb : Exa Z h0 sb "java/lang/StringBuilder") (F_value_sb : Fld Z h0 sb "java/lang/AbstractStringBuilder" "value" "[B" (.ref b)) (F_coder_sb : Fld Z h0 sb "java/lang/AbstractStringBuilder" "coder" "B" (.int 0)) (F_count_sb : Fld Z h0 sb "java/lang/AbstractStringBuilder" "count" "I" (.int 2)) (V_b : Arv Z h0 b kb .byte (16 : Int32) [(.int w0), (.int w1), (.int 0), (.int 0), (.int 0), (.int 0), (.int 0), (.int 0), (.int 0), (.int 0), (.int 0), (.int 0), (.int 0), (.int 0), (.int 0), (.int 0)] (.int 0)) (S_C : Sta Z h0 "java/lang/String" "COMPACT_STRINGS" "Z" (.int zc)) (hz : ¬ (zc = (0 : Int32))) :
    own_M l (⟨"java/lang/String", "<init>", "(Ljava/lang/AbstractStringBuilder;Ljava/lang/Void;)V"⟩ : MethodName) jdk_42_method_150_code 5 none ws ({ frames := 3, cells := 1, slots := 2, locals := 49 } : Room) Z #[(.ref x), (.ref sb), .null] h0 (Q_strOfA_2 Z x sb b kb zc w0 w1 h0 n0) := by
  refine own_body (own := "java/lang/String") rfl (plainFor_of_name pn_33) (fun m => ef_strOfA_0 m x sb) ?_
  intro p e s m below meth c s₁ Bd hml hZ hh hx hby hown X0 e0
  have N0 := Fr.nil n0
  have lt2 : h0.size > x := E_x.lt
  have lt3 : h0.size > sb := E_sb.lt
  have lt4 : h0.size > b := V_b.lt
  refine own_aloadN X0.here hx hby d33_0 rfl rfl ?_
  refine own_initO X0 hx hZ hown (own_w hw 17 rfl) (own_w hw 18 rfl) (own_w hw 19 rfl) e0 (by rw [hml]; rfl) hby d33_1 (by decide) 0 (Nat.le_of_eq rfl) (by decide) ?_
  intro T5 X5 e5
  refine own_aloadN X5.here hx hby d33_4 rfl rfl ?_
  refine own_virtual X5 hx hZ hown (own_w hw 179 rfl) (own_w hw 180 rfl) (notFace_of_selects (args := #[]) (mvT hZ (own_w hw 182 rfl))) (own_w hw 182 rfl) (own_w hw 181 rfl) (own_w hw 65 rfl) (own_w hw 183 rfl) (by decide) (asbVal l Z a0 hw [] sb b h0 n0 Z0 F_value_sb) 0 (Nat.le_of_eq rfl) (by decide) (by decide) (by rw [hml]; rfl) (argsL := []) (st := []) E_sb (lenOf pd_16 rfl) rfl rfl (by decide) (by decide) e5 hby d33_5 ?_
  intro T6 v6 L6 X6 hQ6
  obtain ⟨rfl, Nq6, eh6⟩ := hQ6
  have N6 := Fr.app N0 Nq6
  refine own_sh (T := T6) 8 #[.val (.ref x), .val (.ref sb), .val .null, .unset, .unset] [(.ref b)] ?_
  refine own_astoreN X6.here hx hby d33_8 rfl (l' := #[.val (.ref x), .val (.ref sb), .val .null, .val (.ref b), .unset]) rfl ?_
  refine own_aloadN X6.here hx hby d33_9 rfl rfl ?_
  refine own_virtual X6 hx hZ hown (own_w hw 184 rfl) (own_w hw 185 rfl) (own_notFace (args := #[]) (y := (⟨"java/lang/AbstractStringBuilder", "length", "()I"⟩ : MethodName)) (y' := (⟨"java/lang/AbstractStringBuilder", "ensureCapacityInternal", "(I)V"⟩ : MethodName)) rfl (mvT hZ (own_w hw 98 rfl))) (own_w hw 187 rfl) (own_w hw 188 rfl) (own_w hw 57 rfl) (own_w hw 189 rfl) (by decide) (sbLen_2 l Z a0 hw [] sb h0 n0 Z0 E_sb F_count_sb) 0 (Nat.le_of_eq rfl) (by decide) (by decide) (by rw [hml]; rfl) (argsL := []) (st := []) E_sb (lenOf pd_5 rfl) rfl rfl (by decide) (by decide) eh6 hby d33_10 ?_
  intro T7 v7 L7 X7 hQ7
  obtain ⟨rfl, Nq7, eh7⟩ := hQ7
  have N7 := Fr.app N6 Nq7
  refine own_sh (T := T7) 13 #[.val (.ref x), .val (.ref sb), .val .null, .val (.ref b), .unset] [(.int 2)] ?_
  refine own_istore X7.here hx hby d33_13 (l' := #[.val (.ref x), .val (.ref sb), .val .null, .val (.ref b), .val (.int 2)]) rfl ?_
  refine own_aloadN X7.here hx hby d33_15 rfl rfl ?_
  refine own_virtual X7 hx hZ hown (own_w hw 192 rfl) (own_w hw 193 rfl) (notFace_of_selects (args := #[]) (mvT hZ (own_w hw 195 rfl))) (own_w hw 195 rfl) (own_w hw 194 rfl) (own_w hw 65 rfl) (own_w hw 196 rfl) (by decide) (asbIsL l Z a0 hw [] sb zc h0 n0 Z0 F_coder_sb S_C hz) 0 (Nat.le_of_eq rfl) (by decide) (by decide) (by rw [hml]; rfl) (argsL := []) (st := []) E_sb (lenOf pd_10 rfl) rfl rfl (by decide) (by decide) eh7 hby d33_16 ?_
  intro T8 v8 L8 X8 hQ8
  obtain ⟨rfl, Nq8, eh8⟩ := hQ8
  have N8 := Fr.app N7 Nq8
  refine own_sh (T := T8) 19 #[.val (.ref x), .val (.ref sb), .val .null, .val (.ref b), .val (.int 2)] [(.int 1)] ?_
  refine own_ifNo X8.here hx hby d33_19 ((if0 _ _).trans (feq (show ¬ ((1 : Int32) = (0 : Int32)) from (by decide))).1) ?_
  refine own_aloadN X8.here hx hby d33_22 rfl rfl ?_
  refine own_iconst X8.here hx hby d33_23 (v := (0 : Int32)) (by decide) ?_
  refine own_putFN X8 hx hZ (ty := .byte) (v' := (.int 0)) hown (own_w hw 31 rfl) Via.refl eh8 Fc_x E_x (Or.inr ⟨(own_w hw 6 rfl), rfl, (name_of_methodNamed Bd.named Bd.method).1⟩) (own_w hw 3 rfl) (by decide) rfl rfl hby d33_24 N8 g_x ?_
  intro T9 h9 lo9 X9 e9 N9 W9 F9 z9
  refine own_aloadN X9.here hx hby d33_27 rfl rfl ?_
  refine own_aloadN X9.here hx hby d33_28 rfl rfl ?_
  refine own_iconst X9.here hx hby d33_29 (v := (0 : Int32)) (by decide) ?_
  refine own_iload X9.here hx hby d33_30 rfl ?_
  have f10 := (V_b.other W9 (Ne.symm (own_ne_oa E_x (own_w hw 3 rfl) V_b)))
  have z12 : n0 ≤ h9.size := by omega
  refine own_callS X9 hx hZ hown (own_w hw 197 rfl) (own_w hw 150 rfl) (own_w hw 151 rfl) (own_w hw 152 rfl) (by decide) (cr_0_2_16 l Z a0 hw [] b kb w0 w1 h9 n0 z12 f10) 1 (Nat.le_of_eq rfl) (by decide) (by decide) (by rw [hml]; rfl) (argsL := [(.ref b), (.int 0), (.int 2)]) (st := [(.ref x)]) (lenOf pd_15 rfl) rfl rfl (by decide) (by decide) e9 hby d33_32 ?_
  intro T11 v11 L11 X11 hQ11
  obtain ⟨r_11, kr_11, rfl, Nq11, K11, P11_0, P11_1⟩ := hQ11
  have N11 := Fr.app N9 Nq11
  have z13 : h9.size ≤ T11.heap.size := K11.1
  have lt14 : T11.heap.size > r_11 := P11_1.lt
  refine own_sh (T := T11) 35 #[.val (.ref x), .val (.ref sb), .val .null, .val (.ref b), .val (.int 2)] [(.ref r_11), (.ref x)] ?_
  have f15 := ((E_x.wr W9).keep K11)
  have f16 := ((Fv_x.other W9 (Or.inr (slot_ne (Or.inr (own_w hw 5 rfl)) (Or.inr (own_w hw 6 rfl)) (by decide) (t := (.array .byte)) (t' := .byte) (by decide) (by decide)))).keep K11 nin0)
  refine own_putF X11 hx hZ (ty := (.array .byte)) hown (host := "") (Or.inl (own_w hw 32 rfl)) Via.refl rfl f16 f15 (Or.inr ⟨(own_w hw 5 rfl), rfl, (name_of_methodNamed Bd.named Bd.method).1⟩) (own_w hw 3 rfl) (by decide) rfl rfl hby d33_35 N11 g_x ?_
  intro T17 h17 lo17 X17 e17 N17 W17 F17 z17
  refine own_goto X17.here hx hby (pc' := 97) d33_38 (by decide) (by decide) ?_
  have K18 : Keep h0 h17 [x] := ((((Keep.refl h0 [x]).wr W9 (Or.inl (List.mem_of_getElem? (i := 0) rfl))).trans K11 all0).wr W17 (Or.inl (List.mem_of_getElem? (i := 0) rfl)))
  have f19 := (f15.wr W17)
  have f20 := ((F9.keep K11 nin0).other W17 (Or.inr (slot_ne (Or.inr (own_w hw 6 rfl)) (Or.inr (own_w hw 5 rfl)) (by decide) (t := .byte) (t' := (.array .byte)) (by decide) (by decide))))
  have f21 := (P11_1.other W17 (own_nn (by omega)))
  obtain ⟨fs, hr, hrun, hended, hW, hsame⟩ := X17.leave (v := none) (fun _ => rfl)
  refine own_ret (t := T17.setFrames fs) ?_ ⟨_, hrun, hended, _, _, rfl, ?_, ⟨_, rfl⟩, hW, hsame.mono (by decide) (by decide)⟩
  · exact X17.returnOut hx Bd.returns (hb hby d33_97) hr
  · show Q_strOfA_2 Z _ _ _ _ _ _ _ h0 n0 _ T17.heap _
    rw [e17]
    exact ⟨r_11, kr_11, rfl, N17, K18, (by omega), f19, f20, F17, f21⟩
def Q_strOfB_2 (Z : State) (x : Nat) (sb : Nat) (b : Nat) (kb : ClassId) (zc : Int32) (w0 : Int32) (w1 : Int32) (h0 : Heap) (n0 : Nat) (vR : Option Value) (hR : Heap) (LR : List Loc) : Prop := ∃ (t : Nat) (kt : ClassId), vR = none ∧ Fr n0 LR ∧ Keep h0 hR [x] ∧ h0.size ≤ t ∧ (Exa Z hR x "java/lang/String") ∧ (Fld Z hR x "java/lang/String" "coder" "B" (.int 0)) ∧ (Fld Z hR x "java/lang/String" "value" "[B" (.ref t)) ∧ (Arv Z hR t kt .byte (2 : Int32) [(.int w0), (.int w1)] (.int 0))
set_option maxRecDepth 65536 in
set_option maxHeartbeats 40000000 in
theorem strOfB_2 (l : Launch) (Z : State) (a0 : Array Value) (hw : ∀ d ∈ tables_1, d.before a0 Z = true) (ws : List Jvm.Cond) (x : Nat) (sb : Nat) (b : Nat) (kb : ClassId) (zc : Int32) (w0 : Int32) (w1 : Int32) (h0 : Heap) (n0 : Nat) (Z0 : n0 ≤ h0.size) (E_x : Exa Z h0 x "java/lang/String") (g_x : n0 ≤ x) (Fv_x : Fld Z h0 x "java/lang/String" "value" "[B" .null) (Fc_x : Fld Z h0 x "java/lang/String" "coder" "B" (.int 0)) (E_sb : Exa Z h0 sb "java/lang/StringBuilder") (F_value_sb : Fld Z h0 sb "java/lang/AbstractStringBuilder" "value" "[B" (.ref b)) (F_coder_sb : Fld Z h0 sb "java/lang/AbstractStringBuilder" "coder" "B" (.int 0)) (F_count_sb : Fld Z h0 sb "java/lang/AbstractStringBuilder" "count" "I" (.int 2)) (V_b : Arv Z h0 b kb .byte (16 : Int32) [(.int w0), (.int w1), (.int 0), (.int 0), (.int 0), (.int 0), (.int 0), (.int 0), (.int 0), (.int 0), (.int 0), (.int 0), (.int 0), (.int 0), (.int 0), (.int 0)] (.int 0)) (S_C : Sta Z h0 "java/lang/String" "COMPACT_STRINGS" "Z" (.int zc)) (hz : ¬ (zc = (0 : Int32))) :
    own_M l (⟨"java/lang/String", "<init>", "(Ljava/lang/StringBuilder;)V"⟩ : MethodName) jdk_42_method_53_code 2 none ws ({ frames := 4, cells := 1, slots := 2, locals := 65 } : Room) Z #[(.ref x), (.ref sb)] h0 (Q_strOfB_2 Z x sb b kb zc w0 w1 h0 n0) := by
  refine own_body (own := "java/lang/String") rfl (plainFor_of_name pn_32) (fun m => ef_strOfB_0 m x sb) ?_
  intro p e s m below meth c s₁ Bd hml hZ hh hx hby hown X0 e0
  have N0 := Fr.nil n0
  have lt2 : h0.size > x := E_x.lt
  have lt3 : h0.size > sb := E_sb.lt
  have lt4 : h0.size > b := V_b.lt
  refine own_aloadN X0.here hx hby d32_0 rfl rfl ?_
  refine own_aloadN X0.here hx hby d32_1 rfl rfl ?_
  refine own_aconstNull X0.here hx hby d32_2 ?_
  refine own_special X0 hx hZ rfl hown (own_w hw 176 rfl) (own_w hw 177 rfl) (own_w hw 2 rfl) (own_w hw 178 rfl) (by decide) (strOfA_2 l Z a0 hw [] x sb b kb zc w0 w1 h0 n0 Z0 E_x g_x Fv_x Fc_x E_sb F_value_sb F_coder_sb F_count_sb V_b S_C hz) 0 (Nat.le_of_eq rfl) (by decide) (by decide) (by rw [hml]; rfl) (argsL := [(.ref sb), .null]) (st := []) (a := x) (lenOf pd_17 rfl) rfl rfl (by decide) (by decide) e0 hby d32_3 ?_
  intro T5 v5 L5 X5 hQ5
  obtain ⟨t_5, kt_5, rfl, Nq5, K5, P5_0, P5_1, P5_2, P5_3, P5_4⟩ := hQ5
  have N5 := Fr.app N0 Nq5
  have z6 : h0.size ≤ T5.heap.size := K5.1
  have lt7 : T5.heap.size > x := P5_1.lt
  have lt8 : T5.heap.size > t_5 := P5_4.lt
  refine own_sh (T := T5) 6 #[.val (.ref x), .val (.ref sb)] [] ?_
  have K9 : Keep h0 T5.heap [x] := ((Keep.refl h0 [x]).trans K5 (allS (P := fun xq_ => xq_ ∈ [x] ∨ h0.size ≤ xq_) (Or.inl (List.mem_of_getElem? (i := 0) rfl)) all0))
  obtain ⟨fs, hr, hrun, hended, hW, hsame⟩ := X5.leave (v := none) (fun _ => rfl)
  refine own_ret (t := T5.setFrames fs) ?_ ⟨_, hrun, hended, _, _, rfl, ?_, ⟨_, rfl⟩, hW, hsame.mono (by decide) (by decide)⟩
  · exact X5.returnOut hx Bd.returns (hb hby d32_6) hr
  · show Q_strOfB_2 Z _ _ _ _ _ _ _ h0 n0 _ T5.heap _
    exact ⟨t_5, kt_5, rfl, N5, K9, (by omega), P5_1, P5_2, P5_3, P5_4⟩
def Q_sbStr_2 (Z : State) (sb : Nat) (b : Nat) (kb : ClassId) (zc : Int32) (w0 : Int32) (w1 : Int32) (h0 : Heap) (n0 : Nat) (vR : Option Value) (hR : Heap) (LR : List Loc) : Prop := ∃ (x : Nat) (t : Nat) (kt : ClassId), vR = some (.ref x) ∧ Fr n0 LR ∧ Keep h0 hR [] ∧ h0.size ≤ x ∧ (Exa Z hR x "java/lang/String") ∧ (Fld Z hR x "java/lang/String" "coder" "B" (.int 0)) ∧ (Fld Z hR x "java/lang/String" "value" "[B" (.ref t)) ∧ (Arv Z hR t kt .byte (2 : Int32) [(.int w0), (.int w1)] (.int 0))
set_option maxRecDepth 65536 in
set_option maxHeartbeats 40000000 in
theorem sbStr_2 (l : Launch) (Z : State) (a0 : Array Value) (hw : ∀ d ∈ tables_1, d.before a0 Z = true) (ws : List Jvm.Cond) (sb : Nat) (b : Nat) (kb : ClassId) (zc : Int32) (w0 : Int32) (w1 : Int32) (h0 : Heap) (n0 : Nat) (Z0 : n0 ≤ h0.size) (E_sb : Exa Z h0 sb "java/lang/StringBuilder") (F_value_sb : Fld Z h0 sb "java/lang/AbstractStringBuilder" "value" "[B" (.ref b)) (F_coder_sb : Fld Z h0 sb "java/lang/AbstractStringBuilder" "coder" "B" (.int 0)) (F_count_sb : Fld Z h0 sb "java/lang/AbstractStringBuilder" "count" "I" (.int 2)) (V_b : Arv Z h0 b kb .byte (16 : Int32) [(.int w0), (.int w1), (.int 0), (.int 0), (.int 0), (.int 0), (.int 0), (.int 0), (.int 0), (.int 0), (.int 0), (.int 0), (.int 0), (.int 0), (.int 0), (.int 0)] (.int 0)) (S_C : Sta Z h0 "java/lang/String" "COMPACT_STRINGS" "Z" (.int zc)) (hz : ¬ (zc = (0 : Int32))) :
    own_M l (⟨"java/lang/StringBuilder", "toString", "()Ljava/lang/String;"⟩ : MethodName) jdk_67_method_42_code 1 (some (.object "java/lang/String")) ws ({ frames := 5, cells := 2, slots := 6, locals := 79 } : Room) Z #[(.ref sb)] h0 (Q_sbStr_2 Z sb b kb zc w0 w1 h0 n0) := by
  refine own_body (own := "java/lang/StringBuilder") rfl (plainFor_of_name pn_31) (fun m => ef_sbStr_0 m sb) ?_
  intro p e s m below meth c s₁ Bd hml hZ hh hx hby hown X0 e0
  have N0 := Fr.nil n0
  have lt2 : h0.size > sb := E_sb.lt
  have lt3 : h0.size > b := V_b.lt
  refine own_newO X0 hx hZ hown (own_w hw 172 rfl) (own_w hw 3 rfl) (own_w hw 2 rfl) e0 hby d31_0 (by decide) (by decide) ?_
  intro T4 h4 b4 X4 e4 E4 g4 A4 D4 lt4
  have z5 : h0.size ≤ h4.size := E4.1
  have F6 : Fld Z h4 b4 "java/lang/String" "value" "[B" .null := D4 (Or.inr (own_w hw 5 rfl)) (ty := (.array .byte)) (by decide)
  have F7 : Fld Z h4 b4 "java/lang/String" "coder" "B" (.int 0) := D4 (Or.inr (own_w hw 6 rfl)) (ty := .byte) (by decide)
  refine own_dup X4.here hx hby d31_3 rfl ?_
  refine own_aloadN X4.here hx hby d31_4 rfl rfl ?_
  have f8 := (E_sb.ext E4)
  have f9 := (F_value_sb.ext E4)
  have f10 := (F_coder_sb.ext E4)
  have f11 := (F_count_sb.ext E4)
  have f12 := (V_b.ext E4)
  have f13 := (S_C.ext E4)
  have z15 : n0 ≤ h4.size := by omega
  refine own_special X4 hx hZ rfl hown (own_w hw 173 rfl) (own_w hw 174 rfl) (own_w hw 2 rfl) (own_w hw 175 rfl) (by decide) (strOfB_2 l Z a0 hw [] b4 sb b kb zc w0 w1 h4 n0 z15 A4 (by omega) F6 F7 f8 f9 f10 f11 f12 f13 hz) 1 (Nat.le_of_eq rfl) (by decide) (by decide) (by rw [hml]; rfl) (argsL := [(.ref sb)]) (st := [(.ref b4)]) (a := b4) (lenOf pd_18 rfl) rfl rfl (by decide) (by decide) e4 hby d31_5 ?_
  intro T14 v14 L14 X14 hQ14
  obtain ⟨t_14, kt_14, rfl, Nq14, K14, P14_0, P14_1, P14_2, P14_3, P14_4⟩ := hQ14
  have N14 := Fr.app N0 Nq14
  have z16 : h4.size ≤ T14.heap.size := K14.1
  have lt17 : T14.heap.size > b4 := P14_1.lt
  have lt18 : T14.heap.size > t_14 := P14_4.lt
  refine own_sh (T := T14) 8 #[.val (.ref sb)] [(.ref b4)] ?_
  have K19 : Keep h0 T14.heap [] := (((Keep.refl h0 []).ext E4).trans K14 (allS (P := fun xq_ => xq_ ∈ [] ∨ h0.size ≤ xq_) (Or.inr (by omega)) all0))
  obtain ⟨fs, hr, hrun, hended, hW, hsame⟩ := X14.leave (v := some (.ref b4)) (fun h => by rw [Bd.returns] at h; cases h)
  refine own_ret (t := T14.setFrames fs) ?_ ⟨_, hrun, hended, _, _, rfl, ?_, ⟨_, rfl⟩, hW, hsame.mono (by decide) (by decide)⟩
  · exact retOut X14 hx Bd.returns rfl (Or.inr (Or.inr (Or.inr (Or.inr ⟨rfl, rfl, rfl⟩)))) (hb hby d31_8) hr
  · show Q_sbStr_2 Z _ _ _ _ _ _ h0 n0 _ T14.heap _
    exact ⟨b4, t_14, kt_14, rfl, N14, K19, (by omega), P14_1, P14_2, P14_3, P14_4⟩
def Q_uriOf_0_3 (Z : State) (u : Nat) (x : Nat) (t : Nat) (y : Nat) (ty : Nat) (kt : ClassId) (ky : ClassId) (fm : Value) (zc : Int32) (u0 : Int32) (u1 : Int32) (u2 : Int32) (h0 : Heap) (n0 : Nat) (vR : Option Value) (hR : Heap) (LR : List Loc) : Prop := ∃ (r : Nat) (tr : Nat) (kr : ClassId), vR = some (.ref r) ∧ Fr n0 LR ∧ Keep h0 hR [] ∧ h0.size ≤ r ∧ (Exa Z hR r "java/lang/String") ∧ (Fld Z hR r "java/lang/String" "coder" "B" (.int 0)) ∧ (Fld Z hR r "java/lang/String" "value" "[B" (.ref tr)) ∧ (Arv Z hR tr kr .byte (2 : Int32) [(.int u1), (.int u2)] (.int 0))
set_option maxRecDepth 65536 in
set_option maxHeartbeats 40000000 in
theorem uriOf_0_3 (l : Launch) (Z : State) (a0 : Array Value) (hw : ∀ d ∈ tables_1, d.before a0 Z = true) (ws : List Jvm.Cond) (u : Nat) (x : Nat) (t : Nat) (y : Nat) (ty : Nat) (kt : ClassId) (ky : ClassId) (fm : Value) (zc : Int32) (u0 : Int32) (u1 : Int32) (u2 : Int32) (h0 : Heap) (n0 : Nat) (Z0 : n0 ≤ h0.size) (E_u : Exa Z h0 u "com/example/undercroft/undercroft/store/UriSpace") (F_prefix_u : Fld Z h0 u "com/example/undercroft/undercroft/store/UriSpace" "prefix" "Ljava/lang/String;" (.ref x)) (E_x : Exa Z h0 x "java/lang/String") (Fc_x : Fld Z h0 x "java/lang/String" "coder" "B" (.int 0)) (Fv_x : Fld Z h0 x "java/lang/String" "value" "[B" (.ref t)) (V_t : Arv Z h0 t kt .byte (0 : Int32) [] (.int 0)) (E_y : Exa Z h0 y "java/lang/String") (Fc_y : Fld Z h0 y "java/lang/String" "coder" "B" (.int 0)) (Fv_y : Fld Z h0 y "java/lang/String" "value" "[B" (.ref ty)) (V_ty : Arv Z h0 ty ky .byte (3 : Int32) [(.int u0), (.int u1), (.int u2)] (.int 0)) (S_C : Sta Z h0 "java/lang/String" "COMPACT_STRINGS" "Z" (.int zc)) (hz : ¬ (zc = (0 : Int32))) (S_FM : Sta Z h0 "jdk/internal/util/Preconditions" "SIOOBE_FORMATTER" "Ljava/util/function/BiFunction;" fm) (hfm : fm.isRef = true) :
    own_M l (⟨"com/example/undercroft/undercroft/store/UriSpace", "uriOfPath", "(Ljava/lang/String;)Ljava/lang/String;"⟩ : MethodName) prog_21_method_8_code 2 (some (.object "java/lang/String")) ws ({ frames := 6, cells := 6, slots := 32, locals := 94 } : Room) Z #[(.ref u), (.ref y)] h0 (Q_uriOf_0_3 Z u x t y ty kt ky fm zc u0 u1 u2 h0 n0) := by
  refine own_body (own := "com/example/undercroft/undercroft/store/UriSpace") rfl (plainFor_of_name pn_9) (fun m => ef_uriOf_0_1 m u y) ?_
  intro p e s m below meth c s₁ Bd hml hZ hh hx hby hown X0 e0
  have N0 := Fr.nil n0
  have lt3 : h0.size > u := E_u.lt
  have lt4 : h0.size > x := E_x.lt
  have lt5 : h0.size > t := V_t.lt
  have lt6 : h0.size > y := E_y.lt
  have lt7 : h0.size > ty := V_ty.lt
  refine own_newO X0 hx hZ hown (own_w hw 55 rfl) (own_w hw 56 rfl) (own_w hw 57 rfl) e0 hby d9_0 (by decide) (by decide) ?_
  intro T8 h8 b8 X8 e8 E8 g8 A8 D8 lt8
  have z9 : h0.size ≤ h8.size := E8.1
  have F10 : Fld Z h8 b8 "java/lang/AbstractStringBuilder" "value" "[B" .null := D8 (Or.inl (own_w hw 70 rfl)) (ty := (.array .byte)) (by decide)
  have F11 : Fld Z h8 b8 "java/lang/AbstractStringBuilder" "coder" "B" (.int 0) := D8 (Or.inl (own_w hw 72 rfl)) (ty := .byte) (by decide)
  have F12 : Fld Z h8 b8 "java/lang/AbstractStringBuilder" "count" "I" (.int 0) := D8 (Or.inl (own_w hw 94 rfl)) (ty := .int) (by decide)
  refine own_dup X8.here hx hby d9_3 rfl ?_
  have f13 := (S_C.ext E8)
  have z15 : n0 ≤ h8.size := by omega
  refine own_special X8 hx hZ rfl hown (own_w hw 58 rfl) (own_w hw 59 rfl) (own_w hw 57 rfl) (own_w hw 60 rfl) (by decide) (sbInit l Z a0 hw [] b8 zc h8 n0 z15 A8 (by omega) F10 F11 F12 f13 hz) 1 (Nat.le_of_eq rfl) (by decide) (by decide) (by rw [hml]; rfl) (argsL := []) (st := [(.ref b8)]) (a := b8) (lenOf pd_0 rfl) rfl rfl (by decide) (by decide) e8 hby d9_4 ?_
  intro T14 v14 L14 X14 hQ14
  obtain ⟨b_14, kb_14, rfl, Nq14, K14, P14_0, P14_1, P14_2, P14_3, P14_4, P14_5⟩ := hQ14
  have N14 := Fr.app N0 Nq14
  have z16 : h8.size ≤ T14.heap.size := K14.1
  have lt17 : T14.heap.size > b8 := P14_0.lt
  have lt18 : T14.heap.size > b_14 := P14_5.lt
  refine own_sh (T := T14) 7 #[.val (.ref u), .val (.ref y)] [(.ref b8)] ?_
  refine own_aloadN X14.here hx hby d9_7 rfl rfl ?_
  have f19 := ((F_prefix_u.ext E8).keep K14 (ninS (own_nn (by omega)) nin0))
  refine own_getF X14 hx hZ hown (host := "") (Or.inl (own_w hw 46 rfl)) Via.refl rfl f19 hby d9_8 ?_
  intro T20 X20 e20
  have f21 := ((E_x.ext E8).keep K14)
  have f22 := ((Fc_x.ext E8).keep K14 (ninS (own_nn (by omega)) nin0))
  have f23 := ((Fv_x.ext E8).keep K14 (ninS (own_nn (by omega)) nin0))
  have f24 := ((V_t.ext E8).keep K14 (ninS (own_nn (by omega)) nin0))
  have f25 := (own_sta_keep f13 K14 (allS (own_exa_plain A8) all0))
  have z27 : n0 ≤ T14.heap.size := by omega
  refine own_virtual X20 hx hZ hown (own_w hw 73 rfl) (own_w hw 74 rfl) (notFace_of_selects (args := #[]) (mvT hZ (own_w hw 76 rfl))) (own_w hw 76 rfl) (own_w hw 75 rfl) (own_w hw 57 rfl) (own_w hw 77 rfl) (by decide) (sbApp_0_0 l Z a0 hw [] b8 b_14 x t kb_14 kt zc T14.heap n0 z27 P14_0 P14_1 P14_2 P14_5 f21 f22 f23 f24 (by omega) f25 hz (by omega) P14_3) 0 (Nat.le_of_eq rfl) (by decide) (by decide) (by rw [hml]; rfl) (argsL := [(.ref x)]) (st := []) P14_0 (lenOf pd_19 rfl) rfl rfl (by decide) (by decide) e20 hby d9_11 ?_
  intro T26 v26 L26 X26 hQ26
  obtain ⟨rfl, Nq26, K26, P26_0, P26_1, P26_2, P26_3, P26_4⟩ := hQ26
  have N26 := Fr.app N14 Nq26
  have z28 : T14.heap.size ≤ T26.heap.size := K26.1
  have lt29 : T26.heap.size > b8 := P26_0.lt
  have lt30 : T26.heap.size > b_14 := P26_4.lt
  refine own_sh (T := T26) 14 #[.val (.ref u), .val (.ref y)] [(.ref b8)] ?_
  refine own_aloadN X26.here hx hby d9_14 rfl rfl ?_
  refine own_iconst X26.here hx hby d9_15 (v := (1 : Int32)) (by decide) ?_
  have f31 := (((E_y.ext E8).keep K14).keep K26)
  have f32 := (((Fc_y.ext E8).keep K14 (ninS (own_nn (by omega)) nin0)).keep K26 (ninS (own_nn (by omega)) (ninS (own_nn (by omega)) nin0)))
  have f33 := (((Fv_y.ext E8).keep K14 (ninS (own_nn (by omega)) nin0)).keep K26 (ninS (own_nn (by omega)) (ninS (own_nn (by omega)) nin0)))
  have f34 := (((V_ty.ext E8).keep K14 (ninS (own_nn (by omega)) nin0)).keep K26 (ninS (own_nn (by omega)) (ninS (own_nn (by omega)) nin0)))
  have f35 := (own_sta_keep f25 K26 (allS (own_exa_plain P14_0) (allS (own_arv_plain P14_5) all0)))
  have f36 := (own_sta_keep (own_sta_keep (S_FM.ext E8) K14 (allS (own_exa_plain A8) all0)) K26 (allS (own_exa_plain P14_0) (allS (own_arv_plain P14_5) all0)))
  have z38 : n0 ≤ T26.heap.size := by omega
  refine own_virtual X26 hx hZ hown (own_w hw 120 rfl) (own_w hw 121 rfl) (notFace_of_selects (args := #[]) (mvT hZ (own_w hw 123 rfl))) (own_w hw 123 rfl) (own_w hw 122 rfl) (own_w hw 2 rfl) (own_w hw 124 rfl) (by decide) (strSub_1_3 l Z a0 hw [] y ty ky fm zc u0 u1 u2 T26.heap n0 z38 f31 f32 f33 f34 f35 hz f36 hfm) 1 (Nat.le_of_eq rfl) (by decide) (by decide) (by rw [hml]; rfl) (argsL := [(.int 1)]) (st := [(.ref b8)]) f31 (lenOf pd_20 rfl) rfl rfl (by decide) (by decide) rfl hby d9_16 ?_
  intro T37 v37 L37 X37 hQ37
  obtain ⟨r_37, tr_37, kr_37, rfl, Nq37, K37, P37_0, P37_1, P37_2, P37_3⟩ := hQ37
  have N37 := Fr.app N26 Nq37
  have z39 : T26.heap.size ≤ T37.heap.size := K37.1
  have lt40 : T37.heap.size > r_37 := P37_0.lt
  have lt41 : T37.heap.size > tr_37 := P37_3.lt
  refine own_sh (T := T37) 19 #[.val (.ref u), .val (.ref y)] [(.ref r_37), (.ref b8)] ?_
  have f42 := (P26_0.keep K37)
  have f43 := (P26_1.keep K37 nin0)
  have f44 := (P26_2.keep K37 nin0)
  have f45 := (P26_4.keep K37 nin0)
  have f46 := (own_sta_keep f35 K37 all0)
  have f47 := (P26_3.keep K37 nin0)
  have z49 : n0 ≤ T37.heap.size := by omega
  refine own_virtual X37 hx hZ hown (own_w hw 73 rfl) (own_w hw 74 rfl) (notFace_of_selects (args := #[]) (mvT hZ (own_w hw 76 rfl))) (own_w hw 76 rfl) (own_w hw 75 rfl) (own_w hw 57 rfl) (own_w hw 77 rfl) (by decide) (sbApp_0_2 l Z a0 hw [] b8 b_14 r_37 tr_37 kb_14 kr_37 zc u1 u2 T37.heap n0 z49 f42 f43 f44 f45 P37_0 P37_1 P37_2 P37_3 (by omega) f46 hz (by omega) f47) 0 (Nat.le_of_eq rfl) (by decide) (by decide) (by rw [hml]; rfl) (argsL := [(.ref r_37)]) (st := []) f42 (lenOf pd_19 rfl) rfl rfl (by decide) (by decide) rfl hby d9_19 ?_
  intro T48 v48 L48 X48 hQ48
  obtain ⟨rfl, Nq48, K48, P48_0, P48_1, P48_2, P48_3, P48_4⟩ := hQ48
  have N48 := Fr.app N37 Nq48
  have z50 : T37.heap.size ≤ T48.heap.size := K48.1
  have lt51 : T48.heap.size > b8 := P48_0.lt
  have lt52 : T48.heap.size > b_14 := P48_4.lt
  refine own_sh (T := T48) 22 #[.val (.ref u), .val (.ref y)] [(.ref b8)] ?_
  have f53 := (own_sta_keep f46 K48 (allS (own_exa_plain f42) (allS (own_arv_plain f45) all0)))
  have z55 : n0 ≤ T48.heap.size := by omega
  refine own_virtual X48 hx hZ hown (own_w hw 167 rfl) (own_w hw 168 rfl) (notFace_of_selects (args := #[]) (mvT hZ (own_w hw 170 rfl))) (own_w hw 170 rfl) (own_w hw 169 rfl) (own_w hw 57 rfl) (own_w hw 171 rfl) (by decide) (sbStr_2 l Z a0 hw [] b8 b_14 kb_14 zc u1 u2 T48.heap n0 z55 P48_0 P48_1 P48_2 P48_3 P48_4 f53 hz) 0 (Nat.le_of_eq rfl) (by decide) (by decide) (by rw [hml]; rfl) (argsL := []) (st := []) P48_0 (lenOf pd_21 rfl) rfl rfl (by decide) (by decide) rfl hby d9_22 ?_
  intro T54 v54 L54 X54 hQ54
  obtain ⟨x_54, t_54, kt_54, rfl, Nq54, K54, P54_0, P54_1, P54_2, P54_3, P54_4⟩ := hQ54
  have N54 := Fr.app N48 Nq54
  have z56 : T48.heap.size ≤ T54.heap.size := K54.1
  have lt57 : T54.heap.size > x_54 := P54_1.lt
  have lt58 : T54.heap.size > t_54 := P54_4.lt
  refine own_sh (T := T54) 25 #[.val (.ref u), .val (.ref y)] [(.ref x_54)] ?_
  have K59 : Keep h0 T54.heap [] := (((((((Keep.refl h0 []).ext E8).trans K14 (allS (P := fun xq_ => xq_ ∈ [] ∨ h0.size ≤ xq_) (Or.inr (by omega)) all0)).trans K26 (allS (P := fun xq_ => xq_ ∈ [] ∨ h0.size ≤ xq_) (Or.inr (by omega)) (allS (P := fun xq_ => xq_ ∈ [] ∨ h0.size ≤ xq_) (Or.inr (by omega)) all0))).trans K37 all0).trans K48 (allS (P := fun xq_ => xq_ ∈ [] ∨ h0.size ≤ xq_) (Or.inr (by omega)) (allS (P := fun xq_ => xq_ ∈ [] ∨ h0.size ≤ xq_) (Or.inr (by omega)) all0))).trans K54 all0)
  obtain ⟨fs, hr, hrun, hended, hW, hsame⟩ := X54.leave (v := some (.ref x_54)) (fun h => by rw [Bd.returns] at h; cases h)
  refine own_ret (t := T54.setFrames fs) ?_ ⟨_, hrun, hended, _, _, rfl, ?_, ⟨_, rfl⟩, hW, hsame.mono (by decide) (by decide)⟩
  · exact retOut X54 hx Bd.returns rfl (Or.inr (Or.inr (Or.inr (Or.inr ⟨rfl, rfl, rfl⟩)))) (hb hby d9_25) hr
  · show Q_uriOf_0_3 Z _ _ _ _ _ _ _ _ _ _ _ _ h0 n0 _ T54.heap _
    exact ⟨x_54, t_54, kt_54, rfl, N54, K59, (by omega), P54_1, P54_2, P54_3, P54_4⟩
def Q_strGB_2_0 (Z : State) (x : Nat) (t : Nat) (b : Nat) (kt : ClassId) (kb : ClassId) (zc : Int32) (w0 : Int32) (w1 : Int32) (h0 : Heap) (n0 : Nat) (vR : Option Value) (hR : Heap) (LR : List Loc) : Prop := vR = none ∧ Fr n0 LR ∧ Keep h0 hR [b] ∧ (Arv Z hR b kb .byte (16 : Int32) [(.int w0), (.int w1), (.int 0), (.int 0), (.int 0), (.int 0), (.int 0), (.int 0), (.int 0), (.int 0), (.int 0), (.int 0), (.int 0), (.int 0), (.int 0), (.int 0)] (.int 0))
set_option maxRecDepth 65536 in
set_option maxHeartbeats 40000000 in
theorem strGB_2_0 (l : Launch) (Z : State) (a0 : Array Value) (hw : ∀ d ∈ tables_1, d.before a0 Z = true) (ws : List Jvm.Cond) (x : Nat) (t : Nat) (b : Nat) (kt : ClassId) (kb : ClassId) (zc : Int32) (w0 : Int32) (w1 : Int32) (h0 : Heap) (n0 : Nat) (Z0 : n0 ≤ h0.size) (E_x : Exa Z h0 x "java/lang/String") (Fc_x : Fld Z h0 x "java/lang/String" "coder" "B" (.int 0)) (Fv_x : Fld Z h0 x "java/lang/String" "value" "[B" (.ref t)) (V_t : Arv Z h0 t kt .byte (0 : Int32) [] (.int 0)) (g_b : n0 ≤ b) (V_b : Arv Z h0 b kb .byte (16 : Int32) [(.int w0), (.int w1), (.int 0), (.int 0), (.int 0), (.int 0), (.int 0), (.int 0), (.int 0), (.int 0), (.int 0), (.int 0), (.int 0), (.int 0), (.int 0), (.int 0)] (.int 0)) (S_C : Sta Z h0 "java/lang/String" "COMPACT_STRINGS" "Z" (.int zc)) (hz : ¬ (zc = (0 : Int32))) :
    own_M l (⟨"java/lang/String", "getBytes", "([BIB)V"⟩ : MethodName) jdk_42_method_147_code 4 none ws ({ frames := 1, cells := 0, slots := 0, locals := 18 } : Room) Z #[(.ref x), (.ref b), (.int 2), (.int 0)] h0 (Q_strGB_2_0 Z x t b kt kb zc w0 w1 h0 n0) := by
  refine own_body (own := "java/lang/String") rfl (plainFor_of_name pn_19) (fun m => ef_strGB_0_0 m x b (2 : Int32) (0 : Int32)) ?_
  intro p e s m below meth c s₁ Bd hml hZ hh hx hby hown X0 e0
  have N0 := Fr.nil n0
  have lt2 : h0.size > x := E_x.lt
  have lt3 : h0.size > t := V_t.lt
  have lt4 : h0.size > b := V_b.lt
  refine own_aloadN X0.here hx hby d19_0 rfl rfl ?_
  refine own_virtual X0 hx hZ hown (own_w hw 88 rfl) (own_w hw 89 rfl) (notFace_of_selects (args := #[]) (mvT hZ (own_w hw 91 rfl))) (own_w hw 91 rfl) (own_w hw 90 rfl) (own_w hw 2 rfl) (own_w hw 92 rfl) (by decide) (strCoder l Z a0 hw [] x zc h0 n0 Z0 Fc_x S_C hz) 0 (Nat.le_of_eq rfl) (by decide) (by decide) (by rw [hml]; rfl) (argsL := []) (st := []) E_x (lenOf pd_2 rfl) rfl rfl (by decide) (by decide) e0 hby d19_1 ?_
  intro T5 v5 L5 X5 hQ5
  obtain ⟨rfl, Nq5, eh5⟩ := hQ5
  have N5 := Fr.app N0 Nq5
  refine own_sh (T := T5) 4 #[.val (.ref x), .val (.ref b), .val (.int 2), .val (.int 0)] [(.int 0)] ?_
  refine own_iloadN X5.here hx hby d19_4 rfl ?_
  refine own_icmpNo X5.here hx hby d19_5 (teq (show (0 : Int32) = (0 : Int32) from (by decide))).2 ?_
  refine own_aloadN X5.here hx hby d19_8 rfl rfl ?_
  refine own_getF X5 hx hZ hown (host := "") (Or.inl (own_w hw 32 rfl)) Via.refl eh5 Fv_x hby d19_9 ?_
  intro T6 X6 e6
  refine own_iconst X6.here hx hby d19_12 (v := (0 : Int32)) (by decide) ?_
  refine own_aloadN X6.here hx hby d19_13 rfl rfl ?_
  refine own_iloadN X6.here hx hby d19_14 rfl ?_
  refine own_iloadN X6.here hx hby d19_15 rfl ?_
  refine own_ishl X6.here hx hby d19_16 (v := (2 : Int32)) (by decide) ?_
  refine own_aloadN X6.here hx hby d19_17 rfl rfl ?_
  refine own_getF X6 hx hZ hown (host := "") (Or.inl (own_w hw 32 rfl)) Via.refl e6 Fv_x hby d19_18 ?_
  intro T7 X7 e7
  refine own_alen X7 hx hZ e7 V_t hby d19_21 ?_
  refine own_copyL X7 hx hZ hown (own_w hw 116 rfl) (own_w hw 119 rfl) (own_w hw 117 rfl) (own_w hw 118 rfl) e7 V_t V_b (res := [(.int w0), (.int w1), (.int 0), (.int 0), (.int 0), (.int 0), (.int 0), (.int 0), (.int 0), (.int 0), (.int 0), (.int 0), (.int 0), (.int 0), (.int 0), (.int 0)]) rfl 0 2 0 (by decide) (by decide) (by decide) (by decide) (by decide) (by decide) (by decide) (by decide) (Nat.le_of_ble_eq_true rfl) rfl N5 g_b (by rw [hml]; rfl) hby d19_22 (by decide) 0 (Nat.le_of_eq rfl) (by decide) ?_
  intro T8 h8 lo8 X8 e8 N8 K8 V8 z8
  refine own_goto X8.here hx hby (pc' := 43) d19_25 (by decide) (by decide) ?_
  have K9 : Keep h0 h8 [b] := ((Keep.refl h0 [b]).trans K8 (allS (P := fun xq_ => xq_ ∈ [b] ∨ h0.size ≤ xq_) (Or.inl (List.mem_of_getElem? (i := 0) rfl)) all0))
  obtain ⟨fs, hr, hrun, hended, hW, hsame⟩ := X8.leave (v := none) (fun _ => rfl)
  refine own_ret (t := T8.setFrames fs) ?_ ⟨_, hrun, hended, _, _, rfl, ?_, ⟨_, rfl⟩, hW, hsame.mono (by decide) (by decide)⟩
  · exact X8.returnOut hx Bd.returns (hb hby d19_43) hr
  · show Q_strGB_2_0 Z _ _ _ _ _ _ _ _ h0 n0 _ T8.heap _
    rw [e8]
    exact ⟨rfl, N8, K9, V8⟩
def Q_asbPut_2_0 (Z : State) (sb : Nat) (b : Nat) (x : Nat) (t : Nat) (kb : ClassId) (kt : ClassId) (zc : Int32) (w0 : Int32) (w1 : Int32) (h0 : Heap) (n0 : Nat) (vR : Option Value) (hR : Heap) (LR : List Loc) : Prop := vR = none ∧ Fr n0 LR ∧ Keep h0 hR [b] ∧ (Arv Z hR b kb .byte (16 : Int32) [(.int w0), (.int w1), (.int 0), (.int 0), (.int 0), (.int 0), (.int 0), (.int 0), (.int 0), (.int 0), (.int 0), (.int 0), (.int 0), (.int 0), (.int 0), (.int 0)] (.int 0))
set_option maxRecDepth 65536 in
set_option maxHeartbeats 40000000 in
theorem asbPut_2_0 (l : Launch) (Z : State) (a0 : Array Value) (hw : ∀ d ∈ tables_1, d.before a0 Z = true) (ws : List Jvm.Cond) (sb : Nat) (b : Nat) (x : Nat) (t : Nat) (kb : ClassId) (kt : ClassId) (zc : Int32) (w0 : Int32) (w1 : Int32) (h0 : Heap) (n0 : Nat) (Z0 : n0 ≤ h0.size) (E_sb : Exa Z h0 sb "java/lang/StringBuilder") (F_value_sb : Fld Z h0 sb "java/lang/AbstractStringBuilder" "value" "[B" (.ref b)) (F_coder_sb : Fld Z h0 sb "java/lang/AbstractStringBuilder" "coder" "B" (.int 0)) (V_b : Arv Z h0 b kb .byte (16 : Int32) [(.int w0), (.int w1), (.int 0), (.int 0), (.int 0), (.int 0), (.int 0), (.int 0), (.int 0), (.int 0), (.int 0), (.int 0), (.int 0), (.int 0), (.int 0), (.int 0)] (.int 0)) (E_x : Exa Z h0 x "java/lang/String") (Fc_x : Fld Z h0 x "java/lang/String" "coder" "B" (.int 0)) (Fv_x : Fld Z h0 x "java/lang/String" "value" "[B" (.ref t)) (V_t : Arv Z h0 t kt .byte (0 : Int32) [] (.int 0)) (g_b : n0 ≤ b) (S_C : Sta Z h0 "java/lang/String" "COMPACT_STRINGS" "Z" (.int zc)) (hz : ¬ (zc = (0 : Int32))) :
    own_M l (⟨"java/lang/AbstractStringBuilder", "putStringAt", "(ILjava/lang/String;)V"⟩ : MethodName) jdk_68_method_73_code 3 none ws ({ frames := 2, cells := 0, slots := 0, locals := 33 } : Room) Z #[(.ref sb), (.int 2), (.ref x)] h0 (Q_asbPut_2_0 Z sb b x t kb kt zc w0 w1 h0 n0) := by
  refine own_body (own := "java/lang/AbstractStringBuilder") rfl (plainFor_of_name pn_17) (fun m => ef_asbPut_0_0 m sb (2 : Int32) x) ?_
  intro p e s m below meth c s₁ Bd hml hZ hh hx hby hown X0 e0
  have N0 := Fr.nil n0
  have lt2 : h0.size > sb := E_sb.lt
  have lt3 : h0.size > b := V_b.lt
  have lt4 : h0.size > x := E_x.lt
  have lt5 : h0.size > t := V_t.lt
  refine own_aloadN X0.here hx hby d17_0 rfl rfl ?_
  refine own_aloadN X0.here hx hby d17_1 rfl rfl ?_
  refine own_privateS X0 hx hZ hown (own_w hw 105 rfl) (own_w hw 106 rfl) (own_w hw 108 rfl) (own_w hw 107 rfl) (own_w hw 65 rfl) (own_w hw 109 rfl) (by decide) (asbInfl l Z a0 hw [] sb x zc h0 n0 Z0 F_coder_sb E_x Fc_x S_C hz) 0 (Nat.le_of_eq rfl) (by decide) (by decide) (by rw [hml]; rfl) (argsL := [(.ref x)]) (st := []) E_sb (lenOf pd_3 rfl) rfl rfl (by decide) (by decide) e0 hby d17_2 ?_
  intro T6 v6 L6 X6 hQ6
  obtain ⟨rfl, Nq6, eh6⟩ := hQ6
  have N6 := Fr.app N0 Nq6
  refine own_sh (T := T6) 5 #[.val (.ref sb), .val (.int 2), .val (.ref x)] [] ?_
  refine own_aloadN X6.here hx hby d17_5 rfl rfl ?_
  refine own_aloadN X6.here hx hby d17_6 rfl rfl ?_
  refine own_getF X6 hx hZ hown (host := "") (Or.inl (own_w hw 69 rfl)) Via.refl eh6 F_value_sb hby d17_7 ?_
  intro T7 X7 e7
  refine own_iloadN X7.here hx hby d17_10 rfl ?_
  refine own_aloadN X7.here hx hby d17_11 rfl rfl ?_
  refine own_getF X7 hx hZ hown (host := "") (Or.inl (own_w hw 71 rfl)) Via.refl e7 F_coder_sb hby d17_12 ?_
  intro T8 X8 e8
  refine own_virtual X8 hx hZ hown (own_w hw 111 rfl) (own_w hw 112 rfl) (notFace_of_selects (args := #[]) (mvT hZ (own_w hw 114 rfl))) (own_w hw 114 rfl) (own_w hw 113 rfl) (own_w hw 2 rfl) (own_w hw 115 rfl) (by decide) (strGB_2_0 l Z a0 hw [] x t b kt kb zc w0 w1 h0 n0 Z0 E_x Fc_x Fv_x V_t g_b V_b S_C hz) 0 (Nat.le_of_eq rfl) (by decide) (by decide) (by rw [hml]; rfl) (argsL := [(.ref b), (.int 2), (.int 0)]) (st := []) E_x (lenOf pd_4 rfl) rfl rfl (by decide) (by decide) e8 hby d17_15 ?_
  intro T9 v9 L9 X9 hQ9
  obtain ⟨rfl, Nq9, K9, P9_0⟩ := hQ9
  have N9 := Fr.app N6 Nq9
  have z10 : h0.size ≤ T9.heap.size := K9.1
  have lt11 : T9.heap.size > b := P9_0.lt
  refine own_sh (T := T9) 18 #[.val (.ref sb), .val (.int 2), .val (.ref x)] [] ?_
  have K12 : Keep h0 T9.heap [b] := ((Keep.refl h0 [b]).trans K9 (allS (P := fun xq_ => xq_ ∈ [b] ∨ h0.size ≤ xq_) (Or.inl (List.mem_of_getElem? (i := 0) rfl)) all0))
  obtain ⟨fs, hr, hrun, hended, hW, hsame⟩ := X9.leave (v := none) (fun _ => rfl)
  refine own_ret (t := T9.setFrames fs) ?_ ⟨_, hrun, hended, _, _, rfl, ?_, ⟨_, rfl⟩, hW, hsame.mono (by decide) (by decide)⟩
  · exact X9.returnOut hx Bd.returns (hb hby d17_18) hr
  · show Q_asbPut_2_0 Z _ _ _ _ _ _ _ _ _ h0 n0 _ T9.heap _
    exact ⟨rfl, N9, K12, P9_0⟩
def Q_asbApp_2_0 (Z : State) (sb : Nat) (b : Nat) (x : Nat) (t : Nat) (kb : ClassId) (kt : ClassId) (zc : Int32) (w0 : Int32) (w1 : Int32) (h0 : Heap) (n0 : Nat) (vR : Option Value) (hR : Heap) (LR : List Loc) : Prop := vR = some (.ref sb) ∧ Fr n0 LR ∧ Keep h0 hR [sb, b] ∧ (Exa Z hR sb "java/lang/StringBuilder") ∧ (Fld Z hR sb "java/lang/AbstractStringBuilder" "value" "[B" (.ref b)) ∧ (Fld Z hR sb "java/lang/AbstractStringBuilder" "coder" "B" (.int 0)) ∧ (Fld Z hR sb "java/lang/AbstractStringBuilder" "count" "I" (.int 2)) ∧ (Arv Z hR b kb .byte (16 : Int32) [(.int w0), (.int w1), (.int 0), (.int 0), (.int 0), (.int 0), (.int 0), (.int 0), (.int 0), (.int 0), (.int 0), (.int 0), (.int 0), (.int 0), (.int 0), (.int 0)] (.int 0))
set_option maxRecDepth 65536 in
set_option maxHeartbeats 40000000 in
theorem asbApp_2_0 (l : Launch) (Z : State) (a0 : Array Value) (hw : ∀ d ∈ tables_1, d.before a0 Z = true) (ws : List Jvm.Cond) (sb : Nat) (b : Nat) (x : Nat) (t : Nat) (kb : ClassId) (kt : ClassId) (zc : Int32) (w0 : Int32) (w1 : Int32) (h0 : Heap) (n0 : Nat) (Z0 : n0 ≤ h0.size) (E_sb : Exa Z h0 sb "java/lang/StringBuilder") (F_value_sb : Fld Z h0 sb "java/lang/AbstractStringBuilder" "value" "[B" (.ref b)) (F_coder_sb : Fld Z h0 sb "java/lang/AbstractStringBuilder" "coder" "B" (.int 0)) (V_b : Arv Z h0 b kb .byte (16 : Int32) [(.int w0), (.int w1), (.int 0), (.int 0), (.int 0), (.int 0), (.int 0), (.int 0), (.int 0), (.int 0), (.int 0), (.int 0), (.int 0), (.int 0), (.int 0), (.int 0)] (.int 0)) (E_x : Exa Z h0 x "java/lang/String") (Fc_x : Fld Z h0 x "java/lang/String" "coder" "B" (.int 0)) (Fv_x : Fld Z h0 x "java/lang/String" "value" "[B" (.ref t)) (V_t : Arv Z h0 t kt .byte (0 : Int32) [] (.int 0)) (g_b : n0 ≤ b) (S_C : Sta Z h0 "java/lang/String" "COMPACT_STRINGS" "Z" (.int zc)) (hz : ¬ (zc = (0 : Int32))) (g_sb : n0 ≤ sb) (F_count_sb : Fld Z h0 sb "java/lang/AbstractStringBuilder" "count" "I" (.int 2)) :
    own_M l (⟨"java/lang/AbstractStringBuilder", "append", "(Ljava/lang/String;)Ljava/lang/AbstractStringBuilder;"⟩ : MethodName) jdk_68_method_22_code 3 (some (.object "java/lang/AbstractStringBuilder")) ws ({ frames := 3, cells := 0, slots := 0, locals := 47 } : Room) Z #[(.ref sb), (.ref x)] h0 (Q_asbApp_2_0 Z sb b x t kb kt zc w0 w1 h0 n0) := by
  refine own_body (own := "java/lang/AbstractStringBuilder") rfl (plainFor_of_name pn_13) (fun m => ef_asbApp_0_0 m sb x) ?_
  intro p e s m below meth c s₁ Bd hml hZ hh hx hby hown X0 e0
  have N0 := Fr.nil n0
  have lt2 : h0.size > sb := E_sb.lt
  have lt3 : h0.size > b := V_b.lt
  have lt4 : h0.size > x := E_x.lt
  have lt5 : h0.size > t := V_t.lt
  refine own_aloadN X0.here hx hby d13_0 rfl rfl ?_
  refine own_ifnonnullYes X0.here hx hby (pc' := 9) d13_1 (by decide) (by decide) ?_
  refine own_aloadN X0.here hx hby d13_9 rfl rfl ?_
  refine own_virtual X0 hx hZ hown (own_w hw 83 rfl) (own_w hw 84 rfl) (notFace_of_selects (args := #[]) (mvT hZ (own_w hw 86 rfl))) (own_w hw 86 rfl) (own_w hw 85 rfl) (own_w hw 2 rfl) (own_w hw 87 rfl) (by decide) (strLen_0 l Z a0 hw [] x t kt zc ([]) h0 n0 Z0 E_x Fc_x Fv_x V_t S_C hz) 0 (Nat.le_of_eq rfl) (by decide) (by decide) (by rw [hml]; rfl) (argsL := []) (st := []) E_x (lenOf pd_5 rfl) rfl rfl (by decide) (by decide) e0 hby d13_10 ?_
  intro T6 v6 L6 X6 hQ6
  obtain ⟨rfl, Nq6, eh6⟩ := hQ6
  have N6 := Fr.app N0 Nq6
  refine own_sh (T := T6) 13 #[.val (.ref sb), .val (.ref x), .unset] [(.int 0)] ?_
  refine own_istoreN X6.here hx hby d13_13 (l' := #[.val (.ref sb), .val (.ref x), .val (.int 0)]) rfl ?_
  refine own_aloadN X6.here hx hby d13_14 rfl rfl ?_
  refine own_aloadN X6.here hx hby d13_15 rfl rfl ?_
  refine own_getF X6 hx hZ hown (host := "") (Or.inl (own_w hw 93 rfl)) Via.refl eh6 F_count_sb hby d13_16 ?_
  intro T7 X7 e7
  refine own_iloadN X7.here hx hby d13_19 rfl ?_
  refine own_iadd X7.here hx hby d13_20 (v := (2 : Int32)) (by decide) ?_
  refine own_privateS X7 hx hZ hown (own_w hw 95 rfl) (own_w hw 96 rfl) (own_w hw 98 rfl) (own_w hw 97 rfl) (own_w hw 65 rfl) (own_w hw 99 rfl) (by decide) (asbEns_2 l Z a0 hw [] sb b kb ([(.int w0), (.int w1), (.int 0), (.int 0), (.int 0), (.int 0), (.int 0), (.int 0), (.int 0), (.int 0), (.int 0), (.int 0), (.int 0), (.int 0), (.int 0), (.int 0)]) h0 n0 Z0 F_value_sb F_coder_sb V_b) 0 (Nat.le_of_eq rfl) (by decide) (by decide) (by rw [hml]; rfl) (argsL := [(.int 2)]) (st := []) E_sb (lenOf pd_1 rfl) rfl rfl (by decide) (by decide) e7 hby d13_21 ?_
  intro T8 v8 L8 X8 hQ8
  obtain ⟨rfl, Nq8, eh8⟩ := hQ8
  have N8 := Fr.app N6 Nq8
  refine own_sh (T := T8) 24 #[.val (.ref sb), .val (.ref x), .val (.int 0)] [] ?_
  refine own_aloadN X8.here hx hby d13_24 rfl rfl ?_
  refine own_aloadN X8.here hx hby d13_25 rfl rfl ?_
  refine own_getF X8 hx hZ hown (host := "") (Or.inl (own_w hw 93 rfl)) Via.refl eh8 F_count_sb hby d13_26 ?_
  intro T9 X9 e9
  refine own_aloadN X9.here hx hby d13_29 rfl rfl ?_
  refine own_privateS X9 hx hZ hown (own_w hw 100 rfl) (own_w hw 101 rfl) (own_w hw 103 rfl) (own_w hw 102 rfl) (own_w hw 65 rfl) (own_w hw 104 rfl) (by decide) (asbPut_2_0 l Z a0 hw [] sb b x t kb kt zc w0 w1 h0 n0 Z0 E_sb F_value_sb F_coder_sb V_b E_x Fc_x Fv_x V_t g_b S_C hz) 0 (Nat.le_of_eq rfl) (by decide) (by decide) (by rw [hml]; rfl) (argsL := [(.int 2), (.ref x)]) (st := []) E_sb (lenOf pd_6 rfl) rfl rfl (by decide) (by decide) e9 hby d13_30 ?_
  intro T10 v10 L10 X10 hQ10
  obtain ⟨rfl, Nq10, K10, P10_0⟩ := hQ10
  have N10 := Fr.app N8 Nq10
  have z11 : h0.size ≤ T10.heap.size := K10.1
  have lt12 : T10.heap.size > b := P10_0.lt
  refine own_sh (T := T10) 33 #[.val (.ref sb), .val (.ref x), .val (.int 0)] [] ?_
  refine own_aloadN X10.here hx hby d13_33 rfl rfl ?_
  refine own_dup X10.here hx hby d13_34 rfl ?_
  have f13 := (F_count_sb.keep K10 (ninS (own_ne_oa E_sb (own_w hw 56 rfl) V_b) nin0))
  refine own_getF X10 hx hZ hown (host := "") (Or.inl (own_w hw 93 rfl)) Via.refl rfl f13 hby d13_35 ?_
  intro T14 X14 e14
  refine own_iloadN X14.here hx hby d13_38 rfl ?_
  refine own_iadd X14.here hx hby d13_39 (v := (2 : Int32)) (by decide) ?_
  have f15 := (E_sb.keep K10)
  refine own_putF X14 hx hZ (ty := .int) hown (host := "") (Or.inl (own_w hw 93 rfl)) Via.refl e14 f13 f15 (Or.inl (own_w hw 94 rfl)) (own_w hw 56 rfl) (by decide) rfl rfl hby d13_40 N10 g_sb ?_
  intro T16 h16 lo16 X16 e16 N16 W16 F16 z16
  refine own_aloadN X16.here hx hby d13_43 rfl rfl ?_
  have K17 : Keep h0 h16 [sb, b] := (((Keep.refl h0 [sb, b]).trans K10 (allS (P := fun xq_ => xq_ ∈ [sb, b] ∨ h0.size ≤ xq_) (Or.inl (List.mem_of_getElem? (i := 1) rfl)) all0)).wr W16 (Or.inl (List.mem_of_getElem? (i := 0) rfl)))
  have f18 := (f15.wr W16)
  have f19 := ((F_value_sb.keep K10 (ninS (own_ne_oa E_sb (own_w hw 56 rfl) V_b) nin0)).other W16 (Or.inr (slot_ne (Or.inl (own_w hw 70 rfl)) (Or.inl (own_w hw 94 rfl)) (by decide) (t := (.array .byte)) (t' := .int) (by decide) (by decide))))
  have f20 := ((F_coder_sb.keep K10 (ninS (own_ne_oa E_sb (own_w hw 56 rfl) V_b) nin0)).other W16 (Or.inr (slot_ne (Or.inl (own_w hw 72 rfl)) (Or.inl (own_w hw 94 rfl)) (by decide) (t := .byte) (t' := .int) (by decide) (by decide))))
  have f21 := (P10_0.other W16 (Ne.symm (own_ne_oa E_sb (own_w hw 56 rfl) V_b)))
  obtain ⟨fs, hr, hrun, hended, hW, hsame⟩ := X16.leave (v := some (.ref sb)) (fun h => by rw [Bd.returns] at h; cases h)
  refine own_ret (t := T16.setFrames fs) ?_ ⟨_, hrun, hended, _, _, rfl, ?_, ⟨_, rfl⟩, hW, hsame.mono (by decide) (by decide)⟩
  · exact retOut X16 hx Bd.returns rfl (Or.inr (Or.inr (Or.inr (Or.inr ⟨rfl, rfl, rfl⟩)))) (hb hby d13_44) hr
  · show Q_asbApp_2_0 Z _ _ _ _ _ _ _ _ _ h0 n0 _ T16.heap _
    rw [e16]
    exact ⟨rfl, N16, K17, f18, f19, f20, F16, f21⟩
def Q_sbApp_2_0 (Z : State) (sb : Nat) (b : Nat) (x : Nat) (t : Nat) (kb : ClassId) (kt : ClassId) (zc : Int32) (w0 : Int32) (w1 : Int32) (h0 : Heap) (n0 : Nat) (vR : Option Value) (hR : Heap) (LR : List Loc) : Prop := vR = some (.ref sb) ∧ Fr n0 LR ∧ Keep h0 hR [sb, b] ∧ (Exa Z hR sb "java/lang/StringBuilder") ∧ (Fld Z hR sb "java/lang/AbstractStringBuilder" "value" "[B" (.ref b)) ∧ (Fld Z hR sb "java/lang/AbstractStringBuilder" "coder" "B" (.int 0)) ∧ (Fld Z hR sb "java/lang/AbstractStringBuilder" "count" "I" (.int 2)) ∧ (Arv Z hR b kb .byte (16 : Int32) [(.int w0), (.int w1), (.int 0), (.int 0), (.int 0), (.int 0), (.int 0), (.int 0), (.int 0), (.int 0), (.int 0), (.int 0), (.int 0), (.int 0), (.int 0), (.int 0)] (.int 0))
set_option maxRecDepth 65536 in
set_option maxHeartbeats 40000000 in
theorem sbApp_2_0 (l : Launch) (Z : State) (a0 : Array Value) (hw : ∀ d ∈ tables_1, d.before a0 Z = true) (ws : List Jvm.Cond) (sb : Nat) (b : Nat) (x : Nat) (t : Nat) (kb : ClassId) (kt : ClassId) (zc : Int32) (w0 : Int32) (w1 : Int32) (h0 : Heap) (n0 : Nat) (Z0 : n0 ≤ h0.size) (E_sb : Exa Z h0 sb "java/lang/StringBuilder") (F_value_sb : Fld Z h0 sb "java/lang/AbstractStringBuilder" "value" "[B" (.ref b)) (F_coder_sb : Fld Z h0 sb "java/lang/AbstractStringBuilder" "coder" "B" (.int 0)) (V_b : Arv Z h0 b kb .byte (16 : Int32) [(.int w0), (.int w1), (.int 0), (.int 0), (.int 0), (.int 0), (.int 0), (.int 0), (.int 0), (.int 0), (.int 0), (.int 0), (.int 0), (.int 0), (.int 0), (.int 0)] (.int 0)) (E_x : Exa Z h0 x "java/lang/String") (Fc_x : Fld Z h0 x "java/lang/String" "coder" "B" (.int 0)) (Fv_x : Fld Z h0 x "java/lang/String" "value" "[B" (.ref t)) (V_t : Arv Z h0 t kt .byte (0 : Int32) [] (.int 0)) (g_b : n0 ≤ b) (S_C : Sta Z h0 "java/lang/String" "COMPACT_STRINGS" "Z" (.int zc)) (hz : ¬ (zc = (0 : Int32))) (g_sb : n0 ≤ sb) (F_count_sb : Fld Z h0 sb "java/lang/AbstractStringBuilder" "count" "I" (.int 2)) :
    own_M l (⟨"java/lang/StringBuilder", "append", "(Ljava/lang/String;)Ljava/lang/StringBuilder;"⟩ : MethodName) jdk_67_method_7_code 2 (some (.object "java/lang/StringBuilder")) ws ({ frames := 4, cells := 0, slots := 0, locals := 61 } : Room) Z #[(.ref sb), (.ref x)] h0 (Q_sbApp_2_0 Z sb b x t kb kt zc w0 w1 h0 n0) := by
  refine own_body (own := "java/lang/StringBuilder") rfl (plainFor_of_name pn_12) (fun m => ef_sbApp_0_0 m sb x) ?_
  intro p e s m below meth c s₁ Bd hml hZ hh hx hby hown X0 e0
  have N0 := Fr.nil n0
  have lt2 : h0.size > sb := E_sb.lt
  have lt3 : h0.size > b := V_b.lt
  have lt4 : h0.size > x := E_x.lt
  have lt5 : h0.size > t := V_t.lt
  refine own_aloadN X0.here hx hby d12_0 rfl rfl ?_
  refine own_aloadN X0.here hx hby d12_1 rfl rfl ?_
  refine own_super X0 hx hZ (by decide) hown (own_w hw 78 rfl) (own_sameM (y := (⟨"java/lang/AbstractStringBuilder", "append", "(Ljava/lang/String;)Ljava/lang/AbstractStringBuilder;"⟩ : MethodName)) (y' := (⟨"java/lang/AbstractStringBuilder", "ensureCapacityInternal", "(I)V"⟩ : MethodName)) rfl (own_w hw 79 rfl) (own_w hw 98 rfl) (by decide)) (own_w hw 79 rfl) (own_w hw 80 rfl) (own_w hw 65 rfl) (own_w hw 82 rfl) (asbApp_2_0 l Z a0 hw [] sb b x t kb kt zc w0 w1 h0 n0 Z0 E_sb F_value_sb F_coder_sb V_b E_x Fc_x Fv_x V_t g_b S_C hz g_sb F_count_sb) 0 (Nat.le_of_eq rfl) (by decide) (by decide) (by rw [hml]; rfl) (argsL := [(.ref x)]) (st := []) E_sb (lenOf pd_7 rfl) rfl rfl (by decide) (by decide) e0 hby d12_2 ?_
  intro T6 v6 L6 X6 hQ6
  obtain ⟨rfl, Nq6, K6, P6_0, P6_1, P6_2, P6_3, P6_4⟩ := hQ6
  have N6 := Fr.app N0 Nq6
  have z7 : h0.size ≤ T6.heap.size := K6.1
  have lt8 : T6.heap.size > sb := P6_0.lt
  have lt9 : T6.heap.size > b := P6_4.lt
  refine own_sh (T := T6) 5 #[.val (.ref sb), .val (.ref x)] [(.ref sb)] ?_
  refine own_pop X6.here hx hby d12_5 rfl ?_
  refine own_aloadN X6.here hx hby d12_6 rfl rfl ?_
  have K10 : Keep h0 T6.heap [sb, b] := ((Keep.refl h0 [sb, b]).trans K6 (allS (P := fun xq_ => xq_ ∈ [sb, b] ∨ h0.size ≤ xq_) (Or.inl (List.mem_of_getElem? (i := 0) rfl)) (allS (P := fun xq_ => xq_ ∈ [sb, b] ∨ h0.size ≤ xq_) (Or.inl (List.mem_of_getElem? (i := 1) rfl)) all0)))
  obtain ⟨fs, hr, hrun, hended, hW, hsame⟩ := X6.leave (v := some (.ref sb)) (fun h => by rw [Bd.returns] at h; cases h)
  refine own_ret (t := T6.setFrames fs) ?_ ⟨_, hrun, hended, _, _, rfl, ?_, ⟨_, rfl⟩, hW, hsame.mono (by decide) (by decide)⟩
  · exact retOut X6 hx Bd.returns rfl (Or.inr (Or.inr (Or.inr (Or.inr ⟨rfl, rfl, rfl⟩)))) (hb hby d12_7) hr
  · show Q_sbApp_2_0 Z _ _ _ _ _ _ _ _ _ h0 n0 _ T6.heap _
    exact ⟨rfl, N6, K10, P6_0, P6_1, P6_2, P6_3, P6_4⟩
def Q_uriOf_2_1 (Z : State) (u : Nat) (x : Nat) (t : Nat) (y : Nat) (ty : Nat) (kt : ClassId) (ky : ClassId) (fm : Value) (zc : Int32) (w0 : Int32) (w1 : Int32) (u0 : Int32) (h0 : Heap) (n0 : Nat) (vR : Option Value) (hR : Heap) (LR : List Loc) : Prop := ∃ (r : Nat) (tr : Nat) (kr : ClassId), vR = some (.ref r) ∧ Fr n0 LR ∧ Keep h0 hR [] ∧ h0.size ≤ r ∧ (Exa Z hR r "java/lang/String") ∧ (Fld Z hR r "java/lang/String" "coder" "B" (.int 0)) ∧ (Fld Z hR r "java/lang/String" "value" "[B" (.ref tr)) ∧ (Arv Z hR tr kr .byte (2 : Int32) [(.int w0), (.int w1)] (.int 0))
set_option maxRecDepth 65536 in
set_option maxHeartbeats 40000000 in
theorem uriOf_2_1 (l : Launch) (Z : State) (a0 : Array Value) (hw : ∀ d ∈ tables_1, d.before a0 Z = true) (ws : List Jvm.Cond) (u : Nat) (x : Nat) (t : Nat) (y : Nat) (ty : Nat) (kt : ClassId) (ky : ClassId) (fm : Value) (zc : Int32) (w0 : Int32) (w1 : Int32) (u0 : Int32) (h0 : Heap) (n0 : Nat) (Z0 : n0 ≤ h0.size) (E_u : Exa Z h0 u "com/example/undercroft/undercroft/store/UriSpace") (F_prefix_u : Fld Z h0 u "com/example/undercroft/undercroft/store/UriSpace" "prefix" "Ljava/lang/String;" (.ref x)) (E_x : Exa Z h0 x "java/lang/String") (Fc_x : Fld Z h0 x "java/lang/String" "coder" "B" (.int 0)) (Fv_x : Fld Z h0 x "java/lang/String" "value" "[B" (.ref t)) (V_t : Arv Z h0 t kt .byte (2 : Int32) [(.int w0), (.int w1)] (.int 0)) (E_y : Exa Z h0 y "java/lang/String") (Fc_y : Fld Z h0 y "java/lang/String" "coder" "B" (.int 0)) (Fv_y : Fld Z h0 y "java/lang/String" "value" "[B" (.ref ty)) (V_ty : Arv Z h0 ty ky .byte (1 : Int32) [(.int u0)] (.int 0)) (S_C : Sta Z h0 "java/lang/String" "COMPACT_STRINGS" "Z" (.int zc)) (hz : ¬ (zc = (0 : Int32))) (S_FM : Sta Z h0 "jdk/internal/util/Preconditions" "SIOOBE_FORMATTER" "Ljava/util/function/BiFunction;" fm) (hfm : fm.isRef = true) :
    own_MH l (⟨"com/example/undercroft/undercroft/store/UriSpace", "uriOfPath", "(Ljava/lang/String;)Ljava/lang/String;"⟩ : MethodName) prog_21_method_8_code 2 (some (.object "java/lang/String")) ws ({ frames := 6, cells := 6, slots := 30, locals := 91 } : Room) Z #[(.ref u), (.ref y)] h0 (Q_uriOf_2_1 Z u x t y ty kt ky fm zc w0 w1 u0 h0 n0) consts_1 := by
  refine own_bodyH (own := "com/example/undercroft/undercroft/store/UriSpace") rfl (plainFor_of_name pn_9) (fun m => ef_uriOf_0_1 m u y) ?_
  intro p e s m below meth c s₁ Bd hml hZ hh hx hby hown X0 e0 hS0 CH0
  have N0 := Fr.nil n0
  have hk0 : h0.size ≤ h0.size := Nat.le_refl _
  have Y0 : Stand p l e ({ frames := 6, cells := 6, slots := 30, locals := 91 } : Room) (s.setVm s.vm) m #[(.ref u), (.ref y)] below meth c s₁ [] 0 0 := X0
  have hEL := own_EW hw
  have C0 := CHr.refl CH0
  have lt2 : h0.size > u := E_u.lt
  have lt3 : h0.size > x := E_x.lt
  have lt4 : h0.size > t := V_t.lt
  have lt5 : h0.size > y := E_y.lt
  have lt6 : h0.size > ty := V_ty.lt
  refine own_newO Y0 hx hZ hown (own_w hw 55 rfl) (own_w hw 56 rfl) (own_w hw 57 rfl) e0 hby d9_0 (by decide) (by decide) ?_
  intro T7 h7 b7 X7 e7 E7 g7 A7 D7 lt7
  have z8 : h0.size ≤ h7.size := E7.1
  have C9 := C0.trans (CHr.ext E7 C0.1)
  have F10 : Fld Z h7 b7 "java/lang/AbstractStringBuilder" "value" "[B" .null := D7 (Or.inl (own_w hw 70 rfl)) (ty := (.array .byte)) (by decide)
  have F11 : Fld Z h7 b7 "java/lang/AbstractStringBuilder" "coder" "B" (.int 0) := D7 (Or.inl (own_w hw 72 rfl)) (ty := .byte) (by decide)
  have F12 : Fld Z h7 b7 "java/lang/AbstractStringBuilder" "count" "I" (.int 0) := D7 (Or.inl (own_w hw 94 rfl)) (ty := .int) (by decide)
  refine own_dup X7.here hx hby d9_3 rfl ?_
  have f13 := (S_C.ext E7)
  have z15 : n0 ≤ h7.size := by omega
  refine own_special X7 hx hZ rfl hown (own_w hw 58 rfl) (own_w hw 59 rfl) (own_w hw 57 rfl) (own_w hw 60 rfl) (by decide) (sbInit l Z a0 hw [] b7 zc h7 n0 z15 A7 (by omega) F10 F11 F12 f13 hz) 1 (Nat.le_of_eq rfl) (by decide) (by decide) (by rw [hml]; rfl) (argsL := []) (st := [(.ref b7)]) (a := b7) (lenOf pd_0 rfl) rfl rfl (by decide) (by decide) e7 hby d9_4 ?_
  intro T14 v14 L14 X14 hQ14
  obtain ⟨b_14, kb_14, rfl, Nq14, K14, P14_0, P14_1, P14_2, P14_3, P14_4, P14_5⟩ := hQ14
  have N14 := Fr.app N0 Nq14
  have z16 : h7.size ≤ T14.heap.size := K14.1
  have C17 := C9.trans (CHr.keep K14 (sfS (Safe.exa hZ.alike A7 (by decide) (by decide)) sf0) C9.1)
  have lt18 : T14.heap.size > b7 := P14_0.lt
  have lt19 : T14.heap.size > b_14 := P14_5.lt
  refine own_sh (T := T14) 7 #[.val (.ref u), .val (.ref y)] [(.ref b7)] ?_
  refine own_aloadN X14.here hx hby d9_7 rfl rfl ?_
  have f20 := ((F_prefix_u.ext E7).keep K14 (ninS (own_nn (by omega)) nin0))
  refine own_getF X14 hx hZ hown (host := "") (Or.inl (own_w hw 46 rfl)) Via.refl rfl f20 hby d9_8 ?_
  intro T21 X21 e21
  have f22 := ((E_x.ext E7).keep K14)
  have f23 := ((Fc_x.ext E7).keep K14 (ninS (own_nn (by omega)) nin0))
  have f24 := ((Fv_x.ext E7).keep K14 (ninS (own_nn (by omega)) nin0))
  have f25 := ((V_t.ext E7).keep K14 (ninS (own_nn (by omega)) nin0))
  have f26 := (own_sta_keep f13 K14 (allS (own_exa_plain A7) all0))
  have z28 : n0 ≤ T14.heap.size := by omega
  refine own_virtual X21 hx hZ hown (own_w hw 73 rfl) (own_w hw 74 rfl) (notFace_of_selects (args := #[]) (mvT hZ (own_w hw 76 rfl))) (own_w hw 76 rfl) (own_w hw 75 rfl) (own_w hw 57 rfl) (own_w hw 77 rfl) (by decide) (sbApp_0_2 l Z a0 hw [] b7 b_14 x t kb_14 kt zc w0 w1 T14.heap n0 z28 P14_0 P14_1 P14_2 P14_5 f22 f23 f24 f25 (by omega) f26 hz (by omega) P14_3) 0 (Nat.le_of_eq rfl) (by decide) (by decide) (by rw [hml]; rfl) (argsL := [(.ref x)]) (st := []) P14_0 (lenOf pd_19 rfl) rfl rfl (by decide) (by decide) e21 hby d9_11 ?_
  intro T27 v27 L27 X27 hQ27
  obtain ⟨rfl, Nq27, K27, P27_0, P27_1, P27_2, P27_3, P27_4⟩ := hQ27
  have N27 := Fr.app N14 Nq27
  have z29 : T14.heap.size ≤ T27.heap.size := K27.1
  have sf30 := (Safe.keep K14 (sfS (Safe.exa hZ.alike A7 (by decide) (by decide)) sf0) C9.1 (Safe.new (h := h7) (x := b_14) (by omega)))
  have C31 := C17.trans (CHr.keep K27 (sfS (Safe.exa hZ.alike P14_0 (by decide) (by decide)) (sfS sf30 sf0)) C17.1)
  have lt32 : T27.heap.size > b7 := P27_0.lt
  have lt33 : T27.heap.size > b_14 := P27_4.lt
  refine own_sh (T := T27) 14 #[.val (.ref u), .val (.ref y)] [(.ref b7)] ?_
  refine own_aloadN X27.here hx hby d9_14 rfl rfl ?_
  refine own_iconst X27.here hx hby d9_15 (v := (1 : Int32)) (by decide) ?_
  have f34 := (((E_y.ext E7).keep K14).keep K27)
  have f35 := (((Fc_y.ext E7).keep K14 (ninS (own_nn (by omega)) nin0)).keep K27 (ninS (own_nn (by omega)) (ninS (own_nn (by omega)) nin0)))
  have f36 := (((Fv_y.ext E7).keep K14 (ninS (own_nn (by omega)) nin0)).keep K27 (ninS (own_nn (by omega)) (ninS (own_nn (by omega)) nin0)))
  have f37 := (((V_ty.ext E7).keep K14 (ninS (own_nn (by omega)) nin0)).keep K27 (ninS (own_nn (by omega)) (ninS (own_nn (by omega)) nin0)))
  have f38 := (own_sta_keep f26 K27 (allS (own_exa_plain P14_0) (allS (own_arv_plain P14_5) all0)))
  have f39 := (own_sta_keep (own_sta_keep (S_FM.ext E7) K14 (allS (own_exa_plain A7) all0)) K27 (allS (own_exa_plain P14_0) (allS (own_arv_plain P14_5) all0)))
  have z41 : n0 ≤ T27.heap.size := by omega
  refine own_virtualH X27 hx hZ hEL hown (own_w hw 120 rfl) (own_w hw 121 rfl) (notFace_of_selects (args := #[]) (mvT hZ (own_w hw 123 rfl))) (own_w hw 123 rfl) (own_w hw 122 rfl) (own_w hw 2 rfl) (own_w hw 124 rfl) (by decide) (strSub_1_1 l Z a0 hw [] y ty ky fm zc u0 T27.heap n0 z41 f34 f35 f36 f37 f38 hz f39 hfm) 1 (Nat.le_of_eq rfl) (by decide) (by decide) (by rw [hml]; rfl) (argsL := [(.int 1)]) (st := [(.ref b7)]) f34 (lenOf pd_20 rfl) rfl rfl (by decide) (by decide) rfl hby C31.1 hS0 (by omega) d9_16 ?_
  intro T40 v40 L40 vm40 X40 hS40 hZ40 hown40 hg40 Cn40 hQ40
  obtain ⟨r_40, tr_40, kr_40, rfl, Nq40, K40, P40_0, P40_1, P40_2, P40_3⟩ := hQ40
  have N40 := Fr.app N27 Nq40
  have z42 : T27.heap.size ≤ T40.heap.size := K40.1
  have C43 := C31.trans Cn40
  have lt44 : T40.heap.size > r_40 := P40_0.lt
  have lt45 : T40.heap.size > tr_40 := P40_3.lt
  refine own_sh (T := T40) 19 #[.val (.ref u), .val (.ref y)] [(.ref r_40), (.ref b7)] ?_
  have f46 := (P27_0.keep K40)
  have f47 := (P27_1.keep K40 nin0)
  have f48 := (P27_2.keep K40 nin0)
  have f49 := (P27_4.keep K40 nin0)
  have f50 := (own_sta_keep f38 K40 all0)
  have f51 := (P27_3.keep K40 nin0)
  have z53 : n0 ≤ T40.heap.size := by omega
  refine own_virtual X40 hx hZ40 hown40 (own_w hw 73 rfl) (own_w hw 74 rfl) (notFace_of_selects (args := #[]) (mvT hZ40 (own_w hw 76 rfl))) (own_w hw 76 rfl) (own_w hw 75 rfl) (own_w hw 57 rfl) (own_w hw 77 rfl) (by decide) (sbApp_2_0 l Z a0 hw [] b7 b_14 r_40 tr_40 kb_14 kr_40 zc w0 w1 T40.heap n0 z53 f46 f47 f48 f49 P40_0 P40_1 P40_2 P40_3 (by omega) f50 hz (by omega) f51) 0 (Nat.le_of_eq rfl) (by decide) (by decide) (by rw [hml]; rfl) (argsL := [(.ref r_40)]) (st := []) f46 (lenOf pd_19 rfl) rfl rfl (by decide) (by decide) rfl hby d9_19 ?_
  intro T52 v52 L52 X52 hQ52
  obtain ⟨rfl, Nq52, K52, P52_0, P52_1, P52_2, P52_3, P52_4⟩ := hQ52
  have N52 := Fr.app N40 Nq52
  have z54 : T40.heap.size ≤ T52.heap.size := K52.1
  have sf55 := (Cn40.safe (own_ll (by omega)) (Safe.keep K27 (sfS (Safe.exa hZ.alike P14_0 (by decide) (by decide)) (sfS sf30 sf0)) C17.1 sf30))
  have C56 := C43.trans (CHr.keep K52 (sfS (Safe.exa hZ40.alike f46 (by decide) (by decide)) (sfS sf55 sf0)) C43.1)
  have lt57 : T52.heap.size > b7 := P52_0.lt
  have lt58 : T52.heap.size > b_14 := P52_4.lt
  refine own_sh (T := T52) 22 #[.val (.ref u), .val (.ref y)] [(.ref b7)] ?_
  have f59 := (own_sta_keep f50 K52 (allS (own_exa_plain f46) (allS (own_arv_plain f49) all0)))
  have z61 : n0 ≤ T52.heap.size := by omega
  refine own_virtual X52 hx hZ40 hown40 (own_w hw 167 rfl) (own_w hw 168 rfl) (notFace_of_selects (args := #[]) (mvT hZ40 (own_w hw 170 rfl))) (own_w hw 170 rfl) (own_w hw 169 rfl) (own_w hw 57 rfl) (own_w hw 171 rfl) (by decide) (sbStr_2 l Z a0 hw [] b7 b_14 kb_14 zc w0 w1 T52.heap n0 z61 P52_0 P52_1 P52_2 P52_3 P52_4 f59 hz) 0 (Nat.le_of_eq rfl) (by decide) (by decide) (by rw [hml]; rfl) (argsL := []) (st := []) P52_0 (lenOf pd_21 rfl) rfl rfl (by decide) (by decide) rfl hby d9_22 ?_
  intro T60 v60 L60 X60 hQ60
  obtain ⟨x_60, t_60, kt_60, rfl, Nq60, K60, P60_0, P60_1, P60_2, P60_3, P60_4⟩ := hQ60
  have N60 := Fr.app N52 Nq60
  have z62 : T52.heap.size ≤ T60.heap.size := K60.1
  have C63 := C56.trans (CHr.keep K60 sf0 C56.1)
  have lt64 : T60.heap.size > x_60 := P60_1.lt
  have lt65 : T60.heap.size > t_60 := P60_4.lt
  refine own_sh (T := T60) 25 #[.val (.ref u), .val (.ref y)] [(.ref x_60)] ?_
  have K66 : Keep h0 T60.heap [] := (((((((Keep.refl h0 []).ext E7).trans K14 (allS (P := fun xq_ => xq_ ∈ [] ∨ h0.size ≤ xq_) (Or.inr (by omega)) all0)).trans K27 (allS (P := fun xq_ => xq_ ∈ [] ∨ h0.size ≤ xq_) (Or.inr (by omega)) (allS (P := fun xq_ => xq_ ∈ [] ∨ h0.size ≤ xq_) (Or.inr (by omega)) all0))).trans K40 all0).trans K52 (allS (P := fun xq_ => xq_ ∈ [] ∨ h0.size ≤ xq_) (Or.inr (by omega)) (allS (P := fun xq_ => xq_ ∈ [] ∨ h0.size ≤ xq_) (Or.inr (by omega)) all0))).trans K60 all0)
  obtain ⟨fs, hr, hrun, hended, hRW⟩ := X60.leaveW hS40 (by omega) (v := some (.ref x_60)) (fun h => by rw [Bd.returns] at h; cases h)
  have hCf : CHr Z consts_1 s.vm s.heap T60.vm T60.heap := by
    rw [hh]
    exact C63.trans (CHv.at X60 hZ40 hEL C63.1)
  refine own_ret (t := T60.setFrames fs) ?_ ⟨_, hrun, hended, _, _, rfl, ?_, hCf, hRW.1, hRW.2.1, hRW.2.2.1, hRW.2.2.2.mono (by decide) (by decide)⟩
  · exact retOut X60 hx Bd.returns rfl (Or.inr (Or.inr (Or.inr (Or.inr ⟨rfl, rfl, rfl⟩)))) (hb hby d9_25) hr
  · show Q_uriOf_2_1 Z _ _ _ _ _ _ _ _ _ _ _ _ h0 n0 _ T60.heap _
    exact ⟨x_60, t_60, kt_60, rfl, N60, K66, (by omega), P60_1, P60_2, P60_3, P60_4⟩
def Q_asbEns_4 (Z : State) (sb : Nat) (b : Nat) (kb : ClassId) (vs_ : List Value) (h0 : Heap) (n0 : Nat) (vR : Option Value) (hR : Heap) (LR : List Loc) : Prop := vR = none ∧ Fr n0 LR ∧ hR = h0
set_option maxRecDepth 65536 in
set_option maxHeartbeats 40000000 in
theorem asbEns_4 (l : Launch) (Z : State) (a0 : Array Value) (hw : ∀ d ∈ tables_1, d.before a0 Z = true) (ws : List Jvm.Cond) (sb : Nat) (b : Nat) (kb : ClassId) (vs_ : List Value) (h0 : Heap) (n0 : Nat) (Z0 : n0 ≤ h0.size) (F_value_sb : Fld Z h0 sb "java/lang/AbstractStringBuilder" "value" "[B" (.ref b)) (F_coder_sb : Fld Z h0 sb "java/lang/AbstractStringBuilder" "coder" "B" (.int 0)) (V_b : Arv Z h0 b kb .byte (16 : Int32) vs_ (.int 0)) :
    own_M l (⟨"java/lang/AbstractStringBuilder", "ensureCapacityInternal", "(I)V"⟩ : MethodName) jdk_68_method_9_code 3 none ws ({ frames := 0, cells := 0, slots := 0, locals := 0 } : Room) Z #[(.ref sb), (.int 4)] h0 (Q_asbEns_4 Z sb b kb vs_ h0 n0) := by
  refine own_body (own := "java/lang/AbstractStringBuilder") rfl (plainFor_of_name pn_16) (fun m => ef_asbEns_0 m sb (4 : Int32)) ?_
  intro p e s m below meth c s₁ Bd hml hZ hh hx hby hown X0 e0
  have N0 := Fr.nil n0
  have lt1 : h0.size > sb := F_value_sb.lt
  have lt2 : h0.size > b := V_b.lt
  refine own_aloadN X0.here hx hby d16_0 rfl rfl ?_
  refine own_getF X0 hx hZ hown (host := "") (Or.inl (own_w hw 69 rfl)) Via.refl e0 F_value_sb hby d16_1 ?_
  intro T3 X3 e3
  refine own_alen X3 hx hZ e3 V_b hby d16_4 ?_
  refine own_aloadN X3.here hx hby d16_5 rfl rfl ?_
  refine own_getF X3 hx hZ hown (host := "") (Or.inl (own_w hw 71 rfl)) Via.refl e3 F_coder_sb hby d16_6 ?_
  intro T4 X4 e4
  refine own_ishr X4.here hx hby d16_9 (v := (16 : Int32)) (by decide) ?_
  refine own_istoreN X4.here hx hby d16_10 (l' := #[.val (.ref sb), .val (.int 4), .val (.int 16)]) rfl ?_
  refine own_iloadN X4.here hx hby d16_11 rfl ?_
  refine own_iloadN X4.here hx hby d16_12 rfl ?_
  refine own_isub X4.here hx hby d16_13 (v := (-12 : Int32)) (by decide) ?_
  refine own_ifYes X4.here hx hby (pc' := 38) d16_14 ((if0 _ _).trans (flt (show ¬ ((0 : Int32) < (-12 : Int32)) from (by decide))).2.2.2) (by decide) (by decide) ?_
  obtain ⟨fs, hr, hrun, hended, hW, hsame⟩ := X4.leave (v := none) (fun _ => rfl)
  refine own_ret (t := T4.setFrames fs) ?_ ⟨_, hrun, hended, _, _, rfl, ?_, ⟨_, rfl⟩, hW, hsame.mono (by decide) (by decide)⟩
  · exact X4.returnOut hx Bd.returns (hb hby d16_38) hr
  · show Q_asbEns_4 Z _ _ _ _ h0 n0 _ T4.heap _
    rw [e4]
    exact ⟨rfl, N0, rfl⟩
def Q_strGB_2_2 (Z : State) (x : Nat) (t : Nat) (b : Nat) (kt : ClassId) (kb : ClassId) (zc : Int32) (w0 : Int32) (w1 : Int32) (u0 : Int32) (u1 : Int32) (h0 : Heap) (n0 : Nat) (vR : Option Value) (hR : Heap) (LR : List Loc) : Prop := vR = none ∧ Fr n0 LR ∧ Keep h0 hR [b] ∧ (Arv Z hR b kb .byte (16 : Int32) [(.int w0), (.int w1), (.int u0), (.int u1), (.int 0), (.int 0), (.int 0), (.int 0), (.int 0), (.int 0), (.int 0), (.int 0), (.int 0), (.int 0), (.int 0), (.int 0)] (.int 0))
set_option maxRecDepth 65536 in
set_option maxHeartbeats 40000000 in
theorem strGB_2_2 (l : Launch) (Z : State) (a0 : Array Value) (hw : ∀ d ∈ tables_1, d.before a0 Z = true) (ws : List Jvm.Cond) (x : Nat) (t : Nat) (b : Nat) (kt : ClassId) (kb : ClassId) (zc : Int32) (w0 : Int32) (w1 : Int32) (u0 : Int32) (u1 : Int32) (h0 : Heap) (n0 : Nat) (Z0 : n0 ≤ h0.size) (E_x : Exa Z h0 x "java/lang/String") (Fc_x : Fld Z h0 x "java/lang/String" "coder" "B" (.int 0)) (Fv_x : Fld Z h0 x "java/lang/String" "value" "[B" (.ref t)) (V_t : Arv Z h0 t kt .byte (2 : Int32) [(.int u0), (.int u1)] (.int 0)) (g_b : n0 ≤ b) (V_b : Arv Z h0 b kb .byte (16 : Int32) [(.int w0), (.int w1), (.int 0), (.int 0), (.int 0), (.int 0), (.int 0), (.int 0), (.int 0), (.int 0), (.int 0), (.int 0), (.int 0), (.int 0), (.int 0), (.int 0)] (.int 0)) (S_C : Sta Z h0 "java/lang/String" "COMPACT_STRINGS" "Z" (.int zc)) (hz : ¬ (zc = (0 : Int32))) :
    own_M l (⟨"java/lang/String", "getBytes", "([BIB)V"⟩ : MethodName) jdk_42_method_147_code 4 none ws ({ frames := 1, cells := 0, slots := 0, locals := 18 } : Room) Z #[(.ref x), (.ref b), (.int 2), (.int 0)] h0 (Q_strGB_2_2 Z x t b kt kb zc w0 w1 u0 u1 h0 n0) := by
  refine own_body (own := "java/lang/String") rfl (plainFor_of_name pn_19) (fun m => ef_strGB_0_0 m x b (2 : Int32) (0 : Int32)) ?_
  intro p e s m below meth c s₁ Bd hml hZ hh hx hby hown X0 e0
  have N0 := Fr.nil n0
  have lt2 : h0.size > x := E_x.lt
  have lt3 : h0.size > t := V_t.lt
  have lt4 : h0.size > b := V_b.lt
  refine own_aloadN X0.here hx hby d19_0 rfl rfl ?_
  refine own_virtual X0 hx hZ hown (own_w hw 88 rfl) (own_w hw 89 rfl) (notFace_of_selects (args := #[]) (mvT hZ (own_w hw 91 rfl))) (own_w hw 91 rfl) (own_w hw 90 rfl) (own_w hw 2 rfl) (own_w hw 92 rfl) (by decide) (strCoder l Z a0 hw [] x zc h0 n0 Z0 Fc_x S_C hz) 0 (Nat.le_of_eq rfl) (by decide) (by decide) (by rw [hml]; rfl) (argsL := []) (st := []) E_x (lenOf pd_2 rfl) rfl rfl (by decide) (by decide) e0 hby d19_1 ?_
  intro T5 v5 L5 X5 hQ5
  obtain ⟨rfl, Nq5, eh5⟩ := hQ5
  have N5 := Fr.app N0 Nq5
  refine own_sh (T := T5) 4 #[.val (.ref x), .val (.ref b), .val (.int 2), .val (.int 0)] [(.int 0)] ?_
  refine own_iloadN X5.here hx hby d19_4 rfl ?_
  refine own_icmpNo X5.here hx hby d19_5 (teq (show (0 : Int32) = (0 : Int32) from (by decide))).2 ?_
  refine own_aloadN X5.here hx hby d19_8 rfl rfl ?_
  refine own_getF X5 hx hZ hown (host := "") (Or.inl (own_w hw 32 rfl)) Via.refl eh5 Fv_x hby d19_9 ?_
  intro T6 X6 e6
  refine own_iconst X6.here hx hby d19_12 (v := (0 : Int32)) (by decide) ?_
  refine own_aloadN X6.here hx hby d19_13 rfl rfl ?_
  refine own_iloadN X6.here hx hby d19_14 rfl ?_
  refine own_iloadN X6.here hx hby d19_15 rfl ?_
  refine own_ishl X6.here hx hby d19_16 (v := (2 : Int32)) (by decide) ?_
  refine own_aloadN X6.here hx hby d19_17 rfl rfl ?_
  refine own_getF X6 hx hZ hown (host := "") (Or.inl (own_w hw 32 rfl)) Via.refl e6 Fv_x hby d19_18 ?_
  intro T7 X7 e7
  refine own_alen X7 hx hZ e7 V_t hby d19_21 ?_
  refine own_copyL X7 hx hZ hown (own_w hw 116 rfl) (own_w hw 119 rfl) (own_w hw 117 rfl) (own_w hw 118 rfl) e7 V_t V_b (res := [(.int w0), (.int w1), (.int u0), (.int u1), (.int 0), (.int 0), (.int 0), (.int 0), (.int 0), (.int 0), (.int 0), (.int 0), (.int 0), (.int 0), (.int 0), (.int 0)]) rfl 0 2 2 (by decide) (by decide) (by decide) (by decide) (by decide) (by decide) (by decide) (by decide) (Nat.le_of_ble_eq_true rfl) rfl N5 g_b (by rw [hml]; rfl) hby d19_22 (by decide) 0 (Nat.le_of_eq rfl) (by decide) ?_
  intro T8 h8 lo8 X8 e8 N8 K8 V8 z8
  refine own_goto X8.here hx hby (pc' := 43) d19_25 (by decide) (by decide) ?_
  have K9 : Keep h0 h8 [b] := ((Keep.refl h0 [b]).trans K8 (allS (P := fun xq_ => xq_ ∈ [b] ∨ h0.size ≤ xq_) (Or.inl (List.mem_of_getElem? (i := 0) rfl)) all0))
  obtain ⟨fs, hr, hrun, hended, hW, hsame⟩ := X8.leave (v := none) (fun _ => rfl)
  refine own_ret (t := T8.setFrames fs) ?_ ⟨_, hrun, hended, _, _, rfl, ?_, ⟨_, rfl⟩, hW, hsame.mono (by decide) (by decide)⟩
  · exact X8.returnOut hx Bd.returns (hb hby d19_43) hr
  · show Q_strGB_2_2 Z _ _ _ _ _ _ _ _ _ _ h0 n0 _ T8.heap _
    rw [e8]
    exact ⟨rfl, N8, K9, V8⟩
def Q_asbPut_2_2 (Z : State) (sb : Nat) (b : Nat) (x : Nat) (t : Nat) (kb : ClassId) (kt : ClassId) (zc : Int32) (w0 : Int32) (w1 : Int32) (u0 : Int32) (u1 : Int32) (h0 : Heap) (n0 : Nat) (vR : Option Value) (hR : Heap) (LR : List Loc) : Prop := vR = none ∧ Fr n0 LR ∧ Keep h0 hR [b] ∧ (Arv Z hR b kb .byte (16 : Int32) [(.int w0), (.int w1), (.int u0), (.int u1), (.int 0), (.int 0), (.int 0), (.int 0), (.int 0), (.int 0), (.int 0), (.int 0), (.int 0), (.int 0), (.int 0), (.int 0)] (.int 0))
set_option maxRecDepth 65536 in
set_option maxHeartbeats 40000000 in
theorem asbPut_2_2 (l : Launch) (Z : State) (a0 : Array Value) (hw : ∀ d ∈ tables_1, d.before a0 Z = true) (ws : List Jvm.Cond) (sb : Nat) (b : Nat) (x : Nat) (t : Nat) (kb : ClassId) (kt : ClassId) (zc : Int32) (w0 : Int32) (w1 : Int32) (u0 : Int32) (u1 : Int32) (h0 : Heap) (n0 : Nat) (Z0 : n0 ≤ h0.size) (E_sb : Exa Z h0 sb "java/lang/StringBuilder") (F_value_sb : Fld Z h0 sb "java/lang/AbstractStringBuilder" "value" "[B" (.ref b)) (F_coder_sb : Fld Z h0 sb "java/lang/AbstractStringBuilder" "coder" "B" (.int 0)) (V_b : Arv Z h0 b kb .byte (16 : Int32) [(.int w0), (.int w1), (.int 0), (.int 0), (.int 0), (.int 0), (.int 0), (.int 0), (.int 0), (.int 0), (.int 0), (.int 0), (.int 0), (.int 0), (.int 0), (.int 0)] (.int 0)) (E_x : Exa Z h0 x "java/lang/String") (Fc_x : Fld Z h0 x "java/lang/String" "coder" "B" (.int 0)) (Fv_x : Fld Z h0 x "java/lang/String" "value" "[B" (.ref t)) (V_t : Arv Z h0 t kt .byte (2 : Int32) [(.int u0), (.int u1)] (.int 0)) (g_b : n0 ≤ b) (S_C : Sta Z h0 "java/lang/String" "COMPACT_STRINGS" "Z" (.int zc)) (hz : ¬ (zc = (0 : Int32))) :
    own_M l (⟨"java/lang/AbstractStringBuilder", "putStringAt", "(ILjava/lang/String;)V"⟩ : MethodName) jdk_68_method_73_code 3 none ws ({ frames := 2, cells := 0, slots := 0, locals := 33 } : Room) Z #[(.ref sb), (.int 2), (.ref x)] h0 (Q_asbPut_2_2 Z sb b x t kb kt zc w0 w1 u0 u1 h0 n0) := by
  refine own_body (own := "java/lang/AbstractStringBuilder") rfl (plainFor_of_name pn_17) (fun m => ef_asbPut_0_0 m sb (2 : Int32) x) ?_
  intro p e s m below meth c s₁ Bd hml hZ hh hx hby hown X0 e0
  have N0 := Fr.nil n0
  have lt2 : h0.size > sb := E_sb.lt
  have lt3 : h0.size > b := V_b.lt
  have lt4 : h0.size > x := E_x.lt
  have lt5 : h0.size > t := V_t.lt
  refine own_aloadN X0.here hx hby d17_0 rfl rfl ?_
  refine own_aloadN X0.here hx hby d17_1 rfl rfl ?_
  refine own_privateS X0 hx hZ hown (own_w hw 105 rfl) (own_w hw 106 rfl) (own_w hw 108 rfl) (own_w hw 107 rfl) (own_w hw 65 rfl) (own_w hw 109 rfl) (by decide) (asbInfl l Z a0 hw [] sb x zc h0 n0 Z0 F_coder_sb E_x Fc_x S_C hz) 0 (Nat.le_of_eq rfl) (by decide) (by decide) (by rw [hml]; rfl) (argsL := [(.ref x)]) (st := []) E_sb (lenOf pd_3 rfl) rfl rfl (by decide) (by decide) e0 hby d17_2 ?_
  intro T6 v6 L6 X6 hQ6
  obtain ⟨rfl, Nq6, eh6⟩ := hQ6
  have N6 := Fr.app N0 Nq6
  refine own_sh (T := T6) 5 #[.val (.ref sb), .val (.int 2), .val (.ref x)] [] ?_
  refine own_aloadN X6.here hx hby d17_5 rfl rfl ?_
  refine own_aloadN X6.here hx hby d17_6 rfl rfl ?_
  refine own_getF X6 hx hZ hown (host := "") (Or.inl (own_w hw 69 rfl)) Via.refl eh6 F_value_sb hby d17_7 ?_
  intro T7 X7 e7
  refine own_iloadN X7.here hx hby d17_10 rfl ?_
  refine own_aloadN X7.here hx hby d17_11 rfl rfl ?_
  refine own_getF X7 hx hZ hown (host := "") (Or.inl (own_w hw 71 rfl)) Via.refl e7 F_coder_sb hby d17_12 ?_
  intro T8 X8 e8
  refine own_virtual X8 hx hZ hown (own_w hw 111 rfl) (own_w hw 112 rfl) (notFace_of_selects (args := #[]) (mvT hZ (own_w hw 114 rfl))) (own_w hw 114 rfl) (own_w hw 113 rfl) (own_w hw 2 rfl) (own_w hw 115 rfl) (by decide) (strGB_2_2 l Z a0 hw [] x t b kt kb zc w0 w1 u0 u1 h0 n0 Z0 E_x Fc_x Fv_x V_t g_b V_b S_C hz) 0 (Nat.le_of_eq rfl) (by decide) (by decide) (by rw [hml]; rfl) (argsL := [(.ref b), (.int 2), (.int 0)]) (st := []) E_x (lenOf pd_4 rfl) rfl rfl (by decide) (by decide) e8 hby d17_15 ?_
  intro T9 v9 L9 X9 hQ9
  obtain ⟨rfl, Nq9, K9, P9_0⟩ := hQ9
  have N9 := Fr.app N6 Nq9
  have z10 : h0.size ≤ T9.heap.size := K9.1
  have lt11 : T9.heap.size > b := P9_0.lt
  refine own_sh (T := T9) 18 #[.val (.ref sb), .val (.int 2), .val (.ref x)] [] ?_
  have K12 : Keep h0 T9.heap [b] := ((Keep.refl h0 [b]).trans K9 (allS (P := fun xq_ => xq_ ∈ [b] ∨ h0.size ≤ xq_) (Or.inl (List.mem_of_getElem? (i := 0) rfl)) all0))
  obtain ⟨fs, hr, hrun, hended, hW, hsame⟩ := X9.leave (v := none) (fun _ => rfl)
  refine own_ret (t := T9.setFrames fs) ?_ ⟨_, hrun, hended, _, _, rfl, ?_, ⟨_, rfl⟩, hW, hsame.mono (by decide) (by decide)⟩
  · exact X9.returnOut hx Bd.returns (hb hby d17_18) hr
  · show Q_asbPut_2_2 Z _ _ _ _ _ _ _ _ _ _ _ h0 n0 _ T9.heap _
    exact ⟨rfl, N9, K12, P9_0⟩
def Q_asbApp_2_2 (Z : State) (sb : Nat) (b : Nat) (x : Nat) (t : Nat) (kb : ClassId) (kt : ClassId) (zc : Int32) (w0 : Int32) (w1 : Int32) (u0 : Int32) (u1 : Int32) (h0 : Heap) (n0 : Nat) (vR : Option Value) (hR : Heap) (LR : List Loc) : Prop := vR = some (.ref sb) ∧ Fr n0 LR ∧ Keep h0 hR [sb, b] ∧ (Exa Z hR sb "java/lang/StringBuilder") ∧ (Fld Z hR sb "java/lang/AbstractStringBuilder" "value" "[B" (.ref b)) ∧ (Fld Z hR sb "java/lang/AbstractStringBuilder" "coder" "B" (.int 0)) ∧ (Fld Z hR sb "java/lang/AbstractStringBuilder" "count" "I" (.int 4)) ∧ (Arv Z hR b kb .byte (16 : Int32) [(.int w0), (.int w1), (.int u0), (.int u1), (.int 0), (.int 0), (.int 0), (.int 0), (.int 0), (.int 0), (.int 0), (.int 0), (.int 0), (.int 0), (.int 0), (.int 0)] (.int 0))
set_option maxRecDepth 65536 in
set_option maxHeartbeats 40000000 in
theorem asbApp_2_2 (l : Launch) (Z : State) (a0 : Array Value) (hw : ∀ d ∈ tables_1, d.before a0 Z = true) (ws : List Jvm.Cond) (sb : Nat) (b : Nat) (x : Nat) (t : Nat) (kb : ClassId) (kt : ClassId) (zc : Int32) (w0 : Int32) (w1 : Int32) (u0 : Int32) (u1 : Int32) (h0 : Heap) (n0 : Nat) (Z0 : n0 ≤ h0.size) (E_sb : Exa Z h0 sb "java/lang/StringBuilder") (F_value_sb : Fld Z h0 sb "java/lang/AbstractStringBuilder" "value" "[B" (.ref b)) (F_coder_sb : Fld Z h0 sb "java/lang/AbstractStringBuilder" "coder" "B" (.int 0)) (V_b : Arv Z h0 b kb .byte (16 : Int32) [(.int w0), (.int w1), (.int 0), (.int 0), (.int 0), (.int 0), (.int 0), (.int 0), (.int 0), (.int 0), (.int 0), (.int 0), (.int 0), (.int 0), (.int 0), (.int 0)] (.int 0)) (E_x : Exa Z h0 x "java/lang/String") (Fc_x : Fld Z h0 x "java/lang/String" "coder" "B" (.int 0)) (Fv_x : Fld Z h0 x "java/lang/String" "value" "[B" (.ref t)) (V_t : Arv Z h0 t kt .byte (2 : Int32) [(.int u0), (.int u1)] (.int 0)) (g_b : n0 ≤ b) (S_C : Sta Z h0 "java/lang/String" "COMPACT_STRINGS" "Z" (.int zc)) (hz : ¬ (zc = (0 : Int32))) (g_sb : n0 ≤ sb) (F_count_sb : Fld Z h0 sb "java/lang/AbstractStringBuilder" "count" "I" (.int 2)) :
    own_M l (⟨"java/lang/AbstractStringBuilder", "append", "(Ljava/lang/String;)Ljava/lang/AbstractStringBuilder;"⟩ : MethodName) jdk_68_method_22_code 3 (some (.object "java/lang/AbstractStringBuilder")) ws ({ frames := 3, cells := 0, slots := 0, locals := 47 } : Room) Z #[(.ref sb), (.ref x)] h0 (Q_asbApp_2_2 Z sb b x t kb kt zc w0 w1 u0 u1 h0 n0) := by
  refine own_body (own := "java/lang/AbstractStringBuilder") rfl (plainFor_of_name pn_13) (fun m => ef_asbApp_0_0 m sb x) ?_
  intro p e s m below meth c s₁ Bd hml hZ hh hx hby hown X0 e0
  have N0 := Fr.nil n0
  have lt2 : h0.size > sb := E_sb.lt
  have lt3 : h0.size > b := V_b.lt
  have lt4 : h0.size > x := E_x.lt
  have lt5 : h0.size > t := V_t.lt
  refine own_aloadN X0.here hx hby d13_0 rfl rfl ?_
  refine own_ifnonnullYes X0.here hx hby (pc' := 9) d13_1 (by decide) (by decide) ?_
  refine own_aloadN X0.here hx hby d13_9 rfl rfl ?_
  refine own_virtual X0 hx hZ hown (own_w hw 83 rfl) (own_w hw 84 rfl) (notFace_of_selects (args := #[]) (mvT hZ (own_w hw 86 rfl))) (own_w hw 86 rfl) (own_w hw 85 rfl) (own_w hw 2 rfl) (own_w hw 87 rfl) (by decide) (strLen_2 l Z a0 hw [] x t kt zc ([(.int u0), (.int u1)]) h0 n0 Z0 E_x Fc_x Fv_x V_t S_C hz) 0 (Nat.le_of_eq rfl) (by decide) (by decide) (by rw [hml]; rfl) (argsL := []) (st := []) E_x (lenOf pd_5 rfl) rfl rfl (by decide) (by decide) e0 hby d13_10 ?_
  intro T6 v6 L6 X6 hQ6
  obtain ⟨rfl, Nq6, eh6⟩ := hQ6
  have N6 := Fr.app N0 Nq6
  refine own_sh (T := T6) 13 #[.val (.ref sb), .val (.ref x), .unset] [(.int 2)] ?_
  refine own_istoreN X6.here hx hby d13_13 (l' := #[.val (.ref sb), .val (.ref x), .val (.int 2)]) rfl ?_
  refine own_aloadN X6.here hx hby d13_14 rfl rfl ?_
  refine own_aloadN X6.here hx hby d13_15 rfl rfl ?_
  refine own_getF X6 hx hZ hown (host := "") (Or.inl (own_w hw 93 rfl)) Via.refl eh6 F_count_sb hby d13_16 ?_
  intro T7 X7 e7
  refine own_iloadN X7.here hx hby d13_19 rfl ?_
  refine own_iadd X7.here hx hby d13_20 (v := (4 : Int32)) (by decide) ?_
  refine own_privateS X7 hx hZ hown (own_w hw 95 rfl) (own_w hw 96 rfl) (own_w hw 98 rfl) (own_w hw 97 rfl) (own_w hw 65 rfl) (own_w hw 99 rfl) (by decide) (asbEns_4 l Z a0 hw [] sb b kb ([(.int w0), (.int w1), (.int 0), (.int 0), (.int 0), (.int 0), (.int 0), (.int 0), (.int 0), (.int 0), (.int 0), (.int 0), (.int 0), (.int 0), (.int 0), (.int 0)]) h0 n0 Z0 F_value_sb F_coder_sb V_b) 0 (Nat.le_of_eq rfl) (by decide) (by decide) (by rw [hml]; rfl) (argsL := [(.int 4)]) (st := []) E_sb (lenOf pd_1 rfl) rfl rfl (by decide) (by decide) e7 hby d13_21 ?_
  intro T8 v8 L8 X8 hQ8
  obtain ⟨rfl, Nq8, eh8⟩ := hQ8
  have N8 := Fr.app N6 Nq8
  refine own_sh (T := T8) 24 #[.val (.ref sb), .val (.ref x), .val (.int 2)] [] ?_
  refine own_aloadN X8.here hx hby d13_24 rfl rfl ?_
  refine own_aloadN X8.here hx hby d13_25 rfl rfl ?_
  refine own_getF X8 hx hZ hown (host := "") (Or.inl (own_w hw 93 rfl)) Via.refl eh8 F_count_sb hby d13_26 ?_
  intro T9 X9 e9
  refine own_aloadN X9.here hx hby d13_29 rfl rfl ?_
  refine own_privateS X9 hx hZ hown (own_w hw 100 rfl) (own_w hw 101 rfl) (own_w hw 103 rfl) (own_w hw 102 rfl) (own_w hw 65 rfl) (own_w hw 104 rfl) (by decide) (asbPut_2_2 l Z a0 hw [] sb b x t kb kt zc w0 w1 u0 u1 h0 n0 Z0 E_sb F_value_sb F_coder_sb V_b E_x Fc_x Fv_x V_t g_b S_C hz) 0 (Nat.le_of_eq rfl) (by decide) (by decide) (by rw [hml]; rfl) (argsL := [(.int 2), (.ref x)]) (st := []) E_sb (lenOf pd_6 rfl) rfl rfl (by decide) (by decide) e9 hby d13_30 ?_
  intro T10 v10 L10 X10 hQ10
  obtain ⟨rfl, Nq10, K10, P10_0⟩ := hQ10
  have N10 := Fr.app N8 Nq10
  have z11 : h0.size ≤ T10.heap.size := K10.1
  have lt12 : T10.heap.size > b := P10_0.lt
  refine own_sh (T := T10) 33 #[.val (.ref sb), .val (.ref x), .val (.int 2)] [] ?_
  refine own_aloadN X10.here hx hby d13_33 rfl rfl ?_
  refine own_dup X10.here hx hby d13_34 rfl ?_
  have f13 := (F_count_sb.keep K10 (ninS (own_ne_oa E_sb (own_w hw 56 rfl) V_b) nin0))
  refine own_getF X10 hx hZ hown (host := "") (Or.inl (own_w hw 93 rfl)) Via.refl rfl f13 hby d13_35 ?_
  intro T14 X14 e14
  refine own_iloadN X14.here hx hby d13_38 rfl ?_
  refine own_iadd X14.here hx hby d13_39 (v := (4 : Int32)) (by decide) ?_
  have f15 := (E_sb.keep K10)
  refine own_putF X14 hx hZ (ty := .int) hown (host := "") (Or.inl (own_w hw 93 rfl)) Via.refl e14 f13 f15 (Or.inl (own_w hw 94 rfl)) (own_w hw 56 rfl) (by decide) rfl rfl hby d13_40 N10 g_sb ?_
  intro T16 h16 lo16 X16 e16 N16 W16 F16 z16
  refine own_aloadN X16.here hx hby d13_43 rfl rfl ?_
  have K17 : Keep h0 h16 [sb, b] := (((Keep.refl h0 [sb, b]).trans K10 (allS (P := fun xq_ => xq_ ∈ [sb, b] ∨ h0.size ≤ xq_) (Or.inl (List.mem_of_getElem? (i := 1) rfl)) all0)).wr W16 (Or.inl (List.mem_of_getElem? (i := 0) rfl)))
  have f18 := (f15.wr W16)
  have f19 := ((F_value_sb.keep K10 (ninS (own_ne_oa E_sb (own_w hw 56 rfl) V_b) nin0)).other W16 (Or.inr (slot_ne (Or.inl (own_w hw 70 rfl)) (Or.inl (own_w hw 94 rfl)) (by decide) (t := (.array .byte)) (t' := .int) (by decide) (by decide))))
  have f20 := ((F_coder_sb.keep K10 (ninS (own_ne_oa E_sb (own_w hw 56 rfl) V_b) nin0)).other W16 (Or.inr (slot_ne (Or.inl (own_w hw 72 rfl)) (Or.inl (own_w hw 94 rfl)) (by decide) (t := .byte) (t' := .int) (by decide) (by decide))))
  have f21 := (P10_0.other W16 (Ne.symm (own_ne_oa E_sb (own_w hw 56 rfl) V_b)))
  obtain ⟨fs, hr, hrun, hended, hW, hsame⟩ := X16.leave (v := some (.ref sb)) (fun h => by rw [Bd.returns] at h; cases h)
  refine own_ret (t := T16.setFrames fs) ?_ ⟨_, hrun, hended, _, _, rfl, ?_, ⟨_, rfl⟩, hW, hsame.mono (by decide) (by decide)⟩
  · exact retOut X16 hx Bd.returns rfl (Or.inr (Or.inr (Or.inr (Or.inr ⟨rfl, rfl, rfl⟩)))) (hb hby d13_44) hr
  · show Q_asbApp_2_2 Z _ _ _ _ _ _ _ _ _ _ _ h0 n0 _ T16.heap _
    rw [e16]
    exact ⟨rfl, N16, K17, f18, f19, f20, F16, f21⟩
def Q_sbApp_2_2 (Z : State) (sb : Nat) (b : Nat) (x : Nat) (t : Nat) (kb : ClassId) (kt : ClassId) (zc : Int32) (w0 : Int32) (w1 : Int32) (u0 : Int32) (u1 : Int32) (h0 : Heap) (n0 : Nat) (vR : Option Value) (hR : Heap) (LR : List Loc) : Prop := vR = some (.ref sb) ∧ Fr n0 LR ∧ Keep h0 hR [sb, b] ∧ (Exa Z hR sb "java/lang/StringBuilder") ∧ (Fld Z hR sb "java/lang/AbstractStringBuilder" "value" "[B" (.ref b)) ∧ (Fld Z hR sb "java/lang/AbstractStringBuilder" "coder" "B" (.int 0)) ∧ (Fld Z hR sb "java/lang/AbstractStringBuilder" "count" "I" (.int 4)) ∧ (Arv Z hR b kb .byte (16 : Int32) [(.int w0), (.int w1), (.int u0), (.int u1), (.int 0), (.int 0), (.int 0), (.int 0), (.int 0), (.int 0), (.int 0), (.int 0), (.int 0), (.int 0), (.int 0), (.int 0)] (.int 0))
set_option maxRecDepth 65536 in
set_option maxHeartbeats 40000000 in
theorem sbApp_2_2 (l : Launch) (Z : State) (a0 : Array Value) (hw : ∀ d ∈ tables_1, d.before a0 Z = true) (ws : List Jvm.Cond) (sb : Nat) (b : Nat) (x : Nat) (t : Nat) (kb : ClassId) (kt : ClassId) (zc : Int32) (w0 : Int32) (w1 : Int32) (u0 : Int32) (u1 : Int32) (h0 : Heap) (n0 : Nat) (Z0 : n0 ≤ h0.size) (E_sb : Exa Z h0 sb "java/lang/StringBuilder") (F_value_sb : Fld Z h0 sb "java/lang/AbstractStringBuilder" "value" "[B" (.ref b)) (F_coder_sb : Fld Z h0 sb "java/lang/AbstractStringBuilder" "coder" "B" (.int 0)) (V_b : Arv Z h0 b kb .byte (16 : Int32) [(.int w0), (.int w1), (.int 0), (.int 0), (.int 0), (.int 0), (.int 0), (.int 0), (.int 0), (.int 0), (.int 0), (.int 0), (.int 0), (.int 0), (.int 0), (.int 0)] (.int 0)) (E_x : Exa Z h0 x "java/lang/String") (Fc_x : Fld Z h0 x "java/lang/String" "coder" "B" (.int 0)) (Fv_x : Fld Z h0 x "java/lang/String" "value" "[B" (.ref t)) (V_t : Arv Z h0 t kt .byte (2 : Int32) [(.int u0), (.int u1)] (.int 0)) (g_b : n0 ≤ b) (S_C : Sta Z h0 "java/lang/String" "COMPACT_STRINGS" "Z" (.int zc)) (hz : ¬ (zc = (0 : Int32))) (g_sb : n0 ≤ sb) (F_count_sb : Fld Z h0 sb "java/lang/AbstractStringBuilder" "count" "I" (.int 2)) :
    own_M l (⟨"java/lang/StringBuilder", "append", "(Ljava/lang/String;)Ljava/lang/StringBuilder;"⟩ : MethodName) jdk_67_method_7_code 2 (some (.object "java/lang/StringBuilder")) ws ({ frames := 4, cells := 0, slots := 0, locals := 61 } : Room) Z #[(.ref sb), (.ref x)] h0 (Q_sbApp_2_2 Z sb b x t kb kt zc w0 w1 u0 u1 h0 n0) := by
  refine own_body (own := "java/lang/StringBuilder") rfl (plainFor_of_name pn_12) (fun m => ef_sbApp_0_0 m sb x) ?_
  intro p e s m below meth c s₁ Bd hml hZ hh hx hby hown X0 e0
  have N0 := Fr.nil n0
  have lt2 : h0.size > sb := E_sb.lt
  have lt3 : h0.size > b := V_b.lt
  have lt4 : h0.size > x := E_x.lt
  have lt5 : h0.size > t := V_t.lt
  refine own_aloadN X0.here hx hby d12_0 rfl rfl ?_
  refine own_aloadN X0.here hx hby d12_1 rfl rfl ?_
  refine own_super X0 hx hZ (by decide) hown (own_w hw 78 rfl) (own_sameM (y := (⟨"java/lang/AbstractStringBuilder", "append", "(Ljava/lang/String;)Ljava/lang/AbstractStringBuilder;"⟩ : MethodName)) (y' := (⟨"java/lang/AbstractStringBuilder", "ensureCapacityInternal", "(I)V"⟩ : MethodName)) rfl (own_w hw 79 rfl) (own_w hw 98 rfl) (by decide)) (own_w hw 79 rfl) (own_w hw 80 rfl) (own_w hw 65 rfl) (own_w hw 82 rfl) (asbApp_2_2 l Z a0 hw [] sb b x t kb kt zc w0 w1 u0 u1 h0 n0 Z0 E_sb F_value_sb F_coder_sb V_b E_x Fc_x Fv_x V_t g_b S_C hz g_sb F_count_sb) 0 (Nat.le_of_eq rfl) (by decide) (by decide) (by rw [hml]; rfl) (argsL := [(.ref x)]) (st := []) E_sb (lenOf pd_7 rfl) rfl rfl (by decide) (by decide) e0 hby d12_2 ?_
  intro T6 v6 L6 X6 hQ6
  obtain ⟨rfl, Nq6, K6, P6_0, P6_1, P6_2, P6_3, P6_4⟩ := hQ6
  have N6 := Fr.app N0 Nq6
  have z7 : h0.size ≤ T6.heap.size := K6.1
  have lt8 : T6.heap.size > sb := P6_0.lt
  have lt9 : T6.heap.size > b := P6_4.lt
  refine own_sh (T := T6) 5 #[.val (.ref sb), .val (.ref x)] [(.ref sb)] ?_
  refine own_pop X6.here hx hby d12_5 rfl ?_
  refine own_aloadN X6.here hx hby d12_6 rfl rfl ?_
  have K10 : Keep h0 T6.heap [sb, b] := ((Keep.refl h0 [sb, b]).trans K6 (allS (P := fun xq_ => xq_ ∈ [sb, b] ∨ h0.size ≤ xq_) (Or.inl (List.mem_of_getElem? (i := 0) rfl)) (allS (P := fun xq_ => xq_ ∈ [sb, b] ∨ h0.size ≤ xq_) (Or.inl (List.mem_of_getElem? (i := 1) rfl)) all0)))
  obtain ⟨fs, hr, hrun, hended, hW, hsame⟩ := X6.leave (v := some (.ref sb)) (fun h => by rw [Bd.returns] at h; cases h)
  refine own_ret (t := T6.setFrames fs) ?_ ⟨_, hrun, hended, _, _, rfl, ?_, ⟨_, rfl⟩, hW, hsame.mono (by decide) (by decide)⟩
  · exact retOut X6 hx Bd.returns rfl (Or.inr (Or.inr (Or.inr (Or.inr ⟨rfl, rfl, rfl⟩)))) (hb hby d12_7) hr
  · show Q_sbApp_2_2 Z _ _ _ _ _ _ _ _ _ _ _ h0 n0 _ T6.heap _
    exact ⟨rfl, N6, K10, P6_0, P6_1, P6_2, P6_3, P6_4⟩
def Q_min_16_4 (Z : State)  (h0 : Heap) (n0 : Nat) (vR : Option Value) (hR : Heap) (LR : List Loc) : Prop := vR = some (.int 4) ∧ Fr n0 LR ∧ hR = h0
set_option maxRecDepth 65536 in
set_option maxHeartbeats 40000000 in
theorem min_16_4 (l : Launch) (Z : State) (a0 : Array Value) (hw : ∀ d ∈ tables_1, d.before a0 Z = true) (ws : List Jvm.Cond)  (h0 : Heap) (n0 : Nat) (Z0 : n0 ≤ h0.size)  :
    own_M l (⟨"java/lang/Math", "min", "(II)I"⟩ : MethodName) jdk_29_method_69_code 2 (some .int) ws ({ frames := 0, cells := 0, slots := 0, locals := 0 } : Room) Z #[(.int 16), (.int 4)] h0 (Q_min_16_4 Z  h0 n0) := by
  refine own_body (own := "java/lang/Math") rfl (Jvm.Free.JP.mathPlain rfl (by decide +kernel)) (fun m => ef_min_16_0 m (16 : Int32) (4 : Int32)) ?_
  intro p e s m below meth c s₁ Bd hml hZ hh hx hby hown X0 e0
  have N0 := Fr.nil n0
  refine own_iloadN X0.here hx hby d29_0 rfl ?_
  refine own_iloadN X0.here hx hby d29_1 rfl ?_
  refine own_icmpYes X0.here hx hby (pc' := 9) d29_2 (tlt (show (4 : Int32) < (16 : Int32) from (by decide))).2.2.1 (by decide) (by decide) ?_
  refine own_iloadN X0.here hx hby d29_9 rfl ?_
  obtain ⟨fs, hr, hrun, hended, hW, hsame⟩ := X0.leave (v := some (.int 4)) (fun h => by rw [Bd.returns] at h; cases h)
  refine own_ret (t := s₁.setFrames fs) ?_ ⟨_, hrun, hended, _, _, rfl, ?_, ⟨_, rfl⟩, hW, hsame.mono (by decide) (by decide)⟩
  · exact retOut X0 hx Bd.returns rfl (Or.inl ⟨rfl, Or.inl rfl, _, rfl⟩) (hb hby d29_10) hr
  · show Q_min_16_4 Z h0 n0 _ s₁.heap _
    rw [e0]
    exact ⟨rfl, N0, rfl⟩
def Q_arrChk_0_4 (Z : State)  (h0 : Heap) (n0 : Nat) (vR : Option Value) (hR : Heap) (LR : List Loc) : Prop := vR = none ∧ Fr n0 LR ∧ hR = h0
set_option maxRecDepth 65536 in
set_option maxHeartbeats 40000000 in
theorem arrChk_0_4 (l : Launch) (Z : State) (a0 : Array Value) (hw : ∀ d ∈ tables_1, d.before a0 Z = true) (ws : List Jvm.Cond)  (h0 : Heap) (n0 : Nat) (Z0 : n0 ≤ h0.size)  :
    own_M l (⟨"java/util/Arrays", "checkLength", "(II)V"⟩ : MethodName) jdk_65_method_131_code 2 none ws ({ frames := 0, cells := 0, slots := 0, locals := 0 } : Room) Z #[(.int 0), (.int 4)] h0 (Q_arrChk_0_4 Z  h0 n0) := by
  refine own_body (own := "java/util/Arrays") rfl (plainFor_of_name pn_28) (fun m => ef_arrChk_0_0 m (0 : Int32) (4 : Int32)) ?_
  intro p e s m below meth c s₁ Bd hml hZ hh hx hby hown X0 e0
  have N0 := Fr.nil n0
  refine own_iloadN X0.here hx hby d28_0 rfl ?_
  refine own_iloadN X0.here hx hby d28_1 rfl ?_
  refine own_icmpYes X0.here hx hby (pc' := 37) d28_2 (flt (show ¬ ((4 : Int32) < (0 : Int32)) from (by decide))).2.1 (by decide) (by decide) ?_
  obtain ⟨fs, hr, hrun, hended, hW, hsame⟩ := X0.leave (v := none) (fun _ => rfl)
  refine own_ret (t := s₁.setFrames fs) ?_ ⟨_, hrun, hended, _, _, rfl, ?_, ⟨_, rfl⟩, hW, hsame.mono (by decide) (by decide)⟩
  · exact X0.returnOut hx Bd.returns (hb hby d28_37) hr
  · show Q_arrChk_0_4 Z h0 n0 _ s₁.heap _
    rw [e0]
    exact ⟨rfl, N0, rfl⟩
def Q_crB_0_4_16 (Z : State) (t : Nat) (kt : ClassId) (u0 : Int32) (u1 : Int32) (u2 : Int32) (u3 : Int32) (h0 : Heap) (n0 : Nat) (vR : Option Value) (hR : Heap) (LR : List Loc) : Prop := ∃ (r : Nat) (kr : ClassId), vR = some (.ref r) ∧ Fr n0 LR ∧ Keep h0 hR [] ∧ h0.size ≤ r ∧ (Arv Z hR r kr .byte (4 : Int32) [(.int u0), (.int u1), (.int u2), (.int u3)] (.int 0))
set_option maxRecDepth 65536 in
set_option maxHeartbeats 40000000 in
theorem crB_0_4_16 (l : Launch) (Z : State) (a0 : Array Value) (hw : ∀ d ∈ tables_1, d.before a0 Z = true) (ws : List Jvm.Cond) (t : Nat) (kt : ClassId) (u0 : Int32) (u1 : Int32) (u2 : Int32) (u3 : Int32) (h0 : Heap) (n0 : Nat) (Z0 : n0 ≤ h0.size) (V_t : Arv Z h0 t kt .byte (16 : Int32) [(.int u0), (.int u1), (.int u2), (.int u3), (.int 0), (.int 0), (.int 0), (.int 0), (.int 0), (.int 0), (.int 0), (.int 0), (.int 0), (.int 0), (.int 0), (.int 0)] (.int 0)) :
    own_M l (⟨"java/util/Arrays", "copyOfRangeByte", "([BII)[B"⟩ : MethodName) jdk_65_method_133_code 5 (some (.array .byte)) ws ({ frames := 1, cells := 1, slots := 4, locals := 18 } : Room) Z #[(.ref t), (.int 0), (.int 4)] h0 (Q_crB_0_4_16 Z t kt u0 u1 u2 u3 h0 n0) := by
  refine own_body (own := "java/util/Arrays") rfl (plainFor_of_name pn_27) (fun m => ef_crB_0_0_16 m t (0 : Int32) (4 : Int32)) ?_
  intro p e s m below meth c s₁ Bd hml hZ hh hx hby hown X0 e0
  have N0 := Fr.nil n0
  have lt4 : h0.size > t := V_t.lt
  refine own_iloadN X0.here hx hby d27_0 rfl ?_
  refine own_iloadN X0.here hx hby d27_1 rfl ?_
  refine own_callS X0 hx hZ hown (own_w hw 156 rfl) (own_w hw 157 rfl) (own_w hw 151 rfl) (own_w hw 158 rfl) (by decide) (arrChk_0_4 l Z a0 hw []  h0 n0 Z0 ) 0 (Nat.le_of_eq rfl) (by decide) (by decide) (by rw [hml]; rfl) (argsL := [(.int 0), (.int 4)]) (st := []) (lenOf pd_13 rfl) rfl rfl (by decide) (by decide) e0 hby d27_2 ?_
  intro T5 v5 L5 X5 hQ5
  obtain ⟨rfl, Nq5, eh5⟩ := hQ5
  have N5 := Fr.app N0 Nq5
  refine own_sh (T := T5) 5 #[.val (.ref t), .val (.int 0), .val (.int 4), .unset, .unset] [] ?_
  refine own_iloadN X5.here hx hby d27_5 rfl ?_
  refine own_iloadN X5.here hx hby d27_6 rfl ?_
  refine own_isub X5.here hx hby d27_7 (v := (4 : Int32)) (by decide) ?_
  refine own_istoreN X5.here hx hby d27_8 (l' := #[.val (.ref t), .val (.int 0), .val (.int 4), .val (.int 4), .unset]) rfl ?_
  refine own_iloadN X5.here hx hby d27_9 rfl ?_
  refine own_newP X5 hx hZ (aty := .byte) (own_w hw 4 rfl) eh5 hby d27_10 (by decide) 4 (by decide) (by decide) (by decide) (by decide) (ad := "[B") (by decide) ?_
  intro T6 h6 k6 b6 X6 e6 E6 g6 V6 C6 lt6
  have z7 : h0.size ≤ h6.size := E6.1
  have V8 : Arv Z h6 b6 k6 .byte (4 : Int32) [(.int 0), (.int 0), (.int 0), (.int 0)] (.int 0) := V6.pad (pad_rep [] (.int 0) 4)
  refine own_astore X6.here hx hby d27_12 rfl (l' := #[.val (.ref t), .val (.int 0), .val (.int 4), .val (.int 4), .val (.ref b6)]) rfl ?_
  refine own_aloadN X6.here hx hby d27_14 rfl rfl ?_
  refine own_iloadN X6.here hx hby d27_15 rfl ?_
  refine own_aload X6.here hx hby d27_16 rfl rfl ?_
  refine own_iconst X6.here hx hby d27_18 (v := (0 : Int32)) (by decide) ?_
  refine own_aloadN X6.here hx hby d27_19 rfl rfl ?_
  have f9 := (V_t.ext E6)
  refine own_alen X6 hx hZ e6 f9 hby d27_20 ?_
  refine own_iloadN X6.here hx hby d27_21 rfl ?_
  refine own_isub X6.here hx hby d27_22 (v := (16 : Int32)) (by decide) ?_
  refine own_iloadN X6.here hx hby d27_23 rfl ?_
  have z11 : n0 ≤ h6.size := by omega
  refine own_callS X6 hx hZ hown (own_w hw 159 rfl) (own_w hw 160 rfl) (own_w hw 161 rfl) (own_w hw 162 rfl) (by decide) (min_16_4 l Z a0 hw []  h6 n0 z11 ) 4 (Nat.le_of_eq rfl) (by decide) (by decide) (by rw [hml]; rfl) (argsL := [(.int 16), (.int 4)]) (st := [(.int 0), (.ref b6), (.int 0), (.ref t)]) (lenOf pd_14 rfl) rfl rfl (by decide) (by decide) e6 hby d27_24 ?_
  intro T10 v10 L10 X10 hQ10
  obtain ⟨rfl, Nq10, eh10⟩ := hQ10
  have N10 := Fr.app N5 Nq10
  refine own_sh (T := T10) 27 #[.val (.ref t), .val (.int 0), .val (.int 4), .val (.int 4), .val (.ref b6)] [(.int 4), (.int 0), (.ref b6), (.int 0), (.ref t)] ?_
  refine own_copyL X10 hx hZ hown (own_w hw 163 rfl) (own_w hw 119 rfl) (own_w hw 117 rfl) (own_w hw 118 rfl) eh10 f9 V8 (res := [(.int u0), (.int u1), (.int u2), (.int u3)]) rfl 0 0 4 (by decide) (by decide) (by decide) (by decide) (by decide) (by decide) (by decide) (by decide) (Nat.le_of_ble_eq_true rfl) rfl N10 (by omega) (by rw [hml]; rfl) hby d27_27 (by decide) 0 (Nat.le_of_eq rfl) (by decide) ?_
  intro T12 h12 lo12 X12 e12 N12 K12 V12 z12
  refine own_aload X12.here hx hby d27_30 rfl rfl ?_
  have K13 : Keep h0 h12 [] := (((Keep.refl h0 []).ext E6).trans K12 (allS (P := fun xq_ => xq_ ∈ [] ∨ h0.size ≤ xq_) (Or.inr (by omega)) all0))
  obtain ⟨fs, hr, hrun, hended, hW, hsame⟩ := X12.leave (v := some (.ref b6)) (fun h => by rw [Bd.returns] at h; cases h)
  refine own_ret (t := T12.setFrames fs) ?_ ⟨_, hrun, hended, _, _, rfl, ?_, ⟨_, rfl⟩, hW, hsame.mono (by decide) (by decide)⟩
  · exact retOut X12 hx Bd.returns rfl (Or.inr (Or.inr (Or.inr (Or.inr ⟨rfl, rfl, rfl⟩)))) (hb hby d27_32) hr
  · show Q_crB_0_4_16 Z _ _ _ _ _ _ h0 n0 _ T12.heap _
    rw [e12]
    exact ⟨b6, k6, rfl, N12, K13, (by omega), V12⟩
def Q_cr_0_4_16 (Z : State) (t : Nat) (kt : ClassId) (u0 : Int32) (u1 : Int32) (u2 : Int32) (u3 : Int32) (h0 : Heap) (n0 : Nat) (vR : Option Value) (hR : Heap) (LR : List Loc) : Prop := ∃ (r : Nat) (kr : ClassId), vR = some (.ref r) ∧ Fr n0 LR ∧ Keep h0 hR [] ∧ h0.size ≤ r ∧ (Arv Z hR r kr .byte (4 : Int32) [(.int u0), (.int u1), (.int u2), (.int u3)] (.int 0))
set_option maxRecDepth 65536 in
set_option maxHeartbeats 40000000 in
theorem cr_0_4_16 (l : Launch) (Z : State) (a0 : Array Value) (hw : ∀ d ∈ tables_1, d.before a0 Z = true) (ws : List Jvm.Cond) (t : Nat) (kt : ClassId) (u0 : Int32) (u1 : Int32) (u2 : Int32) (u3 : Int32) (h0 : Heap) (n0 : Nat) (Z0 : n0 ≤ h0.size) (V_t : Arv Z h0 t kt .byte (16 : Int32) [(.int u0), (.int u1), (.int u2), (.int u3), (.int 0), (.int 0), (.int 0), (.int 0), (.int 0), (.int 0), (.int 0), (.int 0), (.int 0), (.int 0), (.int 0), (.int 0)] (.int 0)) :
    own_M l (⟨"java/util/Arrays", "copyOfRange", "([BII)[B"⟩ : MethodName) jdk_65_method_132_code 3 (some (.array .byte)) ws ({ frames := 2, cells := 1, slots := 4, locals := 34 } : Room) Z #[(.ref t), (.int 0), (.int 4)] h0 (Q_cr_0_4_16 Z t kt u0 u1 u2 u3 h0 n0) := by
  refine own_body (own := "java/util/Arrays") rfl (plainFor_of_name pn_26) (fun m => ef_cr_0_0_16 m t (0 : Int32) (4 : Int32)) ?_
  intro p e s m below meth c s₁ Bd hml hZ hh hx hby hown X0 e0
  have N0 := Fr.nil n0
  have lt4 : h0.size > t := V_t.lt
  refine own_iloadN X0.here hx hby d26_0 rfl ?_
  refine own_ifNo X0.here hx hby d26_1 ((if0 _ _).trans (teq (show (0 : Int32) = (0 : Int32) from (by decide))).2) ?_
  refine own_iloadN X0.here hx hby d26_4 rfl ?_
  refine own_aloadN X0.here hx hby d26_5 rfl rfl ?_
  refine own_alen X0 hx hZ e0 V_t hby d26_6 ?_
  refine own_icmpNo X0.here hx hby d26_7 (feq (show ¬ ((4 : Int32) = (16 : Int32)) from (by decide))).1 ?_
  refine own_aloadN X0.here hx hby d26_10 rfl rfl ?_
  refine own_iloadN X0.here hx hby d26_11 rfl ?_
  refine own_iloadN X0.here hx hby d26_12 rfl ?_
  refine own_callS X0 hx hZ hown (own_w hw 153 rfl) (own_w hw 154 rfl) (own_w hw 151 rfl) (own_w hw 155 rfl) (by decide) (crB_0_4_16 l Z a0 hw [] t kt u0 u1 u2 u3 h0 n0 Z0 V_t) 0 (Nat.le_of_eq rfl) (by decide) (by decide) (by rw [hml]; rfl) (argsL := [(.ref t), (.int 0), (.int 4)]) (st := []) (lenOf pd_15 rfl) rfl rfl (by decide) (by decide) e0 hby d26_13 ?_
  intro T5 v5 L5 X5 hQ5
  obtain ⟨r_5, kr_5, rfl, Nq5, K5, P5_0, P5_1⟩ := hQ5
  have N5 := Fr.app N0 Nq5
  have z6 : h0.size ≤ T5.heap.size := K5.1
  have lt7 : T5.heap.size > r_5 := P5_1.lt
  refine own_sh (T := T5) 16 #[.val (.ref t), .val (.int 0), .val (.int 4)] [(.ref r_5)] ?_
  have K8 : Keep h0 T5.heap [] := ((Keep.refl h0 []).trans K5 all0)
  obtain ⟨fs, hr, hrun, hended, hW, hsame⟩ := X5.leave (v := some (.ref r_5)) (fun h => by rw [Bd.returns] at h; cases h)
  refine own_ret (t := T5.setFrames fs) ?_ ⟨_, hrun, hended, _, _, rfl, ?_, ⟨_, rfl⟩, hW, hsame.mono (by decide) (by decide)⟩
  · exact retOut X5 hx Bd.returns rfl (Or.inr (Or.inr (Or.inr (Or.inr ⟨rfl, rfl, rfl⟩)))) (hb hby d26_16) hr
  · show Q_cr_0_4_16 Z _ _ _ _ _ _ h0 n0 _ T5.heap _
    exact ⟨r_5, kr_5, rfl, N5, K8, (by omega), P5_1⟩
def Q_asbLen_4 (Z : State) (sb : Nat) (h0 : Heap) (n0 : Nat) (vR : Option Value) (hR : Heap) (LR : List Loc) : Prop := vR = some (.int 4) ∧ Fr n0 LR ∧ hR = h0
set_option maxRecDepth 65536 in
set_option maxHeartbeats 40000000 in
theorem asbLen_4 (l : Launch) (Z : State) (a0 : Array Value) (hw : ∀ d ∈ tables_1, d.before a0 Z = true) (ws : List Jvm.Cond) (sb : Nat) (h0 : Heap) (n0 : Nat) (Z0 : n0 ≤ h0.size) (F_count_sb : Fld Z h0 sb "java/lang/AbstractStringBuilder" "count" "I" (.int 4)) :
    own_M l (⟨"java/lang/AbstractStringBuilder", "length", "()I"⟩ : MethodName) jdk_68_method_6_code 1 (some .int) ws ({ frames := 0, cells := 0, slots := 0, locals := 0 } : Room) Z #[(.ref sb)] h0 (Q_asbLen_4 Z sb h0 n0) := by
  refine own_body (own := "java/lang/AbstractStringBuilder") rfl (plainFor_of_name pn_36) (fun m => ef_asbLen_0 m sb) ?_
  intro p e s m below meth c s₁ Bd hml hZ hh hx hby hown X0 e0
  have N0 := Fr.nil n0
  have lt1 : h0.size > sb := F_count_sb.lt
  refine own_aloadN X0.here hx hby d36_0 rfl rfl ?_
  refine own_getF X0 hx hZ hown (host := "") (Or.inl (own_w hw 93 rfl)) Via.refl e0 F_count_sb hby d36_1 ?_
  intro T2 X2 e2
  obtain ⟨fs, hr, hrun, hended, hW, hsame⟩ := X2.leave (v := some (.int 4)) (fun h => by rw [Bd.returns] at h; cases h)
  refine own_ret (t := T2.setFrames fs) ?_ ⟨_, hrun, hended, _, _, rfl, ?_, ⟨_, rfl⟩, hW, hsame.mono (by decide) (by decide)⟩
  · exact retOut X2 hx Bd.returns rfl (Or.inl ⟨rfl, Or.inl rfl, _, rfl⟩) (hb hby d36_4) hr
  · show Q_asbLen_4 Z _ h0 n0 _ T2.heap _
    rw [e2]
    exact ⟨rfl, N0, rfl⟩
def Q_sbLen_4 (Z : State) (sb : Nat) (h0 : Heap) (n0 : Nat) (vR : Option Value) (hR : Heap) (LR : List Loc) : Prop := vR = some (.int 4) ∧ Fr n0 LR ∧ hR = h0
set_option maxRecDepth 65536 in
set_option maxHeartbeats 40000000 in
theorem sbLen_4 (l : Launch) (Z : State) (a0 : Array Value) (hw : ∀ d ∈ tables_1, d.before a0 Z = true) (ws : List Jvm.Cond) (sb : Nat) (h0 : Heap) (n0 : Nat) (Z0 : n0 ≤ h0.size) (E_sb : Exa Z h0 sb "java/lang/StringBuilder") (F_count_sb : Fld Z h0 sb "java/lang/AbstractStringBuilder" "count" "I" (.int 4)) :
    own_M l (⟨"java/lang/StringBuilder", "length", "()I"⟩ : MethodName) jdk_67_method_93_code 1 (some .int) ws ({ frames := 1, cells := 0, slots := 0, locals := 12 } : Room) Z #[(.ref sb)] h0 (Q_sbLen_4 Z sb h0 n0) := by
  refine own_body (own := "java/lang/StringBuilder") rfl (plainFor_of_name pn_35) (fun m => ef_sbLen_0 m sb) ?_
  intro p e s m below meth c s₁ Bd hml hZ hh hx hby hown X0 e0
  have N0 := Fr.nil n0
  have lt1 : h0.size > sb := E_sb.lt
  refine own_aloadN X0.here hx hby d35_0 rfl rfl ?_
  refine own_super X0 hx hZ (by decide) hown (own_w hw 190 rfl) (own_sameM (y := (⟨"java/lang/AbstractStringBuilder", "length", "()I"⟩ : MethodName)) (y' := (⟨"java/lang/AbstractStringBuilder", "ensureCapacityInternal", "(I)V"⟩ : MethodName)) rfl (own_w hw 186 rfl) (own_w hw 98 rfl) (by decide)) (own_w hw 186 rfl) (own_w hw 80 rfl) (own_w hw 65 rfl) (own_w hw 191 rfl) (asbLen_4 l Z a0 hw [] sb h0 n0 Z0 F_count_sb) 0 (Nat.le_of_eq rfl) (by decide) (by decide) (by rw [hml]; rfl) (argsL := []) (st := []) E_sb (lenOf pd_5 rfl) rfl rfl (by decide) (by decide) e0 hby d35_1 ?_
  intro T2 v2 L2 X2 hQ2
  obtain ⟨rfl, Nq2, eh2⟩ := hQ2
  have N2 := Fr.app N0 Nq2
  refine own_sh (T := T2) 4 #[.val (.ref sb)] [(.int 4)] ?_
  obtain ⟨fs, hr, hrun, hended, hW, hsame⟩ := X2.leave (v := some (.int 4)) (fun h => by rw [Bd.returns] at h; cases h)
  refine own_ret (t := T2.setFrames fs) ?_ ⟨_, hrun, hended, _, _, rfl, ?_, ⟨_, rfl⟩, hW, hsame.mono (by decide) (by decide)⟩
  · exact retOut X2 hx Bd.returns rfl (Or.inl ⟨rfl, Or.inl rfl, _, rfl⟩) (hb hby d35_4) hr
  · show Q_sbLen_4 Z _ h0 n0 _ T2.heap _
    rw [eh2]
    exact ⟨rfl, N2, rfl⟩
def Q_strOfA_4 (Z : State) (x : Nat) (sb : Nat) (b : Nat) (kb : ClassId) (zc : Int32) (w0 : Int32) (w1 : Int32) (w2 : Int32) (w3 : Int32) (h0 : Heap) (n0 : Nat) (vR : Option Value) (hR : Heap) (LR : List Loc) : Prop := ∃ (t : Nat) (kt : ClassId), vR = none ∧ Fr n0 LR ∧ Keep h0 hR [x] ∧ h0.size ≤ t ∧ (Exa Z hR x "java/lang/String") ∧ (Fld Z hR x "java/lang/String" "coder" "B" (.int 0)) ∧ (Fld Z hR x "java/lang/String" "value" "[B" (.ref t)) ∧ (Arv Z hR t kt .byte (4 : Int32) [(.int w0), (.int w1), (.int w2), (.int w3)] (.int 0))
set_option maxRecDepth 65536 in
set_option maxHeartbeats 40000000 in
theorem strOfA_4 (l : Launch) (Z : State) (a0 : Array Value) (hw : ∀ d ∈ tables_1, d.before a0 Z = true) (ws : List Jvm.Cond) (x : Nat) (sb : Nat) (b : Nat) (kb : ClassId) (zc : Int32) (w0 : Int32) (w1 : Int32) (w2 : Int32) (w3 : Int32) (h0 : Heap) (n0 : Nat) (Z0 : n0 ≤ h0.size) (E_x : Exa Z h0 x "java/lang/String") (g_x : n0 ≤ x) (Fv_x : Fld Z h0 x "java/lang/String" "value" "[B" .null) (Fc_x : Fld Z h0 x "java/lang/String" "coder" "B" (.int 0)) (E_sb : Exa Z h0 sb "java/lang/StringBuilder") (F_value_sb : Fld Z h0 sb "java/lang/AbstractStringBuilder" "value" "[B" (.ref b)) (F_coder_sb : Fld Z h0 sb "java/lang/AbstractStringBuilder" "coder" "B" (.int 0)) (F_count_sb : Fld Z h0 sb "java/lang/AbstractStringBuilder" "count" "I" (.int 4)) (V_b : Arv Z h0 b kb .byte (16 : Int32) [(.int w0), (.int w1), (.int w2), (.int w3), (.int 0), (.int 0), (.int 0), (.int 0), (.int 0), (.int 0), (.int 0), (.int 0), (.int 0), (.int 0), (.int 0), (.int 0)] (.int 0)) (S_C : Sta Z h0 "java/lang/String" "COMPACT_STRINGS" "Z" (.int zc)) (hz : ¬ (zc = (0 : Int32))) :
    own_M l (⟨"java/lang/String", "<init>", "(Ljava/lang/AbstractStringBuilder;Ljava/lang/Void;)V"⟩ : MethodName) jdk_42_method_150_code 5 none ws ({ frames := 3, cells := 1, slots := 4, locals := 49 } : Room) Z #[(.ref x), (.ref sb), .null] h0 (Q_strOfA_4 Z x sb b kb zc w0 w1 w2 w3 h0 n0) := by
  refine own_body (own := "java/lang/String") rfl (plainFor_of_name pn_33) (fun m => ef_strOfA_0 m x sb) ?_
  intro p e s m below meth c s₁ Bd hml hZ hh hx hby hown X0 e0
  have N0 := Fr.nil n0
  have lt4 : h0.size > x := E_x.lt
  have lt5 : h0.size > sb := E_sb.lt
  have lt6 : h0.size > b := V_b.lt
  refine own_aloadN X0.here hx hby d33_0 rfl rfl ?_
  refine own_initO X0 hx hZ hown (own_w hw 17 rfl) (own_w hw 18 rfl) (own_w hw 19 rfl) e0 (by rw [hml]; rfl) hby d33_1 (by decide) 0 (Nat.le_of_eq rfl) (by decide) ?_
  intro T7 X7 e7
  refine own_aloadN X7.here hx hby d33_4 rfl rfl ?_
  refine own_virtual X7 hx hZ hown (own_w hw 179 rfl) (own_w hw 180 rfl) (notFace_of_selects (args := #[]) (mvT hZ (own_w hw 182 rfl))) (own_w hw 182 rfl) (own_w hw 181 rfl) (own_w hw 65 rfl) (own_w hw 183 rfl) (by decide) (asbVal l Z a0 hw [] sb b h0 n0 Z0 F_value_sb) 0 (Nat.le_of_eq rfl) (by decide) (by decide) (by rw [hml]; rfl) (argsL := []) (st := []) E_sb (lenOf pd_16 rfl) rfl rfl (by decide) (by decide) e7 hby d33_5 ?_
  intro T8 v8 L8 X8 hQ8
  obtain ⟨rfl, Nq8, eh8⟩ := hQ8
  have N8 := Fr.app N0 Nq8
  refine own_sh (T := T8) 8 #[.val (.ref x), .val (.ref sb), .val .null, .unset, .unset] [(.ref b)] ?_
  refine own_astoreN X8.here hx hby d33_8 rfl (l' := #[.val (.ref x), .val (.ref sb), .val .null, .val (.ref b), .unset]) rfl ?_
  refine own_aloadN X8.here hx hby d33_9 rfl rfl ?_
  refine own_virtual X8 hx hZ hown (own_w hw 184 rfl) (own_w hw 185 rfl) (own_notFace (args := #[]) (y := (⟨"java/lang/AbstractStringBuilder", "length", "()I"⟩ : MethodName)) (y' := (⟨"java/lang/AbstractStringBuilder", "ensureCapacityInternal", "(I)V"⟩ : MethodName)) rfl (mvT hZ (own_w hw 98 rfl))) (own_w hw 187 rfl) (own_w hw 188 rfl) (own_w hw 57 rfl) (own_w hw 189 rfl) (by decide) (sbLen_4 l Z a0 hw [] sb h0 n0 Z0 E_sb F_count_sb) 0 (Nat.le_of_eq rfl) (by decide) (by decide) (by rw [hml]; rfl) (argsL := []) (st := []) E_sb (lenOf pd_5 rfl) rfl rfl (by decide) (by decide) eh8 hby d33_10 ?_
  intro T9 v9 L9 X9 hQ9
  obtain ⟨rfl, Nq9, eh9⟩ := hQ9
  have N9 := Fr.app N8 Nq9
  refine own_sh (T := T9) 13 #[.val (.ref x), .val (.ref sb), .val .null, .val (.ref b), .unset] [(.int 4)] ?_
  refine own_istore X9.here hx hby d33_13 (l' := #[.val (.ref x), .val (.ref sb), .val .null, .val (.ref b), .val (.int 4)]) rfl ?_
  refine own_aloadN X9.here hx hby d33_15 rfl rfl ?_
  refine own_virtual X9 hx hZ hown (own_w hw 192 rfl) (own_w hw 193 rfl) (notFace_of_selects (args := #[]) (mvT hZ (own_w hw 195 rfl))) (own_w hw 195 rfl) (own_w hw 194 rfl) (own_w hw 65 rfl) (own_w hw 196 rfl) (by decide) (asbIsL l Z a0 hw [] sb zc h0 n0 Z0 F_coder_sb S_C hz) 0 (Nat.le_of_eq rfl) (by decide) (by decide) (by rw [hml]; rfl) (argsL := []) (st := []) E_sb (lenOf pd_10 rfl) rfl rfl (by decide) (by decide) eh9 hby d33_16 ?_
  intro T10 v10 L10 X10 hQ10
  obtain ⟨rfl, Nq10, eh10⟩ := hQ10
  have N10 := Fr.app N9 Nq10
  refine own_sh (T := T10) 19 #[.val (.ref x), .val (.ref sb), .val .null, .val (.ref b), .val (.int 4)] [(.int 1)] ?_
  refine own_ifNo X10.here hx hby d33_19 ((if0 _ _).trans (feq (show ¬ ((1 : Int32) = (0 : Int32)) from (by decide))).1) ?_
  refine own_aloadN X10.here hx hby d33_22 rfl rfl ?_
  refine own_iconst X10.here hx hby d33_23 (v := (0 : Int32)) (by decide) ?_
  refine own_putFN X10 hx hZ (ty := .byte) (v' := (.int 0)) hown (own_w hw 31 rfl) Via.refl eh10 Fc_x E_x (Or.inr ⟨(own_w hw 6 rfl), rfl, (name_of_methodNamed Bd.named Bd.method).1⟩) (own_w hw 3 rfl) (by decide) rfl rfl hby d33_24 N10 g_x ?_
  intro T11 h11 lo11 X11 e11 N11 W11 F11 z11
  refine own_aloadN X11.here hx hby d33_27 rfl rfl ?_
  refine own_aloadN X11.here hx hby d33_28 rfl rfl ?_
  refine own_iconst X11.here hx hby d33_29 (v := (0 : Int32)) (by decide) ?_
  refine own_iload X11.here hx hby d33_30 rfl ?_
  have f12 := (V_b.other W11 (Ne.symm (own_ne_oa E_x (own_w hw 3 rfl) V_b)))
  have z14 : n0 ≤ h11.size := by omega
  refine own_callS X11 hx hZ hown (own_w hw 197 rfl) (own_w hw 150 rfl) (own_w hw 151 rfl) (own_w hw 152 rfl) (by decide) (cr_0_4_16 l Z a0 hw [] b kb w0 w1 w2 w3 h11 n0 z14 f12) 1 (Nat.le_of_eq rfl) (by decide) (by decide) (by rw [hml]; rfl) (argsL := [(.ref b), (.int 0), (.int 4)]) (st := [(.ref x)]) (lenOf pd_15 rfl) rfl rfl (by decide) (by decide) e11 hby d33_32 ?_
  intro T13 v13 L13 X13 hQ13
  obtain ⟨r_13, kr_13, rfl, Nq13, K13, P13_0, P13_1⟩ := hQ13
  have N13 := Fr.app N11 Nq13
  have z15 : h11.size ≤ T13.heap.size := K13.1
  have lt16 : T13.heap.size > r_13 := P13_1.lt
  refine own_sh (T := T13) 35 #[.val (.ref x), .val (.ref sb), .val .null, .val (.ref b), .val (.int 4)] [(.ref r_13), (.ref x)] ?_
  have f17 := ((E_x.wr W11).keep K13)
  have f18 := ((Fv_x.other W11 (Or.inr (slot_ne (Or.inr (own_w hw 5 rfl)) (Or.inr (own_w hw 6 rfl)) (by decide) (t := (.array .byte)) (t' := .byte) (by decide) (by decide)))).keep K13 nin0)
  refine own_putF X13 hx hZ (ty := (.array .byte)) hown (host := "") (Or.inl (own_w hw 32 rfl)) Via.refl rfl f18 f17 (Or.inr ⟨(own_w hw 5 rfl), rfl, (name_of_methodNamed Bd.named Bd.method).1⟩) (own_w hw 3 rfl) (by decide) rfl rfl hby d33_35 N13 g_x ?_
  intro T19 h19 lo19 X19 e19 N19 W19 F19 z19
  refine own_goto X19.here hx hby (pc' := 97) d33_38 (by decide) (by decide) ?_
  have K20 : Keep h0 h19 [x] := ((((Keep.refl h0 [x]).wr W11 (Or.inl (List.mem_of_getElem? (i := 0) rfl))).trans K13 all0).wr W19 (Or.inl (List.mem_of_getElem? (i := 0) rfl)))
  have f21 := (f17.wr W19)
  have f22 := ((F11.keep K13 nin0).other W19 (Or.inr (slot_ne (Or.inr (own_w hw 6 rfl)) (Or.inr (own_w hw 5 rfl)) (by decide) (t := .byte) (t' := (.array .byte)) (by decide) (by decide))))
  have f23 := (P13_1.other W19 (own_nn (by omega)))
  obtain ⟨fs, hr, hrun, hended, hW, hsame⟩ := X19.leave (v := none) (fun _ => rfl)
  refine own_ret (t := T19.setFrames fs) ?_ ⟨_, hrun, hended, _, _, rfl, ?_, ⟨_, rfl⟩, hW, hsame.mono (by decide) (by decide)⟩
  · exact X19.returnOut hx Bd.returns (hb hby d33_97) hr
  · show Q_strOfA_4 Z _ _ _ _ _ _ _ _ _ h0 n0 _ T19.heap _
    rw [e19]
    exact ⟨r_13, kr_13, rfl, N19, K20, (by omega), f21, f22, F19, f23⟩
def Q_strOfB_4 (Z : State) (x : Nat) (sb : Nat) (b : Nat) (kb : ClassId) (zc : Int32) (w0 : Int32) (w1 : Int32) (w2 : Int32) (w3 : Int32) (h0 : Heap) (n0 : Nat) (vR : Option Value) (hR : Heap) (LR : List Loc) : Prop := ∃ (t : Nat) (kt : ClassId), vR = none ∧ Fr n0 LR ∧ Keep h0 hR [x] ∧ h0.size ≤ t ∧ (Exa Z hR x "java/lang/String") ∧ (Fld Z hR x "java/lang/String" "coder" "B" (.int 0)) ∧ (Fld Z hR x "java/lang/String" "value" "[B" (.ref t)) ∧ (Arv Z hR t kt .byte (4 : Int32) [(.int w0), (.int w1), (.int w2), (.int w3)] (.int 0))
set_option maxRecDepth 65536 in
set_option maxHeartbeats 40000000 in
theorem strOfB_4 (l : Launch) (Z : State) (a0 : Array Value) (hw : ∀ d ∈ tables_1, d.before a0 Z = true) (ws : List Jvm.Cond) (x : Nat) (sb : Nat) (b : Nat) (kb : ClassId) (zc : Int32) (w0 : Int32) (w1 : Int32) (w2 : Int32) (w3 : Int32) (h0 : Heap) (n0 : Nat) (Z0 : n0 ≤ h0.size) (E_x : Exa Z h0 x "java/lang/String") (g_x : n0 ≤ x) (Fv_x : Fld Z h0 x "java/lang/String" "value" "[B" .null) (Fc_x : Fld Z h0 x "java/lang/String" "coder" "B" (.int 0)) (E_sb : Exa Z h0 sb "java/lang/StringBuilder") (F_value_sb : Fld Z h0 sb "java/lang/AbstractStringBuilder" "value" "[B" (.ref b)) (F_coder_sb : Fld Z h0 sb "java/lang/AbstractStringBuilder" "coder" "B" (.int 0)) (F_count_sb : Fld Z h0 sb "java/lang/AbstractStringBuilder" "count" "I" (.int 4)) (V_b : Arv Z h0 b kb .byte (16 : Int32) [(.int w0), (.int w1), (.int w2), (.int w3), (.int 0), (.int 0), (.int 0), (.int 0), (.int 0), (.int 0), (.int 0), (.int 0), (.int 0), (.int 0), (.int 0), (.int 0)] (.int 0)) (S_C : Sta Z h0 "java/lang/String" "COMPACT_STRINGS" "Z" (.int zc)) (hz : ¬ (zc = (0 : Int32))) :
    own_M l (⟨"java/lang/String", "<init>", "(Ljava/lang/StringBuilder;)V"⟩ : MethodName) jdk_42_method_53_code 2 none ws ({ frames := 4, cells := 1, slots := 4, locals := 65 } : Room) Z #[(.ref x), (.ref sb)] h0 (Q_strOfB_4 Z x sb b kb zc w0 w1 w2 w3 h0 n0) := by
  refine own_body (own := "java/lang/String") rfl (plainFor_of_name pn_32) (fun m => ef_strOfB_0 m x sb) ?_
  intro p e s m below meth c s₁ Bd hml hZ hh hx hby hown X0 e0
  have N0 := Fr.nil n0
  have lt4 : h0.size > x := E_x.lt
  have lt5 : h0.size > sb := E_sb.lt
  have lt6 : h0.size > b := V_b.lt
  refine own_aloadN X0.here hx hby d32_0 rfl rfl ?_
  refine own_aloadN X0.here hx hby d32_1 rfl rfl ?_
  refine own_aconstNull X0.here hx hby d32_2 ?_
  refine own_special X0 hx hZ rfl hown (own_w hw 176 rfl) (own_w hw 177 rfl) (own_w hw 2 rfl) (own_w hw 178 rfl) (by decide) (strOfA_4 l Z a0 hw [] x sb b kb zc w0 w1 w2 w3 h0 n0 Z0 E_x g_x Fv_x Fc_x E_sb F_value_sb F_coder_sb F_count_sb V_b S_C hz) 0 (Nat.le_of_eq rfl) (by decide) (by decide) (by rw [hml]; rfl) (argsL := [(.ref sb), .null]) (st := []) (a := x) (lenOf pd_17 rfl) rfl rfl (by decide) (by decide) e0 hby d32_3 ?_
  intro T7 v7 L7 X7 hQ7
  obtain ⟨t_7, kt_7, rfl, Nq7, K7, P7_0, P7_1, P7_2, P7_3, P7_4⟩ := hQ7
  have N7 := Fr.app N0 Nq7
  have z8 : h0.size ≤ T7.heap.size := K7.1
  have lt9 : T7.heap.size > x := P7_1.lt
  have lt10 : T7.heap.size > t_7 := P7_4.lt
  refine own_sh (T := T7) 6 #[.val (.ref x), .val (.ref sb)] [] ?_
  have K11 : Keep h0 T7.heap [x] := ((Keep.refl h0 [x]).trans K7 (allS (P := fun xq_ => xq_ ∈ [x] ∨ h0.size ≤ xq_) (Or.inl (List.mem_of_getElem? (i := 0) rfl)) all0))
  obtain ⟨fs, hr, hrun, hended, hW, hsame⟩ := X7.leave (v := none) (fun _ => rfl)
  refine own_ret (t := T7.setFrames fs) ?_ ⟨_, hrun, hended, _, _, rfl, ?_, ⟨_, rfl⟩, hW, hsame.mono (by decide) (by decide)⟩
  · exact X7.returnOut hx Bd.returns (hb hby d32_6) hr
  · show Q_strOfB_4 Z _ _ _ _ _ _ _ _ _ h0 n0 _ T7.heap _
    exact ⟨t_7, kt_7, rfl, N7, K11, (by omega), P7_1, P7_2, P7_3, P7_4⟩
def Q_sbStr_4 (Z : State) (sb : Nat) (b : Nat) (kb : ClassId) (zc : Int32) (w0 : Int32) (w1 : Int32) (w2 : Int32) (w3 : Int32) (h0 : Heap) (n0 : Nat) (vR : Option Value) (hR : Heap) (LR : List Loc) : Prop := ∃ (x : Nat) (t : Nat) (kt : ClassId), vR = some (.ref x) ∧ Fr n0 LR ∧ Keep h0 hR [] ∧ h0.size ≤ x ∧ (Exa Z hR x "java/lang/String") ∧ (Fld Z hR x "java/lang/String" "coder" "B" (.int 0)) ∧ (Fld Z hR x "java/lang/String" "value" "[B" (.ref t)) ∧ (Arv Z hR t kt .byte (4 : Int32) [(.int w0), (.int w1), (.int w2), (.int w3)] (.int 0))
set_option maxRecDepth 65536 in
set_option maxHeartbeats 40000000 in
theorem sbStr_4 (l : Launch) (Z : State) (a0 : Array Value) (hw : ∀ d ∈ tables_1, d.before a0 Z = true) (ws : List Jvm.Cond) (sb : Nat) (b : Nat) (kb : ClassId) (zc : Int32) (w0 : Int32) (w1 : Int32) (w2 : Int32) (w3 : Int32) (h0 : Heap) (n0 : Nat) (Z0 : n0 ≤ h0.size) (E_sb : Exa Z h0 sb "java/lang/StringBuilder") (F_value_sb : Fld Z h0 sb "java/lang/AbstractStringBuilder" "value" "[B" (.ref b)) (F_coder_sb : Fld Z h0 sb "java/lang/AbstractStringBuilder" "coder" "B" (.int 0)) (F_count_sb : Fld Z h0 sb "java/lang/AbstractStringBuilder" "count" "I" (.int 4)) (V_b : Arv Z h0 b kb .byte (16 : Int32) [(.int w0), (.int w1), (.int w2), (.int w3), (.int 0), (.int 0), (.int 0), (.int 0), (.int 0), (.int 0), (.int 0), (.int 0), (.int 0), (.int 0), (.int 0), (.int 0)] (.int 0)) (S_C : Sta Z h0 "java/lang/String" "COMPACT_STRINGS" "Z" (.int zc)) (hz : ¬ (zc = (0 : Int32))) :
    own_M l (⟨"java/lang/StringBuilder", "toString", "()Ljava/lang/String;"⟩ : MethodName) jdk_67_method_42_code 1 (some (.object "java/lang/String")) ws ({ frames := 5, cells := 2, slots := 8, locals := 79 } : Room) Z #[(.ref sb)] h0 (Q_sbStr_4 Z sb b kb zc w0 w1 w2 w3 h0 n0) := by
  refine own_body (own := "java/lang/StringBuilder") rfl (plainFor_of_name pn_31) (fun m => ef_sbStr_0 m sb) ?_
  intro p e s m below meth c s₁ Bd hml hZ hh hx hby hown X0 e0
  have N0 := Fr.nil n0
  have lt4 : h0.size > sb := E_sb.lt
  have lt5 : h0.size > b := V_b.lt
  refine own_newO X0 hx hZ hown (own_w hw 172 rfl) (own_w hw 3 rfl) (own_w hw 2 rfl) e0 hby d31_0 (by decide) (by decide) ?_
  intro T6 h6 b6 X6 e6 E6 g6 A6 D6 lt6
  have z7 : h0.size ≤ h6.size := E6.1
  have F8 : Fld Z h6 b6 "java/lang/String" "value" "[B" .null := D6 (Or.inr (own_w hw 5 rfl)) (ty := (.array .byte)) (by decide)
  have F9 : Fld Z h6 b6 "java/lang/String" "coder" "B" (.int 0) := D6 (Or.inr (own_w hw 6 rfl)) (ty := .byte) (by decide)
  refine own_dup X6.here hx hby d31_3 rfl ?_
  refine own_aloadN X6.here hx hby d31_4 rfl rfl ?_
  have f10 := (E_sb.ext E6)
  have f11 := (F_value_sb.ext E6)
  have f12 := (F_coder_sb.ext E6)
  have f13 := (F_count_sb.ext E6)
  have f14 := (V_b.ext E6)
  have f15 := (S_C.ext E6)
  have z17 : n0 ≤ h6.size := by omega
  refine own_special X6 hx hZ rfl hown (own_w hw 173 rfl) (own_w hw 174 rfl) (own_w hw 2 rfl) (own_w hw 175 rfl) (by decide) (strOfB_4 l Z a0 hw [] b6 sb b kb zc w0 w1 w2 w3 h6 n0 z17 A6 (by omega) F8 F9 f10 f11 f12 f13 f14 f15 hz) 1 (Nat.le_of_eq rfl) (by decide) (by decide) (by rw [hml]; rfl) (argsL := [(.ref sb)]) (st := [(.ref b6)]) (a := b6) (lenOf pd_18 rfl) rfl rfl (by decide) (by decide) e6 hby d31_5 ?_
  intro T16 v16 L16 X16 hQ16
  obtain ⟨t_16, kt_16, rfl, Nq16, K16, P16_0, P16_1, P16_2, P16_3, P16_4⟩ := hQ16
  have N16 := Fr.app N0 Nq16
  have z18 : h6.size ≤ T16.heap.size := K16.1
  have lt19 : T16.heap.size > b6 := P16_1.lt
  have lt20 : T16.heap.size > t_16 := P16_4.lt
  refine own_sh (T := T16) 8 #[.val (.ref sb)] [(.ref b6)] ?_
  have K21 : Keep h0 T16.heap [] := (((Keep.refl h0 []).ext E6).trans K16 (allS (P := fun xq_ => xq_ ∈ [] ∨ h0.size ≤ xq_) (Or.inr (by omega)) all0))
  obtain ⟨fs, hr, hrun, hended, hW, hsame⟩ := X16.leave (v := some (.ref b6)) (fun h => by rw [Bd.returns] at h; cases h)
  refine own_ret (t := T16.setFrames fs) ?_ ⟨_, hrun, hended, _, _, rfl, ?_, ⟨_, rfl⟩, hW, hsame.mono (by decide) (by decide)⟩
  · exact retOut X16 hx Bd.returns rfl (Or.inr (Or.inr (Or.inr (Or.inr ⟨rfl, rfl, rfl⟩)))) (hb hby d31_8) hr
  · show Q_sbStr_4 Z _ _ _ _ _ _ _ _ h0 n0 _ T16.heap _
    exact ⟨b6, t_16, kt_16, rfl, N16, K21, (by omega), P16_1, P16_2, P16_3, P16_4⟩
def Q_uriOf_2_3 (Z : State) (u : Nat) (x : Nat) (t : Nat) (y : Nat) (ty : Nat) (kt : ClassId) (ky : ClassId) (fm : Value) (zc : Int32) (w0 : Int32) (w1 : Int32) (u0 : Int32) (u1 : Int32) (u2 : Int32) (h0 : Heap) (n0 : Nat) (vR : Option Value) (hR : Heap) (LR : List Loc) : Prop := ∃ (r : Nat) (tr : Nat) (kr : ClassId), vR = some (.ref r) ∧ Fr n0 LR ∧ Keep h0 hR [] ∧ h0.size ≤ r ∧ (Exa Z hR r "java/lang/String") ∧ (Fld Z hR r "java/lang/String" "coder" "B" (.int 0)) ∧ (Fld Z hR r "java/lang/String" "value" "[B" (.ref tr)) ∧ (Arv Z hR tr kr .byte (4 : Int32) [(.int w0), (.int w1), (.int u1), (.int u2)] (.int 0))
set_option maxRecDepth 65536 in
set_option maxHeartbeats 40000000 in
theorem uriOf_2_3 (l : Launch) (Z : State) (a0 : Array Value) (hw : ∀ d ∈ tables_1, d.before a0 Z = true) (ws : List Jvm.Cond) (u : Nat) (x : Nat) (t : Nat) (y : Nat) (ty : Nat) (kt : ClassId) (ky : ClassId) (fm : Value) (zc : Int32) (w0 : Int32) (w1 : Int32) (u0 : Int32) (u1 : Int32) (u2 : Int32) (h0 : Heap) (n0 : Nat) (Z0 : n0 ≤ h0.size) (E_u : Exa Z h0 u "com/example/undercroft/undercroft/store/UriSpace") (F_prefix_u : Fld Z h0 u "com/example/undercroft/undercroft/store/UriSpace" "prefix" "Ljava/lang/String;" (.ref x)) (E_x : Exa Z h0 x "java/lang/String") (Fc_x : Fld Z h0 x "java/lang/String" "coder" "B" (.int 0)) (Fv_x : Fld Z h0 x "java/lang/String" "value" "[B" (.ref t)) (V_t : Arv Z h0 t kt .byte (2 : Int32) [(.int w0), (.int w1)] (.int 0)) (E_y : Exa Z h0 y "java/lang/String") (Fc_y : Fld Z h0 y "java/lang/String" "coder" "B" (.int 0)) (Fv_y : Fld Z h0 y "java/lang/String" "value" "[B" (.ref ty)) (V_ty : Arv Z h0 ty ky .byte (3 : Int32) [(.int u0), (.int u1), (.int u2)] (.int 0)) (S_C : Sta Z h0 "java/lang/String" "COMPACT_STRINGS" "Z" (.int zc)) (hz : ¬ (zc = (0 : Int32))) (S_FM : Sta Z h0 "jdk/internal/util/Preconditions" "SIOOBE_FORMATTER" "Ljava/util/function/BiFunction;" fm) (hfm : fm.isRef = true) :
    own_M l (⟨"com/example/undercroft/undercroft/store/UriSpace", "uriOfPath", "(Ljava/lang/String;)Ljava/lang/String;"⟩ : MethodName) prog_21_method_8_code 2 (some (.object "java/lang/String")) ws ({ frames := 6, cells := 6, slots := 34, locals := 94 } : Room) Z #[(.ref u), (.ref y)] h0 (Q_uriOf_2_3 Z u x t y ty kt ky fm zc w0 w1 u0 u1 u2 h0 n0) := by
  refine own_body (own := "com/example/undercroft/undercroft/store/UriSpace") rfl (plainFor_of_name pn_9) (fun m => ef_uriOf_0_1 m u y) ?_
  intro p e s m below meth c s₁ Bd hml hZ hh hx hby hown X0 e0
  have N0 := Fr.nil n0
  have lt3 : h0.size > u := E_u.lt
  have lt4 : h0.size > x := E_x.lt
  have lt5 : h0.size > t := V_t.lt
  have lt6 : h0.size > y := E_y.lt
  have lt7 : h0.size > ty := V_ty.lt
  refine own_newO X0 hx hZ hown (own_w hw 55 rfl) (own_w hw 56 rfl) (own_w hw 57 rfl) e0 hby d9_0 (by decide) (by decide) ?_
  intro T8 h8 b8 X8 e8 E8 g8 A8 D8 lt8
  have z9 : h0.size ≤ h8.size := E8.1
  have F10 : Fld Z h8 b8 "java/lang/AbstractStringBuilder" "value" "[B" .null := D8 (Or.inl (own_w hw 70 rfl)) (ty := (.array .byte)) (by decide)
  have F11 : Fld Z h8 b8 "java/lang/AbstractStringBuilder" "coder" "B" (.int 0) := D8 (Or.inl (own_w hw 72 rfl)) (ty := .byte) (by decide)
  have F12 : Fld Z h8 b8 "java/lang/AbstractStringBuilder" "count" "I" (.int 0) := D8 (Or.inl (own_w hw 94 rfl)) (ty := .int) (by decide)
  refine own_dup X8.here hx hby d9_3 rfl ?_
  have f13 := (S_C.ext E8)
  have z15 : n0 ≤ h8.size := by omega
  refine own_special X8 hx hZ rfl hown (own_w hw 58 rfl) (own_w hw 59 rfl) (own_w hw 57 rfl) (own_w hw 60 rfl) (by decide) (sbInit l Z a0 hw [] b8 zc h8 n0 z15 A8 (by omega) F10 F11 F12 f13 hz) 1 (Nat.le_of_eq rfl) (by decide) (by decide) (by rw [hml]; rfl) (argsL := []) (st := [(.ref b8)]) (a := b8) (lenOf pd_0 rfl) rfl rfl (by decide) (by decide) e8 hby d9_4 ?_
  intro T14 v14 L14 X14 hQ14
  obtain ⟨b_14, kb_14, rfl, Nq14, K14, P14_0, P14_1, P14_2, P14_3, P14_4, P14_5⟩ := hQ14
  have N14 := Fr.app N0 Nq14
  have z16 : h8.size ≤ T14.heap.size := K14.1
  have lt17 : T14.heap.size > b8 := P14_0.lt
  have lt18 : T14.heap.size > b_14 := P14_5.lt
  refine own_sh (T := T14) 7 #[.val (.ref u), .val (.ref y)] [(.ref b8)] ?_
  refine own_aloadN X14.here hx hby d9_7 rfl rfl ?_
  have f19 := ((F_prefix_u.ext E8).keep K14 (ninS (own_nn (by omega)) nin0))
  refine own_getF X14 hx hZ hown (host := "") (Or.inl (own_w hw 46 rfl)) Via.refl rfl f19 hby d9_8 ?_
  intro T20 X20 e20
  have f21 := ((E_x.ext E8).keep K14)
  have f22 := ((Fc_x.ext E8).keep K14 (ninS (own_nn (by omega)) nin0))
  have f23 := ((Fv_x.ext E8).keep K14 (ninS (own_nn (by omega)) nin0))
  have f24 := ((V_t.ext E8).keep K14 (ninS (own_nn (by omega)) nin0))
  have f25 := (own_sta_keep f13 K14 (allS (own_exa_plain A8) all0))
  have z27 : n0 ≤ T14.heap.size := by omega
  refine own_virtual X20 hx hZ hown (own_w hw 73 rfl) (own_w hw 74 rfl) (notFace_of_selects (args := #[]) (mvT hZ (own_w hw 76 rfl))) (own_w hw 76 rfl) (own_w hw 75 rfl) (own_w hw 57 rfl) (own_w hw 77 rfl) (by decide) (sbApp_0_2 l Z a0 hw [] b8 b_14 x t kb_14 kt zc w0 w1 T14.heap n0 z27 P14_0 P14_1 P14_2 P14_5 f21 f22 f23 f24 (by omega) f25 hz (by omega) P14_3) 0 (Nat.le_of_eq rfl) (by decide) (by decide) (by rw [hml]; rfl) (argsL := [(.ref x)]) (st := []) P14_0 (lenOf pd_19 rfl) rfl rfl (by decide) (by decide) e20 hby d9_11 ?_
  intro T26 v26 L26 X26 hQ26
  obtain ⟨rfl, Nq26, K26, P26_0, P26_1, P26_2, P26_3, P26_4⟩ := hQ26
  have N26 := Fr.app N14 Nq26
  have z28 : T14.heap.size ≤ T26.heap.size := K26.1
  have lt29 : T26.heap.size > b8 := P26_0.lt
  have lt30 : T26.heap.size > b_14 := P26_4.lt
  refine own_sh (T := T26) 14 #[.val (.ref u), .val (.ref y)] [(.ref b8)] ?_
  refine own_aloadN X26.here hx hby d9_14 rfl rfl ?_
  refine own_iconst X26.here hx hby d9_15 (v := (1 : Int32)) (by decide) ?_
  have f31 := (((E_y.ext E8).keep K14).keep K26)
  have f32 := (((Fc_y.ext E8).keep K14 (ninS (own_nn (by omega)) nin0)).keep K26 (ninS (own_nn (by omega)) (ninS (own_nn (by omega)) nin0)))
  have f33 := (((Fv_y.ext E8).keep K14 (ninS (own_nn (by omega)) nin0)).keep K26 (ninS (own_nn (by omega)) (ninS (own_nn (by omega)) nin0)))
  have f34 := (((V_ty.ext E8).keep K14 (ninS (own_nn (by omega)) nin0)).keep K26 (ninS (own_nn (by omega)) (ninS (own_nn (by omega)) nin0)))
  have f35 := (own_sta_keep f25 K26 (allS (own_exa_plain P14_0) (allS (own_arv_plain P14_5) all0)))
  have f36 := (own_sta_keep (own_sta_keep (S_FM.ext E8) K14 (allS (own_exa_plain A8) all0)) K26 (allS (own_exa_plain P14_0) (allS (own_arv_plain P14_5) all0)))
  have z38 : n0 ≤ T26.heap.size := by omega
  refine own_virtual X26 hx hZ hown (own_w hw 120 rfl) (own_w hw 121 rfl) (notFace_of_selects (args := #[]) (mvT hZ (own_w hw 123 rfl))) (own_w hw 123 rfl) (own_w hw 122 rfl) (own_w hw 2 rfl) (own_w hw 124 rfl) (by decide) (strSub_1_3 l Z a0 hw [] y ty ky fm zc u0 u1 u2 T26.heap n0 z38 f31 f32 f33 f34 f35 hz f36 hfm) 1 (Nat.le_of_eq rfl) (by decide) (by decide) (by rw [hml]; rfl) (argsL := [(.int 1)]) (st := [(.ref b8)]) f31 (lenOf pd_20 rfl) rfl rfl (by decide) (by decide) rfl hby d9_16 ?_
  intro T37 v37 L37 X37 hQ37
  obtain ⟨r_37, tr_37, kr_37, rfl, Nq37, K37, P37_0, P37_1, P37_2, P37_3⟩ := hQ37
  have N37 := Fr.app N26 Nq37
  have z39 : T26.heap.size ≤ T37.heap.size := K37.1
  have lt40 : T37.heap.size > r_37 := P37_0.lt
  have lt41 : T37.heap.size > tr_37 := P37_3.lt
  refine own_sh (T := T37) 19 #[.val (.ref u), .val (.ref y)] [(.ref r_37), (.ref b8)] ?_
  have f42 := (P26_0.keep K37)
  have f43 := (P26_1.keep K37 nin0)
  have f44 := (P26_2.keep K37 nin0)
  have f45 := (P26_4.keep K37 nin0)
  have f46 := (own_sta_keep f35 K37 all0)
  have f47 := (P26_3.keep K37 nin0)
  have z49 : n0 ≤ T37.heap.size := by omega
  refine own_virtual X37 hx hZ hown (own_w hw 73 rfl) (own_w hw 74 rfl) (notFace_of_selects (args := #[]) (mvT hZ (own_w hw 76 rfl))) (own_w hw 76 rfl) (own_w hw 75 rfl) (own_w hw 57 rfl) (own_w hw 77 rfl) (by decide) (sbApp_2_2 l Z a0 hw [] b8 b_14 r_37 tr_37 kb_14 kr_37 zc w0 w1 u1 u2 T37.heap n0 z49 f42 f43 f44 f45 P37_0 P37_1 P37_2 P37_3 (by omega) f46 hz (by omega) f47) 0 (Nat.le_of_eq rfl) (by decide) (by decide) (by rw [hml]; rfl) (argsL := [(.ref r_37)]) (st := []) f42 (lenOf pd_19 rfl) rfl rfl (by decide) (by decide) rfl hby d9_19 ?_
  intro T48 v48 L48 X48 hQ48
  obtain ⟨rfl, Nq48, K48, P48_0, P48_1, P48_2, P48_3, P48_4⟩ := hQ48
  have N48 := Fr.app N37 Nq48
  have z50 : T37.heap.size ≤ T48.heap.size := K48.1
  have lt51 : T48.heap.size > b8 := P48_0.lt
  have lt52 : T48.heap.size > b_14 := P48_4.lt
  refine own_sh (T := T48) 22 #[.val (.ref u), .val (.ref y)] [(.ref b8)] ?_
  have f53 := (own_sta_keep f46 K48 (allS (own_exa_plain f42) (allS (own_arv_plain f45) all0)))
  have z55 : n0 ≤ T48.heap.size := by omega
  refine own_virtual X48 hx hZ hown (own_w hw 167 rfl) (own_w hw 168 rfl) (notFace_of_selects (args := #[]) (mvT hZ (own_w hw 170 rfl))) (own_w hw 170 rfl) (own_w hw 169 rfl) (own_w hw 57 rfl) (own_w hw 171 rfl) (by decide) (sbStr_4 l Z a0 hw [] b8 b_14 kb_14 zc w0 w1 u1 u2 T48.heap n0 z55 P48_0 P48_1 P48_2 P48_3 P48_4 f53 hz) 0 (Nat.le_of_eq rfl) (by decide) (by decide) (by rw [hml]; rfl) (argsL := []) (st := []) P48_0 (lenOf pd_21 rfl) rfl rfl (by decide) (by decide) rfl hby d9_22 ?_
  intro T54 v54 L54 X54 hQ54
  obtain ⟨x_54, t_54, kt_54, rfl, Nq54, K54, P54_0, P54_1, P54_2, P54_3, P54_4⟩ := hQ54
  have N54 := Fr.app N48 Nq54
  have z56 : T48.heap.size ≤ T54.heap.size := K54.1
  have lt57 : T54.heap.size > x_54 := P54_1.lt
  have lt58 : T54.heap.size > t_54 := P54_4.lt
  refine own_sh (T := T54) 25 #[.val (.ref u), .val (.ref y)] [(.ref x_54)] ?_
  have K59 : Keep h0 T54.heap [] := (((((((Keep.refl h0 []).ext E8).trans K14 (allS (P := fun xq_ => xq_ ∈ [] ∨ h0.size ≤ xq_) (Or.inr (by omega)) all0)).trans K26 (allS (P := fun xq_ => xq_ ∈ [] ∨ h0.size ≤ xq_) (Or.inr (by omega)) (allS (P := fun xq_ => xq_ ∈ [] ∨ h0.size ≤ xq_) (Or.inr (by omega)) all0))).trans K37 all0).trans K48 (allS (P := fun xq_ => xq_ ∈ [] ∨ h0.size ≤ xq_) (Or.inr (by omega)) (allS (P := fun xq_ => xq_ ∈ [] ∨ h0.size ≤ xq_) (Or.inr (by omega)) all0))).trans K54 all0)
  obtain ⟨fs, hr, hrun, hended, hW, hsame⟩ := X54.leave (v := some (.ref x_54)) (fun h => by rw [Bd.returns] at h; cases h)
  refine own_ret (t := T54.setFrames fs) ?_ ⟨_, hrun, hended, _, _, rfl, ?_, ⟨_, rfl⟩, hW, hsame.mono (by decide) (by decide)⟩
  · exact retOut X54 hx Bd.returns rfl (Or.inr (Or.inr (Or.inr (Or.inr ⟨rfl, rfl, rfl⟩)))) (hb hby d9_25) hr
  · show Q_uriOf_2_3 Z _ _ _ _ _ _ _ _ _ _ _ _ _ _ h0 n0 _ T54.heap _
    exact ⟨x_54, t_54, kt_54, rfl, N54, K59, (by omega), P54_1, P54_2, P54_3, P54_4⟩
theorem ef_preChk_0_2 (m : MethodId) (x0 : Int32) (x1 : Int32) (x2 : Value) (hx2 : x2.isRef = true) : entryFrame m #[(.int x0), (.int x1), x2] 3 = mkF m 0 #[.val (.int x0), .val (.int x1), .val x2] [] := by cases x2 <;> first | (cases hx2; done) | (simp [entryFrame, mkF, argsToLocals, Value.category]; done) | rfl
theorem pn_41 : plainName "jdk/internal/util/Preconditions" = true := by first | (simp [plainName, overriddenIn]; done) | decide +kernel
theorem d41_0 : decode jdk_41_method_11_code 0 = .ok (.iload_n 0, 1) := by decide +kernel
theorem d41_1 : decode jdk_41_method_11_code 1 = .ok (.ifCond .lt 8, 3) := by decide +kernel
theorem d41_4 : decode jdk_41_method_11_code 4 = .ok (.iload_n 0, 1) := by decide +kernel
theorem d41_5 : decode jdk_41_method_11_code 5 = .ok (.iload_n 1, 1) := by decide +kernel
theorem d41_6 : decode jdk_41_method_11_code 6 = .ok (.if_icmp .lt 10, 3) := by decide +kernel
theorem d41_16 : decode jdk_41_method_11_code 16 = .ok (.iload_n 0, 1) := by decide +kernel
theorem d41_17 : decode jdk_41_method_11_code 17 = .ok (.ireturn, 1) := by decide +kernel
def Q_preChk_0_2 (Z : State) (fm : Value) (h0 : Heap) (n0 : Nat) (vR : Option Value) (hR : Heap) (LR : List Loc) : Prop := vR = some (.int 0) ∧ Fr n0 LR ∧ hR = h0
set_option maxRecDepth 65536 in
set_option maxHeartbeats 40000000 in
theorem preChk_0_2 (l : Launch) (Z : State) (a0 : Array Value) (hw : ∀ d ∈ tables_1, d.before a0 Z = true) (ws : List Jvm.Cond) (fm : Value) (h0 : Heap) (n0 : Nat) (Z0 : n0 ≤ h0.size) (hfm : fm.isRef = true) :
    own_M l (⟨"jdk/internal/util/Preconditions", "checkIndex", "(IILjava/util/function/BiFunction;)I"⟩ : MethodName) jdk_41_method_11_code 3 (some .int) ws ({ frames := 0, cells := 0, slots := 0, locals := 0 } : Room) Z #[(.int 0), (.int 2), fm] h0 (Q_preChk_0_2 Z fm h0 n0) := by
  refine own_body (own := "jdk/internal/util/Preconditions") rfl (plainFor_of_name pn_41) (fun m => ef_preChk_0_2 m (0 : Int32) (2 : Int32) fm hfm) ?_
  intro p e s m below meth c s₁ Bd hml hZ hh hx hby hown X0 e0
  have N0 := Fr.nil n0
  refine own_iloadN X0.here hx hby d41_0 rfl ?_
  refine own_ifNo X0.here hx hby d41_1 ((if0 _ _).trans (flt (show ¬ ((0 : Int32) < (0 : Int32)) from (by decide))).1) ?_
  refine own_iloadN X0.here hx hby d41_4 rfl ?_
  refine own_iloadN X0.here hx hby d41_5 rfl ?_
  refine own_icmpYes X0.here hx hby (pc' := 16) d41_6 (tlt (show (0 : Int32) < (2 : Int32) from (by decide))).1 (by decide) (by decide) ?_
  refine own_iloadN X0.here hx hby d41_16 rfl ?_
  obtain ⟨fs, hr, hrun, hended, hW, hsame⟩ := X0.leave (v := some (.int 0)) (fun h => by rw [Bd.returns] at h; cases h)
  refine own_ret (t := s₁.setFrames fs) ?_ ⟨_, hrun, hended, _, _, rfl, ?_, ⟨_, rfl⟩, hW, hsame.mono (by decide) (by decide)⟩
  · exact retOut X0 hx Bd.returns rfl (Or.inl ⟨rfl, Or.inl rfl, _, rfl⟩) (hb hby d41_17) hr
  · show Q_preChk_0_2 Z _ h0 n0 _ s₁.heap _
    rw [e0]
    exact ⟨rfl, N0, rfl⟩
theorem ef_strChk_0_2 (m : MethodId) (x0 : Int32) (x1 : Int32) : entryFrame m #[(.int x0), (.int x1)] 2 = mkF m 0 #[.val (.int x0), .val (.int x1)] [] := by first | (simp [entryFrame, mkF, argsToLocals, Value.category]; done) | rfl
theorem pn_40 : plainName "java/lang/String" = true := by first | (simp [plainName, overriddenIn]; done) | decide +kernel
theorem d40_0 : decode jdk_42_method_155_code 0 = .ok (.iload_n 0, 1) := by decide +kernel
theorem d40_1 : decode jdk_42_method_155_code 1 = .ok (.iload_n 1, 1) := by decide +kernel
theorem d40_2 : decode jdk_42_method_155_code 2 = .ok (.getstatic 1053, 3) := by decide +kernel
theorem d40_5 : decode jdk_42_method_155_code 5 = .ok (.invokestatic 1059, 3) := by decide +kernel
theorem pd_23 : parseMethodDescriptor "(IILjava/util/function/BiFunction;)I" = some ⟨[.int, .int, (.object "java/util/function/BiFunction")], some .int⟩ := by decide +kernel
theorem d40_8 : decode jdk_42_method_155_code 8 = .ok (.pop, 1) := by decide +kernel
theorem d40_9 : decode jdk_42_method_155_code 9 = .ok (.return_, 1) := by decide +kernel
def Q_strChk_0_2 (Z : State) (fm : Value) (h0 : Heap) (n0 : Nat) (vR : Option Value) (hR : Heap) (LR : List Loc) : Prop := vR = none ∧ Fr n0 LR ∧ hR = h0
set_option maxRecDepth 65536 in
set_option maxHeartbeats 40000000 in
theorem strChk_0_2 (l : Launch) (Z : State) (a0 : Array Value) (hw : ∀ d ∈ tables_1, d.before a0 Z = true) (ws : List Jvm.Cond) (fm : Value) (h0 : Heap) (n0 : Nat) (Z0 : n0 ≤ h0.size) (S_FM : Sta Z h0 "jdk/internal/util/Preconditions" "SIOOBE_FORMATTER" "Ljava/util/function/BiFunction;" fm) (hfm : fm.isRef = true) :
    own_M l (⟨"java/lang/String", "checkIndex", "(II)V"⟩ : MethodName) jdk_42_method_155_code 2 none ws ({ frames := 1, cells := 0, slots := 0, locals := 14 } : Room) Z #[(.int 0), (.int 2)] h0 (Q_strChk_0_2 Z fm h0 n0) := by
  refine own_body (own := "java/lang/String") rfl (plainFor_of_name pn_40) (fun m => ef_strChk_0_2 m (0 : Int32) (2 : Int32)) ?_
  intro p e s m below meth c s₁ Bd hml hZ hh hx hby hown X0 e0
  have N0 := Fr.nil n0
  refine own_iloadN X0.here hx hby d40_0 rfl ?_
  refine own_iloadN X0.here hx hby d40_1 rfl ?_
  refine own_getS X0 hx hZ hown (host := "") (Or.inl (own_w hw 134 rfl)) Via.refl e0 S_FM hby d40_2 ?_
  intro T1 X1 e1
  refine own_callS X1 hx hZ hown (own_w hw 210 rfl) (own_w hw 211 rfl) (own_w hw 135 rfl) (own_w hw 212 rfl) (by decide) (preChk_0_2 l Z a0 hw [] fm h0 n0 Z0 hfm) 0 (Nat.le_of_eq rfl) (by decide) (by decide) (by rw [hml]; rfl) (argsL := [(.int 0), (.int 2), fm]) (st := []) (lenOf pd_23 rfl) rfl rfl (by decide) (by decide) e1 hby d40_5 ?_
  intro T2 v2 L2 X2 hQ2
  obtain ⟨rfl, Nq2, eh2⟩ := hQ2
  have N2 := Fr.app N0 Nq2
  refine own_sh (T := T2) 8 #[.val (.int 0), .val (.int 2)] [(.int 0)] ?_
  refine own_pop X2.here hx hby d40_8 rfl ?_
  obtain ⟨fs, hr, hrun, hended, hW, hsame⟩ := X2.leave (v := none) (fun _ => rfl)
  refine own_ret (t := T2.setFrames fs) ?_ ⟨_, hrun, hended, _, _, rfl, ?_, ⟨_, rfl⟩, hW, hsame.mono (by decide) (by decide)⟩
  · exact X2.returnOut hx Bd.returns (hb hby d40_9) hr
  · show Q_strChk_0_2 Z _ h0 n0 _ T2.heap _
    rw [eh2]
    exact ⟨rfl, N2, rfl⟩
theorem ef_l1Char_0_2 (m : MethodId) (x0 : Nat) (x1 : Int32) : entryFrame m #[(.ref x0), (.int x1)] 2 = mkF m 0 #[.val (.ref x0), .val (.int x1)] [] := by first | (simp [entryFrame, mkF, argsToLocals, Value.category]; done) | rfl
theorem pn_39 : plainName "java/lang/StringLatin1" = true := by first | (simp [plainName, overriddenIn]; done) | decide +kernel
theorem d39_0 : decode jdk_43_method_2_code 0 = .ok (.iload_n 1, 1) := by decide +kernel
theorem d39_1 : decode jdk_43_method_2_code 1 = .ok (.aload_n 0, 1) := by decide +kernel
theorem d39_2 : decode jdk_43_method_2_code 2 = .ok (.arraylength, 1) := by decide +kernel
theorem d39_3 : decode jdk_43_method_2_code 3 = .ok (.invokestatic 9, 3) := by decide +kernel
theorem d39_6 : decode jdk_43_method_2_code 6 = .ok (.aload_n 0, 1) := by decide +kernel
theorem d39_7 : decode jdk_43_method_2_code 7 = .ok (.iload_n 1, 1) := by decide +kernel
theorem d39_8 : decode jdk_43_method_2_code 8 = .ok (.baload, 1) := by decide +kernel
theorem d39_9 : decode jdk_43_method_2_code 9 = .ok (.sipush 255, 3) := by decide +kernel
theorem d39_12 : decode jdk_43_method_2_code 12 = .ok (.iand, 1) := by decide +kernel
theorem d39_13 : decode jdk_43_method_2_code 13 = .ok (.i2c, 1) := by decide +kernel
theorem d39_14 : decode jdk_43_method_2_code 14 = .ok (.ireturn, 1) := by decide +kernel
def Q_l1Char_0_2 (Z : State) (t : Nat) (kb : ClassId) (fm : Value) (c0 : Int32) (c1 : Int32) (h0 : Heap) (n0 : Nat) (vR : Option Value) (hR : Heap) (LR : List Loc) : Prop := vR = some (.int c0) ∧ Fr n0 LR ∧ hR = h0
set_option maxRecDepth 65536 in
set_option maxHeartbeats 40000000 in
theorem l1Char_0_2 (l : Launch) (Z : State) (a0 : Array Value) (hw : ∀ d ∈ tables_1, d.before a0 Z = true) (ws : List Jvm.Cond) (t : Nat) (kb : ClassId) (fm : Value) (c0 : Int32) (c1 : Int32) (h0 : Heap) (n0 : Nat) (Z0 : n0 ≤ h0.size) (V_t : Arv Z h0 t kb .byte (2 : Int32) [(.int (c0.toInt8.toInt32)), (.int (c1.toInt8.toInt32))] (.int 0)) (S_FM : Sta Z h0 "jdk/internal/util/Preconditions" "SIOOBE_FORMATTER" "Ljava/util/function/BiFunction;" fm) (hfm : fm.isRef = true) (h0_c0 : ¬ (c0 < (0 : Int32))) (h1_c0 : ¬ ((255 : Int32) < c0)) :
    own_M l (⟨"java/lang/StringLatin1", "charAt", "([BI)C"⟩ : MethodName) jdk_43_method_2_code 2 (some .char) ws ({ frames := 2, cells := 0, slots := 0, locals := 27 } : Room) Z #[(.ref t), (.int 0)] h0 (Q_l1Char_0_2 Z t kb fm c0 c1 h0 n0) := by
  refine own_body (own := "java/lang/StringLatin1") rfl (plainFor_of_name pn_39) (fun m => ef_l1Char_0_2 m t (0 : Int32)) ?_
  intro p e s m below meth c s₁ Bd hml hZ hh hx hby hown X0 e0
  have N0 := Fr.nil n0
  have lt2 : h0.size > t := V_t.lt
  refine own_iloadN X0.here hx hby d39_0 rfl ?_
  refine own_aloadN X0.here hx hby d39_1 rfl rfl ?_
  refine own_alen X0 hx hZ e0 V_t hby d39_2 ?_
  refine own_callS X0 hx hZ hown (own_w hw 207 rfl) (own_w hw 208 rfl) (own_w hw 2 rfl) (own_w hw 209 rfl) (by decide) (strChk_0_2 l Z a0 hw [] fm h0 n0 Z0 S_FM hfm) 0 (Nat.le_of_eq rfl) (by decide) (by decide) (by rw [hml]; rfl) (argsL := [(.int 0), (.int 2)]) (st := []) (lenOf pd_13 rfl) rfl rfl (by decide) (by decide) e0 hby d39_3 ?_
  intro T3 v3 L3 X3 hQ3
  obtain ⟨rfl, Nq3, eh3⟩ := hQ3
  have N3 := Fr.app N0 Nq3
  refine own_sh (T := T3) 6 #[.val (.ref t), .val (.int 0)] [] ?_
  refine own_aloadN X3.here hx hby d39_6 rfl rfl ?_
  refine own_iloadN X3.here hx hby d39_7 rfl ?_
  refine own_baload X3 hx hZ eh3 V_t ⟨by decide, by decide⟩ (v := (.int (c0.toInt8.toInt32))) rfl hby d39_8 ?_
  refine own_sipush X3.here hx hby d39_9 (v := (255 : Int32)) (by decide) ?_
  refine own_iand X3.here hx hby d39_12 rfl ?_
  refine own_i2c X3.here hx hby d39_13 rfl ?_
  obtain ⟨fs, hr, hrun, hended, hW, hsame⟩ := X3.leave (v := some (.int (nar .char (((c0.toInt8.toInt32) &&& (255 : Int32)).toUInt32.toUInt16.toUInt32.toInt32)))) (fun h => by rw [Bd.returns] at h; cases h)
  refine own_ret (t := T3.setFrames fs) ?_ ⟨_, hrun, hended, _, _, rfl, ?_, ⟨_, rfl⟩, hW, hsame.mono (by decide) (by decide)⟩
  · exact retN X3 hx (t := .char) Bd.returns (by simp) (hb hby d39_14) hr
  · show Q_l1Char_0_2 Z _ _ _ _ _ h0 n0 _ T3.heap _
    rw [eh3]
    exact ⟨congrArg (fun z => some (Value.int z)) (own_chr8 c0 h0_c0 h1_c0), N3, rfl⟩
theorem ef_strChar_0_2 (m : MethodId) (x0 : Nat) (x1 : Int32) : entryFrame m #[(.ref x0), (.int x1)] 2 = mkF m 0 #[.val (.ref x0), .val (.int x1)] [] := by first | (simp [entryFrame, mkF, argsToLocals, Value.category]; done) | rfl
theorem pn_38 : plainName "java/lang/String" = true := by first | (simp [plainName, overriddenIn]; done) | decide +kernel
theorem d38_0 : decode jdk_42_method_56_code 0 = .ok (.aload_n 0, 1) := by decide +kernel
theorem d38_1 : decode jdk_42_method_56_code 1 = .ok (.invokevirtual 492, 3) := by decide +kernel
theorem d38_4 : decode jdk_42_method_56_code 4 = .ok (.ifCond .eq 12, 3) := by decide +kernel
theorem d38_7 : decode jdk_42_method_56_code 7 = .ok (.aload_n 0, 1) := by decide +kernel
theorem d38_8 : decode jdk_42_method_56_code 8 = .ok (.getfield 9, 3) := by decide +kernel
theorem d38_11 : decode jdk_42_method_56_code 11 = .ok (.iload_n 1, 1) := by decide +kernel
theorem d38_12 : decode jdk_42_method_56_code 12 = .ok (.invokestatic 495, 3) := by decide +kernel
theorem pd_24 : parseMethodDescriptor "([BI)C" = some ⟨[(.array .byte), .int], some .char⟩ := by decide +kernel
theorem d38_15 : decode jdk_42_method_56_code 15 = .ok (.ireturn, 1) := by decide +kernel
def Q_strChar_0_2 (Z : State) (x : Nat) (t : Nat) (kb : ClassId) (zc : Int32) (fm : Value) (c0 : Int32) (c1 : Int32) (h0 : Heap) (n0 : Nat) (vR : Option Value) (hR : Heap) (LR : List Loc) : Prop := vR = some (.int c0) ∧ Fr n0 LR ∧ hR = h0
set_option maxRecDepth 65536 in
set_option maxHeartbeats 40000000 in
theorem strChar_0_2 (l : Launch) (Z : State) (a0 : Array Value) (hw : ∀ d ∈ tables_1, d.before a0 Z = true) (ws : List Jvm.Cond) (x : Nat) (t : Nat) (kb : ClassId) (zc : Int32) (fm : Value) (c0 : Int32) (c1 : Int32) (h0 : Heap) (n0 : Nat) (Z0 : n0 ≤ h0.size) (E_x : Exa Z h0 x "java/lang/String") (Fc_x : Fld Z h0 x "java/lang/String" "coder" "B" (.int 0)) (Fv_x : Fld Z h0 x "java/lang/String" "value" "[B" (.ref t)) (V_t : Arv Z h0 t kb .byte (2 : Int32) [(.int (c0.toInt8.toInt32)), (.int (c1.toInt8.toInt32))] (.int 0)) (S_C : Sta Z h0 "java/lang/String" "COMPACT_STRINGS" "Z" (.int zc)) (hz : ¬ (zc = (0 : Int32))) (S_FM : Sta Z h0 "jdk/internal/util/Preconditions" "SIOOBE_FORMATTER" "Ljava/util/function/BiFunction;" fm) (hfm : fm.isRef = true) (h0_c0 : ¬ (c0 < (0 : Int32))) (h1_c0 : ¬ ((255 : Int32) < c0)) :
    own_M l (⟨"java/lang/String", "charAt", "(I)C"⟩ : MethodName) jdk_42_method_56_code 2 (some .char) ws ({ frames := 3, cells := 0, slots := 0, locals := 40 } : Room) Z #[(.ref x), (.int 0)] h0 (Q_strChar_0_2 Z x t kb zc fm c0 c1 h0 n0) := by
  refine own_body (own := "java/lang/String") rfl (plainFor_of_name pn_38) (fun m => ef_strChar_0_2 m x (0 : Int32)) ?_
  intro p e s m below meth c s₁ Bd hml hZ hh hx hby hown X0 e0
  have N0 := Fr.nil n0
  have lt2 : h0.size > x := E_x.lt
  have lt3 : h0.size > t := V_t.lt
  refine own_aloadN X0.here hx hby d38_0 rfl rfl ?_
  refine own_virtual X0 hx hZ hown (own_w hw 139 rfl) (own_w hw 140 rfl) (notFace_of_selects (args := #[]) (mvT hZ (own_w hw 142 rfl))) (own_w hw 142 rfl) (own_w hw 141 rfl) (own_w hw 2 rfl) (own_w hw 143 rfl) (by decide) (strIsL l Z a0 hw [] x zc h0 n0 Z0 Fc_x S_C hz) 0 (Nat.le_of_eq rfl) (by decide) (by decide) (by rw [hml]; rfl) (argsL := []) (st := []) E_x (lenOf pd_10 rfl) rfl rfl (by decide) (by decide) e0 hby d38_1 ?_
  intro T4 v4 L4 X4 hQ4
  obtain ⟨rfl, Nq4, eh4⟩ := hQ4
  have N4 := Fr.app N0 Nq4
  refine own_sh (T := T4) 4 #[.val (.ref x), .val (.int 0)] [(.int 1)] ?_
  refine own_ifNo X4.here hx hby d38_4 ((if0 _ _).trans (feq (show ¬ ((1 : Int32) = (0 : Int32)) from (by decide))).1) ?_
  refine own_aloadN X4.here hx hby d38_7 rfl rfl ?_
  refine own_getF X4 hx hZ hown (host := "") (Or.inl (own_w hw 32 rfl)) Via.refl eh4 Fv_x hby d38_8 ?_
  intro T5 X5 e5
  refine own_iloadN X5.here hx hby d38_11 rfl ?_
  refine own_callS X5 hx hZ hown (own_w hw 204 rfl) (own_w hw 205 rfl) (own_w hw 146 rfl) (own_w hw 206 rfl) (by decide) (l1Char_0_2 l Z a0 hw [] t kb fm c0 c1 h0 n0 Z0 V_t S_FM hfm h0_c0 h1_c0) 0 (Nat.le_of_eq rfl) (by decide) (by decide) (by rw [hml]; rfl) (argsL := [(.ref t), (.int 0)]) (st := []) (lenOf pd_24 rfl) rfl rfl (by decide) (by decide) e5 hby d38_12 ?_
  intro T6 v6 L6 X6 hQ6
  obtain ⟨rfl, Nq6, eh6⟩ := hQ6
  have N6 := Fr.app N4 Nq6
  refine own_sh (T := T6) 15 #[.val (.ref x), .val (.int 0)] [(.int c0)] ?_
  obtain ⟨fs, hr, hrun, hended, hW, hsame⟩ := X6.leave (v := some (.int (nar .char c0))) (fun h => by rw [Bd.returns] at h; cases h)
  refine own_ret (t := T6.setFrames fs) ?_ ⟨_, hrun, hended, _, _, rfl, ?_, ⟨_, rfl⟩, hW, hsame.mono (by decide) (by decide)⟩
  · exact retN X6 hx (t := .char) Bd.returns (by simp) (hb hby d38_15) hr
  · show Q_strChar_0_2 Z _ _ _ _ _ _ _ h0 n0 _ T6.heap _
    rw [eh6]
    exact ⟨congrArg (fun z => some (Value.int z)) (own_nar8 c0 h0_c0 h1_c0), N6, rfl⟩
def Q_preChk_1_2 (Z : State) (fm : Value) (h0 : Heap) (n0 : Nat) (vR : Option Value) (hR : Heap) (LR : List Loc) : Prop := vR = some (.int 1) ∧ Fr n0 LR ∧ hR = h0
set_option maxRecDepth 65536 in
set_option maxHeartbeats 40000000 in
theorem preChk_1_2 (l : Launch) (Z : State) (a0 : Array Value) (hw : ∀ d ∈ tables_1, d.before a0 Z = true) (ws : List Jvm.Cond) (fm : Value) (h0 : Heap) (n0 : Nat) (Z0 : n0 ≤ h0.size) (hfm : fm.isRef = true) :
    own_M l (⟨"jdk/internal/util/Preconditions", "checkIndex", "(IILjava/util/function/BiFunction;)I"⟩ : MethodName) jdk_41_method_11_code 3 (some .int) ws ({ frames := 0, cells := 0, slots := 0, locals := 0 } : Room) Z #[(.int 1), (.int 2), fm] h0 (Q_preChk_1_2 Z fm h0 n0) := by
  refine own_body (own := "jdk/internal/util/Preconditions") rfl (plainFor_of_name pn_41) (fun m => ef_preChk_0_2 m (1 : Int32) (2 : Int32) fm hfm) ?_
  intro p e s m below meth c s₁ Bd hml hZ hh hx hby hown X0 e0
  have N0 := Fr.nil n0
  refine own_iloadN X0.here hx hby d41_0 rfl ?_
  refine own_ifNo X0.here hx hby d41_1 ((if0 _ _).trans (flt (show ¬ ((1 : Int32) < (0 : Int32)) from (by decide))).1) ?_
  refine own_iloadN X0.here hx hby d41_4 rfl ?_
  refine own_iloadN X0.here hx hby d41_5 rfl ?_
  refine own_icmpYes X0.here hx hby (pc' := 16) d41_6 (tlt (show (1 : Int32) < (2 : Int32) from (by decide))).1 (by decide) (by decide) ?_
  refine own_iloadN X0.here hx hby d41_16 rfl ?_
  obtain ⟨fs, hr, hrun, hended, hW, hsame⟩ := X0.leave (v := some (.int 1)) (fun h => by rw [Bd.returns] at h; cases h)
  refine own_ret (t := s₁.setFrames fs) ?_ ⟨_, hrun, hended, _, _, rfl, ?_, ⟨_, rfl⟩, hW, hsame.mono (by decide) (by decide)⟩
  · exact retOut X0 hx Bd.returns rfl (Or.inl ⟨rfl, Or.inl rfl, _, rfl⟩) (hb hby d41_17) hr
  · show Q_preChk_1_2 Z _ h0 n0 _ s₁.heap _
    rw [e0]
    exact ⟨rfl, N0, rfl⟩
def Q_strChk_1_2 (Z : State) (fm : Value) (h0 : Heap) (n0 : Nat) (vR : Option Value) (hR : Heap) (LR : List Loc) : Prop := vR = none ∧ Fr n0 LR ∧ hR = h0
set_option maxRecDepth 65536 in
set_option maxHeartbeats 40000000 in
theorem strChk_1_2 (l : Launch) (Z : State) (a0 : Array Value) (hw : ∀ d ∈ tables_1, d.before a0 Z = true) (ws : List Jvm.Cond) (fm : Value) (h0 : Heap) (n0 : Nat) (Z0 : n0 ≤ h0.size) (S_FM : Sta Z h0 "jdk/internal/util/Preconditions" "SIOOBE_FORMATTER" "Ljava/util/function/BiFunction;" fm) (hfm : fm.isRef = true) :
    own_M l (⟨"java/lang/String", "checkIndex", "(II)V"⟩ : MethodName) jdk_42_method_155_code 2 none ws ({ frames := 1, cells := 0, slots := 0, locals := 14 } : Room) Z #[(.int 1), (.int 2)] h0 (Q_strChk_1_2 Z fm h0 n0) := by
  refine own_body (own := "java/lang/String") rfl (plainFor_of_name pn_40) (fun m => ef_strChk_0_2 m (1 : Int32) (2 : Int32)) ?_
  intro p e s m below meth c s₁ Bd hml hZ hh hx hby hown X0 e0
  have N0 := Fr.nil n0
  refine own_iloadN X0.here hx hby d40_0 rfl ?_
  refine own_iloadN X0.here hx hby d40_1 rfl ?_
  refine own_getS X0 hx hZ hown (host := "") (Or.inl (own_w hw 134 rfl)) Via.refl e0 S_FM hby d40_2 ?_
  intro T1 X1 e1
  refine own_callS X1 hx hZ hown (own_w hw 210 rfl) (own_w hw 211 rfl) (own_w hw 135 rfl) (own_w hw 212 rfl) (by decide) (preChk_1_2 l Z a0 hw [] fm h0 n0 Z0 hfm) 0 (Nat.le_of_eq rfl) (by decide) (by decide) (by rw [hml]; rfl) (argsL := [(.int 1), (.int 2), fm]) (st := []) (lenOf pd_23 rfl) rfl rfl (by decide) (by decide) e1 hby d40_5 ?_
  intro T2 v2 L2 X2 hQ2
  obtain ⟨rfl, Nq2, eh2⟩ := hQ2
  have N2 := Fr.app N0 Nq2
  refine own_sh (T := T2) 8 #[.val (.int 1), .val (.int 2)] [(.int 1)] ?_
  refine own_pop X2.here hx hby d40_8 rfl ?_
  obtain ⟨fs, hr, hrun, hended, hW, hsame⟩ := X2.leave (v := none) (fun _ => rfl)
  refine own_ret (t := T2.setFrames fs) ?_ ⟨_, hrun, hended, _, _, rfl, ?_, ⟨_, rfl⟩, hW, hsame.mono (by decide) (by decide)⟩
  · exact X2.returnOut hx Bd.returns (hb hby d40_9) hr
  · show Q_strChk_1_2 Z _ h0 n0 _ T2.heap _
    rw [eh2]
    exact ⟨rfl, N2, rfl⟩
def Q_l1Char_1_2 (Z : State) (t : Nat) (kb : ClassId) (fm : Value) (c0 : Int32) (c1 : Int32) (h0 : Heap) (n0 : Nat) (vR : Option Value) (hR : Heap) (LR : List Loc) : Prop := vR = some (.int c1) ∧ Fr n0 LR ∧ hR = h0
set_option maxRecDepth 65536 in
set_option maxHeartbeats 40000000 in
theorem l1Char_1_2 (l : Launch) (Z : State) (a0 : Array Value) (hw : ∀ d ∈ tables_1, d.before a0 Z = true) (ws : List Jvm.Cond) (t : Nat) (kb : ClassId) (fm : Value) (c0 : Int32) (c1 : Int32) (h0 : Heap) (n0 : Nat) (Z0 : n0 ≤ h0.size) (V_t : Arv Z h0 t kb .byte (2 : Int32) [(.int (c0.toInt8.toInt32)), (.int (c1.toInt8.toInt32))] (.int 0)) (S_FM : Sta Z h0 "jdk/internal/util/Preconditions" "SIOOBE_FORMATTER" "Ljava/util/function/BiFunction;" fm) (hfm : fm.isRef = true) (h0_c1 : ¬ (c1 < (0 : Int32))) (h1_c1 : ¬ ((255 : Int32) < c1)) :
    own_M l (⟨"java/lang/StringLatin1", "charAt", "([BI)C"⟩ : MethodName) jdk_43_method_2_code 2 (some .char) ws ({ frames := 2, cells := 0, slots := 0, locals := 27 } : Room) Z #[(.ref t), (.int 1)] h0 (Q_l1Char_1_2 Z t kb fm c0 c1 h0 n0) := by
  refine own_body (own := "java/lang/StringLatin1") rfl (plainFor_of_name pn_39) (fun m => ef_l1Char_0_2 m t (1 : Int32)) ?_
  intro p e s m below meth c s₁ Bd hml hZ hh hx hby hown X0 e0
  have N0 := Fr.nil n0
  have lt2 : h0.size > t := V_t.lt
  refine own_iloadN X0.here hx hby d39_0 rfl ?_
  refine own_aloadN X0.here hx hby d39_1 rfl rfl ?_
  refine own_alen X0 hx hZ e0 V_t hby d39_2 ?_
  refine own_callS X0 hx hZ hown (own_w hw 207 rfl) (own_w hw 208 rfl) (own_w hw 2 rfl) (own_w hw 209 rfl) (by decide) (strChk_1_2 l Z a0 hw [] fm h0 n0 Z0 S_FM hfm) 0 (Nat.le_of_eq rfl) (by decide) (by decide) (by rw [hml]; rfl) (argsL := [(.int 1), (.int 2)]) (st := []) (lenOf pd_13 rfl) rfl rfl (by decide) (by decide) e0 hby d39_3 ?_
  intro T3 v3 L3 X3 hQ3
  obtain ⟨rfl, Nq3, eh3⟩ := hQ3
  have N3 := Fr.app N0 Nq3
  refine own_sh (T := T3) 6 #[.val (.ref t), .val (.int 1)] [] ?_
  refine own_aloadN X3.here hx hby d39_6 rfl rfl ?_
  refine own_iloadN X3.here hx hby d39_7 rfl ?_
  refine own_baload X3 hx hZ eh3 V_t ⟨by decide, by decide⟩ (v := (.int (c1.toInt8.toInt32))) rfl hby d39_8 ?_
  refine own_sipush X3.here hx hby d39_9 (v := (255 : Int32)) (by decide) ?_
  refine own_iand X3.here hx hby d39_12 rfl ?_
  refine own_i2c X3.here hx hby d39_13 rfl ?_
  obtain ⟨fs, hr, hrun, hended, hW, hsame⟩ := X3.leave (v := some (.int (nar .char (((c1.toInt8.toInt32) &&& (255 : Int32)).toUInt32.toUInt16.toUInt32.toInt32)))) (fun h => by rw [Bd.returns] at h; cases h)
  refine own_ret (t := T3.setFrames fs) ?_ ⟨_, hrun, hended, _, _, rfl, ?_, ⟨_, rfl⟩, hW, hsame.mono (by decide) (by decide)⟩
  · exact retN X3 hx (t := .char) Bd.returns (by simp) (hb hby d39_14) hr
  · show Q_l1Char_1_2 Z _ _ _ _ _ h0 n0 _ T3.heap _
    rw [eh3]
    exact ⟨congrArg (fun z => some (Value.int z)) (own_chr8 c1 h0_c1 h1_c1), N3, rfl⟩
def Q_strChar_1_2 (Z : State) (x : Nat) (t : Nat) (kb : ClassId) (zc : Int32) (fm : Value) (c0 : Int32) (c1 : Int32) (h0 : Heap) (n0 : Nat) (vR : Option Value) (hR : Heap) (LR : List Loc) : Prop := vR = some (.int c1) ∧ Fr n0 LR ∧ hR = h0
set_option maxRecDepth 65536 in
set_option maxHeartbeats 40000000 in
theorem strChar_1_2 (l : Launch) (Z : State) (a0 : Array Value) (hw : ∀ d ∈ tables_1, d.before a0 Z = true) (ws : List Jvm.Cond) (x : Nat) (t : Nat) (kb : ClassId) (zc : Int32) (fm : Value) (c0 : Int32) (c1 : Int32) (h0 : Heap) (n0 : Nat) (Z0 : n0 ≤ h0.size) (E_x : Exa Z h0 x "java/lang/String") (Fc_x : Fld Z h0 x "java/lang/String" "coder" "B" (.int 0)) (Fv_x : Fld Z h0 x "java/lang/String" "value" "[B" (.ref t)) (V_t : Arv Z h0 t kb .byte (2 : Int32) [(.int (c0.toInt8.toInt32)), (.int (c1.toInt8.toInt32))] (.int 0)) (S_C : Sta Z h0 "java/lang/String" "COMPACT_STRINGS" "Z" (.int zc)) (hz : ¬ (zc = (0 : Int32))) (S_FM : Sta Z h0 "jdk/internal/util/Preconditions" "SIOOBE_FORMATTER" "Ljava/util/function/BiFunction;" fm) (hfm : fm.isRef = true) (h0_c1 : ¬ (c1 < (0 : Int32))) (h1_c1 : ¬ ((255 : Int32) < c1)) :
    own_M l (⟨"java/lang/String", "charAt", "(I)C"⟩ : MethodName) jdk_42_method_56_code 2 (some .char) ws ({ frames := 3, cells := 0, slots := 0, locals := 40 } : Room) Z #[(.ref x), (.int 1)] h0 (Q_strChar_1_2 Z x t kb zc fm c0 c1 h0 n0) := by
  refine own_body (own := "java/lang/String") rfl (plainFor_of_name pn_38) (fun m => ef_strChar_0_2 m x (1 : Int32)) ?_
  intro p e s m below meth c s₁ Bd hml hZ hh hx hby hown X0 e0
  have N0 := Fr.nil n0
  have lt2 : h0.size > x := E_x.lt
  have lt3 : h0.size > t := V_t.lt
  refine own_aloadN X0.here hx hby d38_0 rfl rfl ?_
  refine own_virtual X0 hx hZ hown (own_w hw 139 rfl) (own_w hw 140 rfl) (notFace_of_selects (args := #[]) (mvT hZ (own_w hw 142 rfl))) (own_w hw 142 rfl) (own_w hw 141 rfl) (own_w hw 2 rfl) (own_w hw 143 rfl) (by decide) (strIsL l Z a0 hw [] x zc h0 n0 Z0 Fc_x S_C hz) 0 (Nat.le_of_eq rfl) (by decide) (by decide) (by rw [hml]; rfl) (argsL := []) (st := []) E_x (lenOf pd_10 rfl) rfl rfl (by decide) (by decide) e0 hby d38_1 ?_
  intro T4 v4 L4 X4 hQ4
  obtain ⟨rfl, Nq4, eh4⟩ := hQ4
  have N4 := Fr.app N0 Nq4
  refine own_sh (T := T4) 4 #[.val (.ref x), .val (.int 1)] [(.int 1)] ?_
  refine own_ifNo X4.here hx hby d38_4 ((if0 _ _).trans (feq (show ¬ ((1 : Int32) = (0 : Int32)) from (by decide))).1) ?_
  refine own_aloadN X4.here hx hby d38_7 rfl rfl ?_
  refine own_getF X4 hx hZ hown (host := "") (Or.inl (own_w hw 32 rfl)) Via.refl eh4 Fv_x hby d38_8 ?_
  intro T5 X5 e5
  refine own_iloadN X5.here hx hby d38_11 rfl ?_
  refine own_callS X5 hx hZ hown (own_w hw 204 rfl) (own_w hw 205 rfl) (own_w hw 146 rfl) (own_w hw 206 rfl) (by decide) (l1Char_1_2 l Z a0 hw [] t kb fm c0 c1 h0 n0 Z0 V_t S_FM hfm h0_c1 h1_c1) 0 (Nat.le_of_eq rfl) (by decide) (by decide) (by rw [hml]; rfl) (argsL := [(.ref t), (.int 1)]) (st := []) (lenOf pd_24 rfl) rfl rfl (by decide) (by decide) e5 hby d38_12 ?_
  intro T6 v6 L6 X6 hQ6
  obtain ⟨rfl, Nq6, eh6⟩ := hQ6
  have N6 := Fr.app N4 Nq6
  refine own_sh (T := T6) 15 #[.val (.ref x), .val (.int 1)] [(.int c1)] ?_
  obtain ⟨fs, hr, hrun, hended, hW, hsame⟩ := X6.leave (v := some (.int (nar .char c1))) (fun h => by rw [Bd.returns] at h; cases h)
  refine own_ret (t := T6.setFrames fs) ?_ ⟨_, hrun, hended, _, _, rfl, ?_, ⟨_, rfl⟩, hW, hsame.mono (by decide) (by decide)⟩
  · exact retN X6 hx (t := .char) Bd.returns (by simp) (hb hby d38_15) hr
  · show Q_strChar_1_2 Z _ _ _ _ _ _ _ h0 n0 _ T6.heap _
    rw [eh6]
    exact ⟨congrArg (fun z => some (Value.int z)) (own_nar8 c1 h0_c1 h1_c1), N6, rfl⟩
def Q_preChk_0_4 (Z : State) (fm : Value) (h0 : Heap) (n0 : Nat) (vR : Option Value) (hR : Heap) (LR : List Loc) : Prop := vR = some (.int 0) ∧ Fr n0 LR ∧ hR = h0
set_option maxRecDepth 65536 in
set_option maxHeartbeats 40000000 in
theorem preChk_0_4 (l : Launch) (Z : State) (a0 : Array Value) (hw : ∀ d ∈ tables_1, d.before a0 Z = true) (ws : List Jvm.Cond) (fm : Value) (h0 : Heap) (n0 : Nat) (Z0 : n0 ≤ h0.size) (hfm : fm.isRef = true) :
    own_M l (⟨"jdk/internal/util/Preconditions", "checkIndex", "(IILjava/util/function/BiFunction;)I"⟩ : MethodName) jdk_41_method_11_code 3 (some .int) ws ({ frames := 0, cells := 0, slots := 0, locals := 0 } : Room) Z #[(.int 0), (.int 4), fm] h0 (Q_preChk_0_4 Z fm h0 n0) := by
  refine own_body (own := "jdk/internal/util/Preconditions") rfl (plainFor_of_name pn_41) (fun m => ef_preChk_0_2 m (0 : Int32) (4 : Int32) fm hfm) ?_
  intro p e s m below meth c s₁ Bd hml hZ hh hx hby hown X0 e0
  have N0 := Fr.nil n0
  refine own_iloadN X0.here hx hby d41_0 rfl ?_
  refine own_ifNo X0.here hx hby d41_1 ((if0 _ _).trans (flt (show ¬ ((0 : Int32) < (0 : Int32)) from (by decide))).1) ?_
  refine own_iloadN X0.here hx hby d41_4 rfl ?_
  refine own_iloadN X0.here hx hby d41_5 rfl ?_
  refine own_icmpYes X0.here hx hby (pc' := 16) d41_6 (tlt (show (0 : Int32) < (4 : Int32) from (by decide))).1 (by decide) (by decide) ?_
  refine own_iloadN X0.here hx hby d41_16 rfl ?_
  obtain ⟨fs, hr, hrun, hended, hW, hsame⟩ := X0.leave (v := some (.int 0)) (fun h => by rw [Bd.returns] at h; cases h)
  refine own_ret (t := s₁.setFrames fs) ?_ ⟨_, hrun, hended, _, _, rfl, ?_, ⟨_, rfl⟩, hW, hsame.mono (by decide) (by decide)⟩
  · exact retOut X0 hx Bd.returns rfl (Or.inl ⟨rfl, Or.inl rfl, _, rfl⟩) (hb hby d41_17) hr
  · show Q_preChk_0_4 Z _ h0 n0 _ s₁.heap _
    rw [e0]
    exact ⟨rfl, N0, rfl⟩
def Q_strChk_0_4 (Z : State) (fm : Value) (h0 : Heap) (n0 : Nat) (vR : Option Value) (hR : Heap) (LR : List Loc) : Prop := vR = none ∧ Fr n0 LR ∧ hR = h0
set_option maxRecDepth 65536 in
set_option maxHeartbeats 40000000 in
theorem strChk_0_4 (l : Launch) (Z : State) (a0 : Array Value) (hw : ∀ d ∈ tables_1, d.before a0 Z = true) (ws : List Jvm.Cond) (fm : Value) (h0 : Heap) (n0 : Nat) (Z0 : n0 ≤ h0.size) (S_FM : Sta Z h0 "jdk/internal/util/Preconditions" "SIOOBE_FORMATTER" "Ljava/util/function/BiFunction;" fm) (hfm : fm.isRef = true) :
    own_M l (⟨"java/lang/String", "checkIndex", "(II)V"⟩ : MethodName) jdk_42_method_155_code 2 none ws ({ frames := 1, cells := 0, slots := 0, locals := 14 } : Room) Z #[(.int 0), (.int 4)] h0 (Q_strChk_0_4 Z fm h0 n0) := by
  refine own_body (own := "java/lang/String") rfl (plainFor_of_name pn_40) (fun m => ef_strChk_0_2 m (0 : Int32) (4 : Int32)) ?_
  intro p e s m below meth c s₁ Bd hml hZ hh hx hby hown X0 e0
  have N0 := Fr.nil n0
  refine own_iloadN X0.here hx hby d40_0 rfl ?_
  refine own_iloadN X0.here hx hby d40_1 rfl ?_
  refine own_getS X0 hx hZ hown (host := "") (Or.inl (own_w hw 134 rfl)) Via.refl e0 S_FM hby d40_2 ?_
  intro T1 X1 e1
  refine own_callS X1 hx hZ hown (own_w hw 210 rfl) (own_w hw 211 rfl) (own_w hw 135 rfl) (own_w hw 212 rfl) (by decide) (preChk_0_4 l Z a0 hw [] fm h0 n0 Z0 hfm) 0 (Nat.le_of_eq rfl) (by decide) (by decide) (by rw [hml]; rfl) (argsL := [(.int 0), (.int 4), fm]) (st := []) (lenOf pd_23 rfl) rfl rfl (by decide) (by decide) e1 hby d40_5 ?_
  intro T2 v2 L2 X2 hQ2
  obtain ⟨rfl, Nq2, eh2⟩ := hQ2
  have N2 := Fr.app N0 Nq2
  refine own_sh (T := T2) 8 #[.val (.int 0), .val (.int 4)] [(.int 0)] ?_
  refine own_pop X2.here hx hby d40_8 rfl ?_
  obtain ⟨fs, hr, hrun, hended, hW, hsame⟩ := X2.leave (v := none) (fun _ => rfl)
  refine own_ret (t := T2.setFrames fs) ?_ ⟨_, hrun, hended, _, _, rfl, ?_, ⟨_, rfl⟩, hW, hsame.mono (by decide) (by decide)⟩
  · exact X2.returnOut hx Bd.returns (hb hby d40_9) hr
  · show Q_strChk_0_4 Z _ h0 n0 _ T2.heap _
    rw [eh2]
    exact ⟨rfl, N2, rfl⟩
def Q_l1Char_0_4 (Z : State) (t : Nat) (kb : ClassId) (fm : Value) (c0 : Int32) (c1 : Int32) (c2 : Int32) (c3 : Int32) (h0 : Heap) (n0 : Nat) (vR : Option Value) (hR : Heap) (LR : List Loc) : Prop := vR = some (.int c0) ∧ Fr n0 LR ∧ hR = h0
set_option maxRecDepth 65536 in
set_option maxHeartbeats 40000000 in
theorem l1Char_0_4 (l : Launch) (Z : State) (a0 : Array Value) (hw : ∀ d ∈ tables_1, d.before a0 Z = true) (ws : List Jvm.Cond) (t : Nat) (kb : ClassId) (fm : Value) (c0 : Int32) (c1 : Int32) (c2 : Int32) (c3 : Int32) (h0 : Heap) (n0 : Nat) (Z0 : n0 ≤ h0.size) (V_t : Arv Z h0 t kb .byte (4 : Int32) [(.int (c0.toInt8.toInt32)), (.int (c1.toInt8.toInt32)), (.int (c2.toInt8.toInt32)), (.int (c3.toInt8.toInt32))] (.int 0)) (S_FM : Sta Z h0 "jdk/internal/util/Preconditions" "SIOOBE_FORMATTER" "Ljava/util/function/BiFunction;" fm) (hfm : fm.isRef = true) (h0_c0 : ¬ (c0 < (0 : Int32))) (h1_c0 : ¬ ((255 : Int32) < c0)) :
    own_M l (⟨"java/lang/StringLatin1", "charAt", "([BI)C"⟩ : MethodName) jdk_43_method_2_code 2 (some .char) ws ({ frames := 2, cells := 0, slots := 0, locals := 27 } : Room) Z #[(.ref t), (.int 0)] h0 (Q_l1Char_0_4 Z t kb fm c0 c1 c2 c3 h0 n0) := by
  refine own_body (own := "java/lang/StringLatin1") rfl (plainFor_of_name pn_39) (fun m => ef_l1Char_0_2 m t (0 : Int32)) ?_
  intro p e s m below meth c s₁ Bd hml hZ hh hx hby hown X0 e0
  have N0 := Fr.nil n0
  have lt4 : h0.size > t := V_t.lt
  refine own_iloadN X0.here hx hby d39_0 rfl ?_
  refine own_aloadN X0.here hx hby d39_1 rfl rfl ?_
  refine own_alen X0 hx hZ e0 V_t hby d39_2 ?_
  refine own_callS X0 hx hZ hown (own_w hw 207 rfl) (own_w hw 208 rfl) (own_w hw 2 rfl) (own_w hw 209 rfl) (by decide) (strChk_0_4 l Z a0 hw [] fm h0 n0 Z0 S_FM hfm) 0 (Nat.le_of_eq rfl) (by decide) (by decide) (by rw [hml]; rfl) (argsL := [(.int 0), (.int 4)]) (st := []) (lenOf pd_13 rfl) rfl rfl (by decide) (by decide) e0 hby d39_3 ?_
  intro T5 v5 L5 X5 hQ5
  obtain ⟨rfl, Nq5, eh5⟩ := hQ5
  have N5 := Fr.app N0 Nq5
  refine own_sh (T := T5) 6 #[.val (.ref t), .val (.int 0)] [] ?_
  refine own_aloadN X5.here hx hby d39_6 rfl rfl ?_
  refine own_iloadN X5.here hx hby d39_7 rfl ?_
  refine own_baload X5 hx hZ eh5 V_t ⟨by decide, by decide⟩ (v := (.int (c0.toInt8.toInt32))) rfl hby d39_8 ?_
  refine own_sipush X5.here hx hby d39_9 (v := (255 : Int32)) (by decide) ?_
  refine own_iand X5.here hx hby d39_12 rfl ?_
  refine own_i2c X5.here hx hby d39_13 rfl ?_
  obtain ⟨fs, hr, hrun, hended, hW, hsame⟩ := X5.leave (v := some (.int (nar .char (((c0.toInt8.toInt32) &&& (255 : Int32)).toUInt32.toUInt16.toUInt32.toInt32)))) (fun h => by rw [Bd.returns] at h; cases h)
  refine own_ret (t := T5.setFrames fs) ?_ ⟨_, hrun, hended, _, _, rfl, ?_, ⟨_, rfl⟩, hW, hsame.mono (by decide) (by decide)⟩
  · exact retN X5 hx (t := .char) Bd.returns (by simp) (hb hby d39_14) hr
  · show Q_l1Char_0_4 Z _ _ _ _ _ _ _ h0 n0 _ T5.heap _
    rw [eh5]
    exact ⟨congrArg (fun z => some (Value.int z)) (own_chr8 c0 h0_c0 h1_c0), N5, rfl⟩
def Q_strChar_0_4 (Z : State) (x : Nat) (t : Nat) (kb : ClassId) (zc : Int32) (fm : Value) (c0 : Int32) (c1 : Int32) (c2 : Int32) (c3 : Int32) (h0 : Heap) (n0 : Nat) (vR : Option Value) (hR : Heap) (LR : List Loc) : Prop := vR = some (.int c0) ∧ Fr n0 LR ∧ hR = h0
set_option maxRecDepth 65536 in
set_option maxHeartbeats 40000000 in
theorem strChar_0_4 (l : Launch) (Z : State) (a0 : Array Value) (hw : ∀ d ∈ tables_1, d.before a0 Z = true) (ws : List Jvm.Cond) (x : Nat) (t : Nat) (kb : ClassId) (zc : Int32) (fm : Value) (c0 : Int32) (c1 : Int32) (c2 : Int32) (c3 : Int32) (h0 : Heap) (n0 : Nat) (Z0 : n0 ≤ h0.size) (E_x : Exa Z h0 x "java/lang/String") (Fc_x : Fld Z h0 x "java/lang/String" "coder" "B" (.int 0)) (Fv_x : Fld Z h0 x "java/lang/String" "value" "[B" (.ref t)) (V_t : Arv Z h0 t kb .byte (4 : Int32) [(.int (c0.toInt8.toInt32)), (.int (c1.toInt8.toInt32)), (.int (c2.toInt8.toInt32)), (.int (c3.toInt8.toInt32))] (.int 0)) (S_C : Sta Z h0 "java/lang/String" "COMPACT_STRINGS" "Z" (.int zc)) (hz : ¬ (zc = (0 : Int32))) (S_FM : Sta Z h0 "jdk/internal/util/Preconditions" "SIOOBE_FORMATTER" "Ljava/util/function/BiFunction;" fm) (hfm : fm.isRef = true) (h0_c0 : ¬ (c0 < (0 : Int32))) (h1_c0 : ¬ ((255 : Int32) < c0)) :
    own_M l (⟨"java/lang/String", "charAt", "(I)C"⟩ : MethodName) jdk_42_method_56_code 2 (some .char) ws ({ frames := 3, cells := 0, slots := 0, locals := 40 } : Room) Z #[(.ref x), (.int 0)] h0 (Q_strChar_0_4 Z x t kb zc fm c0 c1 c2 c3 h0 n0) := by
  refine own_body (own := "java/lang/String") rfl (plainFor_of_name pn_38) (fun m => ef_strChar_0_2 m x (0 : Int32)) ?_
  intro p e s m below meth c s₁ Bd hml hZ hh hx hby hown X0 e0
  have N0 := Fr.nil n0
  have lt4 : h0.size > x := E_x.lt
  have lt5 : h0.size > t := V_t.lt
  refine own_aloadN X0.here hx hby d38_0 rfl rfl ?_
  refine own_virtual X0 hx hZ hown (own_w hw 139 rfl) (own_w hw 140 rfl) (notFace_of_selects (args := #[]) (mvT hZ (own_w hw 142 rfl))) (own_w hw 142 rfl) (own_w hw 141 rfl) (own_w hw 2 rfl) (own_w hw 143 rfl) (by decide) (strIsL l Z a0 hw [] x zc h0 n0 Z0 Fc_x S_C hz) 0 (Nat.le_of_eq rfl) (by decide) (by decide) (by rw [hml]; rfl) (argsL := []) (st := []) E_x (lenOf pd_10 rfl) rfl rfl (by decide) (by decide) e0 hby d38_1 ?_
  intro T6 v6 L6 X6 hQ6
  obtain ⟨rfl, Nq6, eh6⟩ := hQ6
  have N6 := Fr.app N0 Nq6
  refine own_sh (T := T6) 4 #[.val (.ref x), .val (.int 0)] [(.int 1)] ?_
  refine own_ifNo X6.here hx hby d38_4 ((if0 _ _).trans (feq (show ¬ ((1 : Int32) = (0 : Int32)) from (by decide))).1) ?_
  refine own_aloadN X6.here hx hby d38_7 rfl rfl ?_
  refine own_getF X6 hx hZ hown (host := "") (Or.inl (own_w hw 32 rfl)) Via.refl eh6 Fv_x hby d38_8 ?_
  intro T7 X7 e7
  refine own_iloadN X7.here hx hby d38_11 rfl ?_
  refine own_callS X7 hx hZ hown (own_w hw 204 rfl) (own_w hw 205 rfl) (own_w hw 146 rfl) (own_w hw 206 rfl) (by decide) (l1Char_0_4 l Z a0 hw [] t kb fm c0 c1 c2 c3 h0 n0 Z0 V_t S_FM hfm h0_c0 h1_c0) 0 (Nat.le_of_eq rfl) (by decide) (by decide) (by rw [hml]; rfl) (argsL := [(.ref t), (.int 0)]) (st := []) (lenOf pd_24 rfl) rfl rfl (by decide) (by decide) e7 hby d38_12 ?_
  intro T8 v8 L8 X8 hQ8
  obtain ⟨rfl, Nq8, eh8⟩ := hQ8
  have N8 := Fr.app N6 Nq8
  refine own_sh (T := T8) 15 #[.val (.ref x), .val (.int 0)] [(.int c0)] ?_
  obtain ⟨fs, hr, hrun, hended, hW, hsame⟩ := X8.leave (v := some (.int (nar .char c0))) (fun h => by rw [Bd.returns] at h; cases h)
  refine own_ret (t := T8.setFrames fs) ?_ ⟨_, hrun, hended, _, _, rfl, ?_, ⟨_, rfl⟩, hW, hsame.mono (by decide) (by decide)⟩
  · exact retN X8 hx (t := .char) Bd.returns (by simp) (hb hby d38_15) hr
  · show Q_strChar_0_4 Z _ _ _ _ _ _ _ _ _ h0 n0 _ T8.heap _
    rw [eh8]
    exact ⟨congrArg (fun z => some (Value.int z)) (own_nar8 c0 h0_c0 h1_c0), N8, rfl⟩
def Q_preChk_1_4 (Z : State) (fm : Value) (h0 : Heap) (n0 : Nat) (vR : Option Value) (hR : Heap) (LR : List Loc) : Prop := vR = some (.int 1) ∧ Fr n0 LR ∧ hR = h0
set_option maxRecDepth 65536 in
set_option maxHeartbeats 40000000 in
theorem preChk_1_4 (l : Launch) (Z : State) (a0 : Array Value) (hw : ∀ d ∈ tables_1, d.before a0 Z = true) (ws : List Jvm.Cond) (fm : Value) (h0 : Heap) (n0 : Nat) (Z0 : n0 ≤ h0.size) (hfm : fm.isRef = true) :
    own_M l (⟨"jdk/internal/util/Preconditions", "checkIndex", "(IILjava/util/function/BiFunction;)I"⟩ : MethodName) jdk_41_method_11_code 3 (some .int) ws ({ frames := 0, cells := 0, slots := 0, locals := 0 } : Room) Z #[(.int 1), (.int 4), fm] h0 (Q_preChk_1_4 Z fm h0 n0) := by
  refine own_body (own := "jdk/internal/util/Preconditions") rfl (plainFor_of_name pn_41) (fun m => ef_preChk_0_2 m (1 : Int32) (4 : Int32) fm hfm) ?_
  intro p e s m below meth c s₁ Bd hml hZ hh hx hby hown X0 e0
  have N0 := Fr.nil n0
  refine own_iloadN X0.here hx hby d41_0 rfl ?_
  refine own_ifNo X0.here hx hby d41_1 ((if0 _ _).trans (flt (show ¬ ((1 : Int32) < (0 : Int32)) from (by decide))).1) ?_
  refine own_iloadN X0.here hx hby d41_4 rfl ?_
  refine own_iloadN X0.here hx hby d41_5 rfl ?_
  refine own_icmpYes X0.here hx hby (pc' := 16) d41_6 (tlt (show (1 : Int32) < (4 : Int32) from (by decide))).1 (by decide) (by decide) ?_
  refine own_iloadN X0.here hx hby d41_16 rfl ?_
  obtain ⟨fs, hr, hrun, hended, hW, hsame⟩ := X0.leave (v := some (.int 1)) (fun h => by rw [Bd.returns] at h; cases h)
  refine own_ret (t := s₁.setFrames fs) ?_ ⟨_, hrun, hended, _, _, rfl, ?_, ⟨_, rfl⟩, hW, hsame.mono (by decide) (by decide)⟩
  · exact retOut X0 hx Bd.returns rfl (Or.inl ⟨rfl, Or.inl rfl, _, rfl⟩) (hb hby d41_17) hr
  · show Q_preChk_1_4 Z _ h0 n0 _ s₁.heap _
    rw [e0]
    exact ⟨rfl, N0, rfl⟩
def Q_strChk_1_4 (Z : State) (fm : Value) (h0 : Heap) (n0 : Nat) (vR : Option Value) (hR : Heap) (LR : List Loc) : Prop := vR = none ∧ Fr n0 LR ∧ hR = h0
set_option maxRecDepth 65536 in
set_option maxHeartbeats 40000000 in
theorem strChk_1_4 (l : Launch) (Z : State) (a0 : Array Value) (hw : ∀ d ∈ tables_1, d.before a0 Z = true) (ws : List Jvm.Cond) (fm : Value) (h0 : Heap) (n0 : Nat) (Z0 : n0 ≤ h0.size) (S_FM : Sta Z h0 "jdk/internal/util/Preconditions" "SIOOBE_FORMATTER" "Ljava/util/function/BiFunction;" fm) (hfm : fm.isRef = true) :
    own_M l (⟨"java/lang/String", "checkIndex", "(II)V"⟩ : MethodName) jdk_42_method_155_code 2 none ws ({ frames := 1, cells := 0, slots := 0, locals := 14 } : Room) Z #[(.int 1), (.int 4)] h0 (Q_strChk_1_4 Z fm h0 n0) := by
  refine own_body (own := "java/lang/String") rfl (plainFor_of_name pn_40) (fun m => ef_strChk_0_2 m (1 : Int32) (4 : Int32)) ?_
  intro p e s m below meth c s₁ Bd hml hZ hh hx hby hown X0 e0
  have N0 := Fr.nil n0
  refine own_iloadN X0.here hx hby d40_0 rfl ?_
  refine own_iloadN X0.here hx hby d40_1 rfl ?_
  refine own_getS X0 hx hZ hown (host := "") (Or.inl (own_w hw 134 rfl)) Via.refl e0 S_FM hby d40_2 ?_
  intro T1 X1 e1
  refine own_callS X1 hx hZ hown (own_w hw 210 rfl) (own_w hw 211 rfl) (own_w hw 135 rfl) (own_w hw 212 rfl) (by decide) (preChk_1_4 l Z a0 hw [] fm h0 n0 Z0 hfm) 0 (Nat.le_of_eq rfl) (by decide) (by decide) (by rw [hml]; rfl) (argsL := [(.int 1), (.int 4), fm]) (st := []) (lenOf pd_23 rfl) rfl rfl (by decide) (by decide) e1 hby d40_5 ?_
  intro T2 v2 L2 X2 hQ2
  obtain ⟨rfl, Nq2, eh2⟩ := hQ2
  have N2 := Fr.app N0 Nq2
  refine own_sh (T := T2) 8 #[.val (.int 1), .val (.int 4)] [(.int 1)] ?_
  refine own_pop X2.here hx hby d40_8 rfl ?_
  obtain ⟨fs, hr, hrun, hended, hW, hsame⟩ := X2.leave (v := none) (fun _ => rfl)
  refine own_ret (t := T2.setFrames fs) ?_ ⟨_, hrun, hended, _, _, rfl, ?_, ⟨_, rfl⟩, hW, hsame.mono (by decide) (by decide)⟩
  · exact X2.returnOut hx Bd.returns (hb hby d40_9) hr
  · show Q_strChk_1_4 Z _ h0 n0 _ T2.heap _
    rw [eh2]
    exact ⟨rfl, N2, rfl⟩
def Q_l1Char_1_4 (Z : State) (t : Nat) (kb : ClassId) (fm : Value) (c0 : Int32) (c1 : Int32) (c2 : Int32) (c3 : Int32) (h0 : Heap) (n0 : Nat) (vR : Option Value) (hR : Heap) (LR : List Loc) : Prop := vR = some (.int c1) ∧ Fr n0 LR ∧ hR = h0
set_option maxRecDepth 65536 in
set_option maxHeartbeats 40000000 in
theorem l1Char_1_4 (l : Launch) (Z : State) (a0 : Array Value) (hw : ∀ d ∈ tables_1, d.before a0 Z = true) (ws : List Jvm.Cond) (t : Nat) (kb : ClassId) (fm : Value) (c0 : Int32) (c1 : Int32) (c2 : Int32) (c3 : Int32) (h0 : Heap) (n0 : Nat) (Z0 : n0 ≤ h0.size) (V_t : Arv Z h0 t kb .byte (4 : Int32) [(.int (c0.toInt8.toInt32)), (.int (c1.toInt8.toInt32)), (.int (c2.toInt8.toInt32)), (.int (c3.toInt8.toInt32))] (.int 0)) (S_FM : Sta Z h0 "jdk/internal/util/Preconditions" "SIOOBE_FORMATTER" "Ljava/util/function/BiFunction;" fm) (hfm : fm.isRef = true) (h0_c1 : ¬ (c1 < (0 : Int32))) (h1_c1 : ¬ ((255 : Int32) < c1)) :
    own_M l (⟨"java/lang/StringLatin1", "charAt", "([BI)C"⟩ : MethodName) jdk_43_method_2_code 2 (some .char) ws ({ frames := 2, cells := 0, slots := 0, locals := 27 } : Room) Z #[(.ref t), (.int 1)] h0 (Q_l1Char_1_4 Z t kb fm c0 c1 c2 c3 h0 n0) := by
  refine own_body (own := "java/lang/StringLatin1") rfl (plainFor_of_name pn_39) (fun m => ef_l1Char_0_2 m t (1 : Int32)) ?_
  intro p e s m below meth c s₁ Bd hml hZ hh hx hby hown X0 e0
  have N0 := Fr.nil n0
  have lt4 : h0.size > t := V_t.lt
  refine own_iloadN X0.here hx hby d39_0 rfl ?_
  refine own_aloadN X0.here hx hby d39_1 rfl rfl ?_
  refine own_alen X0 hx hZ e0 V_t hby d39_2 ?_
  refine own_callS X0 hx hZ hown (own_w hw 207 rfl) (own_w hw 208 rfl) (own_w hw 2 rfl) (own_w hw 209 rfl) (by decide) (strChk_1_4 l Z a0 hw [] fm h0 n0 Z0 S_FM hfm) 0 (Nat.le_of_eq rfl) (by decide) (by decide) (by rw [hml]; rfl) (argsL := [(.int 1), (.int 4)]) (st := []) (lenOf pd_13 rfl) rfl rfl (by decide) (by decide) e0 hby d39_3 ?_
  intro T5 v5 L5 X5 hQ5
  obtain ⟨rfl, Nq5, eh5⟩ := hQ5
  have N5 := Fr.app N0 Nq5
  refine own_sh (T := T5) 6 #[.val (.ref t), .val (.int 1)] [] ?_
  refine own_aloadN X5.here hx hby d39_6 rfl rfl ?_
  refine own_iloadN X5.here hx hby d39_7 rfl ?_
  refine own_baload X5 hx hZ eh5 V_t ⟨by decide, by decide⟩ (v := (.int (c1.toInt8.toInt32))) rfl hby d39_8 ?_
  refine own_sipush X5.here hx hby d39_9 (v := (255 : Int32)) (by decide) ?_
  refine own_iand X5.here hx hby d39_12 rfl ?_
  refine own_i2c X5.here hx hby d39_13 rfl ?_
  obtain ⟨fs, hr, hrun, hended, hW, hsame⟩ := X5.leave (v := some (.int (nar .char (((c1.toInt8.toInt32) &&& (255 : Int32)).toUInt32.toUInt16.toUInt32.toInt32)))) (fun h => by rw [Bd.returns] at h; cases h)
  refine own_ret (t := T5.setFrames fs) ?_ ⟨_, hrun, hended, _, _, rfl, ?_, ⟨_, rfl⟩, hW, hsame.mono (by decide) (by decide)⟩
  · exact retN X5 hx (t := .char) Bd.returns (by simp) (hb hby d39_14) hr
  · show Q_l1Char_1_4 Z _ _ _ _ _ _ _ h0 n0 _ T5.heap _
    rw [eh5]
    exact ⟨congrArg (fun z => some (Value.int z)) (own_chr8 c1 h0_c1 h1_c1), N5, rfl⟩
def Q_strChar_1_4 (Z : State) (x : Nat) (t : Nat) (kb : ClassId) (zc : Int32) (fm : Value) (c0 : Int32) (c1 : Int32) (c2 : Int32) (c3 : Int32) (h0 : Heap) (n0 : Nat) (vR : Option Value) (hR : Heap) (LR : List Loc) : Prop := vR = some (.int c1) ∧ Fr n0 LR ∧ hR = h0
set_option maxRecDepth 65536 in
set_option maxHeartbeats 40000000 in
theorem strChar_1_4 (l : Launch) (Z : State) (a0 : Array Value) (hw : ∀ d ∈ tables_1, d.before a0 Z = true) (ws : List Jvm.Cond) (x : Nat) (t : Nat) (kb : ClassId) (zc : Int32) (fm : Value) (c0 : Int32) (c1 : Int32) (c2 : Int32) (c3 : Int32) (h0 : Heap) (n0 : Nat) (Z0 : n0 ≤ h0.size) (E_x : Exa Z h0 x "java/lang/String") (Fc_x : Fld Z h0 x "java/lang/String" "coder" "B" (.int 0)) (Fv_x : Fld Z h0 x "java/lang/String" "value" "[B" (.ref t)) (V_t : Arv Z h0 t kb .byte (4 : Int32) [(.int (c0.toInt8.toInt32)), (.int (c1.toInt8.toInt32)), (.int (c2.toInt8.toInt32)), (.int (c3.toInt8.toInt32))] (.int 0)) (S_C : Sta Z h0 "java/lang/String" "COMPACT_STRINGS" "Z" (.int zc)) (hz : ¬ (zc = (0 : Int32))) (S_FM : Sta Z h0 "jdk/internal/util/Preconditions" "SIOOBE_FORMATTER" "Ljava/util/function/BiFunction;" fm) (hfm : fm.isRef = true) (h0_c1 : ¬ (c1 < (0 : Int32))) (h1_c1 : ¬ ((255 : Int32) < c1)) :
    own_M l (⟨"java/lang/String", "charAt", "(I)C"⟩ : MethodName) jdk_42_method_56_code 2 (some .char) ws ({ frames := 3, cells := 0, slots := 0, locals := 40 } : Room) Z #[(.ref x), (.int 1)] h0 (Q_strChar_1_4 Z x t kb zc fm c0 c1 c2 c3 h0 n0) := by
  refine own_body (own := "java/lang/String") rfl (plainFor_of_name pn_38) (fun m => ef_strChar_0_2 m x (1 : Int32)) ?_
  intro p e s m below meth c s₁ Bd hml hZ hh hx hby hown X0 e0
  have N0 := Fr.nil n0
  have lt4 : h0.size > x := E_x.lt
  have lt5 : h0.size > t := V_t.lt
  refine own_aloadN X0.here hx hby d38_0 rfl rfl ?_
  refine own_virtual X0 hx hZ hown (own_w hw 139 rfl) (own_w hw 140 rfl) (notFace_of_selects (args := #[]) (mvT hZ (own_w hw 142 rfl))) (own_w hw 142 rfl) (own_w hw 141 rfl) (own_w hw 2 rfl) (own_w hw 143 rfl) (by decide) (strIsL l Z a0 hw [] x zc h0 n0 Z0 Fc_x S_C hz) 0 (Nat.le_of_eq rfl) (by decide) (by decide) (by rw [hml]; rfl) (argsL := []) (st := []) E_x (lenOf pd_10 rfl) rfl rfl (by decide) (by decide) e0 hby d38_1 ?_
  intro T6 v6 L6 X6 hQ6
  obtain ⟨rfl, Nq6, eh6⟩ := hQ6
  have N6 := Fr.app N0 Nq6
  refine own_sh (T := T6) 4 #[.val (.ref x), .val (.int 1)] [(.int 1)] ?_
  refine own_ifNo X6.here hx hby d38_4 ((if0 _ _).trans (feq (show ¬ ((1 : Int32) = (0 : Int32)) from (by decide))).1) ?_
  refine own_aloadN X6.here hx hby d38_7 rfl rfl ?_
  refine own_getF X6 hx hZ hown (host := "") (Or.inl (own_w hw 32 rfl)) Via.refl eh6 Fv_x hby d38_8 ?_
  intro T7 X7 e7
  refine own_iloadN X7.here hx hby d38_11 rfl ?_
  refine own_callS X7 hx hZ hown (own_w hw 204 rfl) (own_w hw 205 rfl) (own_w hw 146 rfl) (own_w hw 206 rfl) (by decide) (l1Char_1_4 l Z a0 hw [] t kb fm c0 c1 c2 c3 h0 n0 Z0 V_t S_FM hfm h0_c1 h1_c1) 0 (Nat.le_of_eq rfl) (by decide) (by decide) (by rw [hml]; rfl) (argsL := [(.ref t), (.int 1)]) (st := []) (lenOf pd_24 rfl) rfl rfl (by decide) (by decide) e7 hby d38_12 ?_
  intro T8 v8 L8 X8 hQ8
  obtain ⟨rfl, Nq8, eh8⟩ := hQ8
  have N8 := Fr.app N6 Nq8
  refine own_sh (T := T8) 15 #[.val (.ref x), .val (.int 1)] [(.int c1)] ?_
  obtain ⟨fs, hr, hrun, hended, hW, hsame⟩ := X8.leave (v := some (.int (nar .char c1))) (fun h => by rw [Bd.returns] at h; cases h)
  refine own_ret (t := T8.setFrames fs) ?_ ⟨_, hrun, hended, _, _, rfl, ?_, ⟨_, rfl⟩, hW, hsame.mono (by decide) (by decide)⟩
  · exact retN X8 hx (t := .char) Bd.returns (by simp) (hb hby d38_15) hr
  · show Q_strChar_1_4 Z _ _ _ _ _ _ _ _ _ h0 n0 _ T8.heap _
    rw [eh8]
    exact ⟨congrArg (fun z => some (Value.int z)) (own_nar8 c1 h0_c1 h1_c1), N8, rfl⟩
def Q_preChk_2_4 (Z : State) (fm : Value) (h0 : Heap) (n0 : Nat) (vR : Option Value) (hR : Heap) (LR : List Loc) : Prop := vR = some (.int 2) ∧ Fr n0 LR ∧ hR = h0
set_option maxRecDepth 65536 in
set_option maxHeartbeats 40000000 in
theorem preChk_2_4 (l : Launch) (Z : State) (a0 : Array Value) (hw : ∀ d ∈ tables_1, d.before a0 Z = true) (ws : List Jvm.Cond) (fm : Value) (h0 : Heap) (n0 : Nat) (Z0 : n0 ≤ h0.size) (hfm : fm.isRef = true) :
    own_M l (⟨"jdk/internal/util/Preconditions", "checkIndex", "(IILjava/util/function/BiFunction;)I"⟩ : MethodName) jdk_41_method_11_code 3 (some .int) ws ({ frames := 0, cells := 0, slots := 0, locals := 0 } : Room) Z #[(.int 2), (.int 4), fm] h0 (Q_preChk_2_4 Z fm h0 n0) := by
  refine own_body (own := "jdk/internal/util/Preconditions") rfl (plainFor_of_name pn_41) (fun m => ef_preChk_0_2 m (2 : Int32) (4 : Int32) fm hfm) ?_
  intro p e s m below meth c s₁ Bd hml hZ hh hx hby hown X0 e0
  have N0 := Fr.nil n0
  refine own_iloadN X0.here hx hby d41_0 rfl ?_
  refine own_ifNo X0.here hx hby d41_1 ((if0 _ _).trans (flt (show ¬ ((2 : Int32) < (0 : Int32)) from (by decide))).1) ?_
  refine own_iloadN X0.here hx hby d41_4 rfl ?_
  refine own_iloadN X0.here hx hby d41_5 rfl ?_
  refine own_icmpYes X0.here hx hby (pc' := 16) d41_6 (tlt (show (2 : Int32) < (4 : Int32) from (by decide))).1 (by decide) (by decide) ?_
  refine own_iloadN X0.here hx hby d41_16 rfl ?_
  obtain ⟨fs, hr, hrun, hended, hW, hsame⟩ := X0.leave (v := some (.int 2)) (fun h => by rw [Bd.returns] at h; cases h)
  refine own_ret (t := s₁.setFrames fs) ?_ ⟨_, hrun, hended, _, _, rfl, ?_, ⟨_, rfl⟩, hW, hsame.mono (by decide) (by decide)⟩
  · exact retOut X0 hx Bd.returns rfl (Or.inl ⟨rfl, Or.inl rfl, _, rfl⟩) (hb hby d41_17) hr
  · show Q_preChk_2_4 Z _ h0 n0 _ s₁.heap _
    rw [e0]
    exact ⟨rfl, N0, rfl⟩
def Q_strChk_2_4 (Z : State) (fm : Value) (h0 : Heap) (n0 : Nat) (vR : Option Value) (hR : Heap) (LR : List Loc) : Prop := vR = none ∧ Fr n0 LR ∧ hR = h0
set_option maxRecDepth 65536 in
set_option maxHeartbeats 40000000 in
theorem strChk_2_4 (l : Launch) (Z : State) (a0 : Array Value) (hw : ∀ d ∈ tables_1, d.before a0 Z = true) (ws : List Jvm.Cond) (fm : Value) (h0 : Heap) (n0 : Nat) (Z0 : n0 ≤ h0.size) (S_FM : Sta Z h0 "jdk/internal/util/Preconditions" "SIOOBE_FORMATTER" "Ljava/util/function/BiFunction;" fm) (hfm : fm.isRef = true) :
    own_M l (⟨"java/lang/String", "checkIndex", "(II)V"⟩ : MethodName) jdk_42_method_155_code 2 none ws ({ frames := 1, cells := 0, slots := 0, locals := 14 } : Room) Z #[(.int 2), (.int 4)] h0 (Q_strChk_2_4 Z fm h0 n0) := by
  refine own_body (own := "java/lang/String") rfl (plainFor_of_name pn_40) (fun m => ef_strChk_0_2 m (2 : Int32) (4 : Int32)) ?_
  intro p e s m below meth c s₁ Bd hml hZ hh hx hby hown X0 e0
  have N0 := Fr.nil n0
  refine own_iloadN X0.here hx hby d40_0 rfl ?_
  refine own_iloadN X0.here hx hby d40_1 rfl ?_
  refine own_getS X0 hx hZ hown (host := "") (Or.inl (own_w hw 134 rfl)) Via.refl e0 S_FM hby d40_2 ?_
  intro T1 X1 e1
  refine own_callS X1 hx hZ hown (own_w hw 210 rfl) (own_w hw 211 rfl) (own_w hw 135 rfl) (own_w hw 212 rfl) (by decide) (preChk_2_4 l Z a0 hw [] fm h0 n0 Z0 hfm) 0 (Nat.le_of_eq rfl) (by decide) (by decide) (by rw [hml]; rfl) (argsL := [(.int 2), (.int 4), fm]) (st := []) (lenOf pd_23 rfl) rfl rfl (by decide) (by decide) e1 hby d40_5 ?_
  intro T2 v2 L2 X2 hQ2
  obtain ⟨rfl, Nq2, eh2⟩ := hQ2
  have N2 := Fr.app N0 Nq2
  refine own_sh (T := T2) 8 #[.val (.int 2), .val (.int 4)] [(.int 2)] ?_
  refine own_pop X2.here hx hby d40_8 rfl ?_
  obtain ⟨fs, hr, hrun, hended, hW, hsame⟩ := X2.leave (v := none) (fun _ => rfl)
  refine own_ret (t := T2.setFrames fs) ?_ ⟨_, hrun, hended, _, _, rfl, ?_, ⟨_, rfl⟩, hW, hsame.mono (by decide) (by decide)⟩
  · exact X2.returnOut hx Bd.returns (hb hby d40_9) hr
  · show Q_strChk_2_4 Z _ h0 n0 _ T2.heap _
    rw [eh2]
    exact ⟨rfl, N2, rfl⟩
def Q_l1Char_2_4 (Z : State) (t : Nat) (kb : ClassId) (fm : Value) (c0 : Int32) (c1 : Int32) (c2 : Int32) (c3 : Int32) (h0 : Heap) (n0 : Nat) (vR : Option Value) (hR : Heap) (LR : List Loc) : Prop := vR = some (.int c2) ∧ Fr n0 LR ∧ hR = h0
set_option maxRecDepth 65536 in
set_option maxHeartbeats 40000000 in
theorem l1Char_2_4 (l : Launch) (Z : State) (a0 : Array Value) (hw : ∀ d ∈ tables_1, d.before a0 Z = true) (ws : List Jvm.Cond) (t : Nat) (kb : ClassId) (fm : Value) (c0 : Int32) (c1 : Int32) (c2 : Int32) (c3 : Int32) (h0 : Heap) (n0 : Nat) (Z0 : n0 ≤ h0.size) (V_t : Arv Z h0 t kb .byte (4 : Int32) [(.int (c0.toInt8.toInt32)), (.int (c1.toInt8.toInt32)), (.int (c2.toInt8.toInt32)), (.int (c3.toInt8.toInt32))] (.int 0)) (S_FM : Sta Z h0 "jdk/internal/util/Preconditions" "SIOOBE_FORMATTER" "Ljava/util/function/BiFunction;" fm) (hfm : fm.isRef = true) (h0_c2 : ¬ (c2 < (0 : Int32))) (h1_c2 : ¬ ((255 : Int32) < c2)) :
    own_M l (⟨"java/lang/StringLatin1", "charAt", "([BI)C"⟩ : MethodName) jdk_43_method_2_code 2 (some .char) ws ({ frames := 2, cells := 0, slots := 0, locals := 27 } : Room) Z #[(.ref t), (.int 2)] h0 (Q_l1Char_2_4 Z t kb fm c0 c1 c2 c3 h0 n0) := by
  refine own_body (own := "java/lang/StringLatin1") rfl (plainFor_of_name pn_39) (fun m => ef_l1Char_0_2 m t (2 : Int32)) ?_
  intro p e s m below meth c s₁ Bd hml hZ hh hx hby hown X0 e0
  have N0 := Fr.nil n0
  have lt4 : h0.size > t := V_t.lt
  refine own_iloadN X0.here hx hby d39_0 rfl ?_
  refine own_aloadN X0.here hx hby d39_1 rfl rfl ?_
  refine own_alen X0 hx hZ e0 V_t hby d39_2 ?_
  refine own_callS X0 hx hZ hown (own_w hw 207 rfl) (own_w hw 208 rfl) (own_w hw 2 rfl) (own_w hw 209 rfl) (by decide) (strChk_2_4 l Z a0 hw [] fm h0 n0 Z0 S_FM hfm) 0 (Nat.le_of_eq rfl) (by decide) (by decide) (by rw [hml]; rfl) (argsL := [(.int 2), (.int 4)]) (st := []) (lenOf pd_13 rfl) rfl rfl (by decide) (by decide) e0 hby d39_3 ?_
  intro T5 v5 L5 X5 hQ5
  obtain ⟨rfl, Nq5, eh5⟩ := hQ5
  have N5 := Fr.app N0 Nq5
  refine own_sh (T := T5) 6 #[.val (.ref t), .val (.int 2)] [] ?_
  refine own_aloadN X5.here hx hby d39_6 rfl rfl ?_
  refine own_iloadN X5.here hx hby d39_7 rfl ?_
  refine own_baload X5 hx hZ eh5 V_t ⟨by decide, by decide⟩ (v := (.int (c2.toInt8.toInt32))) rfl hby d39_8 ?_
  refine own_sipush X5.here hx hby d39_9 (v := (255 : Int32)) (by decide) ?_
  refine own_iand X5.here hx hby d39_12 rfl ?_
  refine own_i2c X5.here hx hby d39_13 rfl ?_
  obtain ⟨fs, hr, hrun, hended, hW, hsame⟩ := X5.leave (v := some (.int (nar .char (((c2.toInt8.toInt32) &&& (255 : Int32)).toUInt32.toUInt16.toUInt32.toInt32)))) (fun h => by rw [Bd.returns] at h; cases h)
  refine own_ret (t := T5.setFrames fs) ?_ ⟨_, hrun, hended, _, _, rfl, ?_, ⟨_, rfl⟩, hW, hsame.mono (by decide) (by decide)⟩
  · exact retN X5 hx (t := .char) Bd.returns (by simp) (hb hby d39_14) hr
  · show Q_l1Char_2_4 Z _ _ _ _ _ _ _ h0 n0 _ T5.heap _
    rw [eh5]
    exact ⟨congrArg (fun z => some (Value.int z)) (own_chr8 c2 h0_c2 h1_c2), N5, rfl⟩
def Q_strChar_2_4 (Z : State) (x : Nat) (t : Nat) (kb : ClassId) (zc : Int32) (fm : Value) (c0 : Int32) (c1 : Int32) (c2 : Int32) (c3 : Int32) (h0 : Heap) (n0 : Nat) (vR : Option Value) (hR : Heap) (LR : List Loc) : Prop := vR = some (.int c2) ∧ Fr n0 LR ∧ hR = h0
set_option maxRecDepth 65536 in
set_option maxHeartbeats 40000000 in
theorem strChar_2_4 (l : Launch) (Z : State) (a0 : Array Value) (hw : ∀ d ∈ tables_1, d.before a0 Z = true) (ws : List Jvm.Cond) (x : Nat) (t : Nat) (kb : ClassId) (zc : Int32) (fm : Value) (c0 : Int32) (c1 : Int32) (c2 : Int32) (c3 : Int32) (h0 : Heap) (n0 : Nat) (Z0 : n0 ≤ h0.size) (E_x : Exa Z h0 x "java/lang/String") (Fc_x : Fld Z h0 x "java/lang/String" "coder" "B" (.int 0)) (Fv_x : Fld Z h0 x "java/lang/String" "value" "[B" (.ref t)) (V_t : Arv Z h0 t kb .byte (4 : Int32) [(.int (c0.toInt8.toInt32)), (.int (c1.toInt8.toInt32)), (.int (c2.toInt8.toInt32)), (.int (c3.toInt8.toInt32))] (.int 0)) (S_C : Sta Z h0 "java/lang/String" "COMPACT_STRINGS" "Z" (.int zc)) (hz : ¬ (zc = (0 : Int32))) (S_FM : Sta Z h0 "jdk/internal/util/Preconditions" "SIOOBE_FORMATTER" "Ljava/util/function/BiFunction;" fm) (hfm : fm.isRef = true) (h0_c2 : ¬ (c2 < (0 : Int32))) (h1_c2 : ¬ ((255 : Int32) < c2)) :
    own_M l (⟨"java/lang/String", "charAt", "(I)C"⟩ : MethodName) jdk_42_method_56_code 2 (some .char) ws ({ frames := 3, cells := 0, slots := 0, locals := 40 } : Room) Z #[(.ref x), (.int 2)] h0 (Q_strChar_2_4 Z x t kb zc fm c0 c1 c2 c3 h0 n0) := by
  refine own_body (own := "java/lang/String") rfl (plainFor_of_name pn_38) (fun m => ef_strChar_0_2 m x (2 : Int32)) ?_
  intro p e s m below meth c s₁ Bd hml hZ hh hx hby hown X0 e0
  have N0 := Fr.nil n0
  have lt4 : h0.size > x := E_x.lt
  have lt5 : h0.size > t := V_t.lt
  refine own_aloadN X0.here hx hby d38_0 rfl rfl ?_
  refine own_virtual X0 hx hZ hown (own_w hw 139 rfl) (own_w hw 140 rfl) (notFace_of_selects (args := #[]) (mvT hZ (own_w hw 142 rfl))) (own_w hw 142 rfl) (own_w hw 141 rfl) (own_w hw 2 rfl) (own_w hw 143 rfl) (by decide) (strIsL l Z a0 hw [] x zc h0 n0 Z0 Fc_x S_C hz) 0 (Nat.le_of_eq rfl) (by decide) (by decide) (by rw [hml]; rfl) (argsL := []) (st := []) E_x (lenOf pd_10 rfl) rfl rfl (by decide) (by decide) e0 hby d38_1 ?_
  intro T6 v6 L6 X6 hQ6
  obtain ⟨rfl, Nq6, eh6⟩ := hQ6
  have N6 := Fr.app N0 Nq6
  refine own_sh (T := T6) 4 #[.val (.ref x), .val (.int 2)] [(.int 1)] ?_
  refine own_ifNo X6.here hx hby d38_4 ((if0 _ _).trans (feq (show ¬ ((1 : Int32) = (0 : Int32)) from (by decide))).1) ?_
  refine own_aloadN X6.here hx hby d38_7 rfl rfl ?_
  refine own_getF X6 hx hZ hown (host := "") (Or.inl (own_w hw 32 rfl)) Via.refl eh6 Fv_x hby d38_8 ?_
  intro T7 X7 e7
  refine own_iloadN X7.here hx hby d38_11 rfl ?_
  refine own_callS X7 hx hZ hown (own_w hw 204 rfl) (own_w hw 205 rfl) (own_w hw 146 rfl) (own_w hw 206 rfl) (by decide) (l1Char_2_4 l Z a0 hw [] t kb fm c0 c1 c2 c3 h0 n0 Z0 V_t S_FM hfm h0_c2 h1_c2) 0 (Nat.le_of_eq rfl) (by decide) (by decide) (by rw [hml]; rfl) (argsL := [(.ref t), (.int 2)]) (st := []) (lenOf pd_24 rfl) rfl rfl (by decide) (by decide) e7 hby d38_12 ?_
  intro T8 v8 L8 X8 hQ8
  obtain ⟨rfl, Nq8, eh8⟩ := hQ8
  have N8 := Fr.app N6 Nq8
  refine own_sh (T := T8) 15 #[.val (.ref x), .val (.int 2)] [(.int c2)] ?_
  obtain ⟨fs, hr, hrun, hended, hW, hsame⟩ := X8.leave (v := some (.int (nar .char c2))) (fun h => by rw [Bd.returns] at h; cases h)
  refine own_ret (t := T8.setFrames fs) ?_ ⟨_, hrun, hended, _, _, rfl, ?_, ⟨_, rfl⟩, hW, hsame.mono (by decide) (by decide)⟩
  · exact retN X8 hx (t := .char) Bd.returns (by simp) (hb hby d38_15) hr
  · show Q_strChar_2_4 Z _ _ _ _ _ _ _ _ _ h0 n0 _ T8.heap _
    rw [eh8]
    exact ⟨congrArg (fun z => some (Value.int z)) (own_nar8 c2 h0_c2 h1_c2), N8, rfl⟩
def Q_preChk_3_4 (Z : State) (fm : Value) (h0 : Heap) (n0 : Nat) (vR : Option Value) (hR : Heap) (LR : List Loc) : Prop := vR = some (.int 3) ∧ Fr n0 LR ∧ hR = h0
set_option maxRecDepth 65536 in
set_option maxHeartbeats 40000000 in
theorem preChk_3_4 (l : Launch) (Z : State) (a0 : Array Value) (hw : ∀ d ∈ tables_1, d.before a0 Z = true) (ws : List Jvm.Cond) (fm : Value) (h0 : Heap) (n0 : Nat) (Z0 : n0 ≤ h0.size) (hfm : fm.isRef = true) :
    own_M l (⟨"jdk/internal/util/Preconditions", "checkIndex", "(IILjava/util/function/BiFunction;)I"⟩ : MethodName) jdk_41_method_11_code 3 (some .int) ws ({ frames := 0, cells := 0, slots := 0, locals := 0 } : Room) Z #[(.int 3), (.int 4), fm] h0 (Q_preChk_3_4 Z fm h0 n0) := by
  refine own_body (own := "jdk/internal/util/Preconditions") rfl (plainFor_of_name pn_41) (fun m => ef_preChk_0_2 m (3 : Int32) (4 : Int32) fm hfm) ?_
  intro p e s m below meth c s₁ Bd hml hZ hh hx hby hown X0 e0
  have N0 := Fr.nil n0
  refine own_iloadN X0.here hx hby d41_0 rfl ?_
  refine own_ifNo X0.here hx hby d41_1 ((if0 _ _).trans (flt (show ¬ ((3 : Int32) < (0 : Int32)) from (by decide))).1) ?_
  refine own_iloadN X0.here hx hby d41_4 rfl ?_
  refine own_iloadN X0.here hx hby d41_5 rfl ?_
  refine own_icmpYes X0.here hx hby (pc' := 16) d41_6 (tlt (show (3 : Int32) < (4 : Int32) from (by decide))).1 (by decide) (by decide) ?_
  refine own_iloadN X0.here hx hby d41_16 rfl ?_
  obtain ⟨fs, hr, hrun, hended, hW, hsame⟩ := X0.leave (v := some (.int 3)) (fun h => by rw [Bd.returns] at h; cases h)
  refine own_ret (t := s₁.setFrames fs) ?_ ⟨_, hrun, hended, _, _, rfl, ?_, ⟨_, rfl⟩, hW, hsame.mono (by decide) (by decide)⟩
  · exact retOut X0 hx Bd.returns rfl (Or.inl ⟨rfl, Or.inl rfl, _, rfl⟩) (hb hby d41_17) hr
  · show Q_preChk_3_4 Z _ h0 n0 _ s₁.heap _
    rw [e0]
    exact ⟨rfl, N0, rfl⟩
def Q_strChk_3_4 (Z : State) (fm : Value) (h0 : Heap) (n0 : Nat) (vR : Option Value) (hR : Heap) (LR : List Loc) : Prop := vR = none ∧ Fr n0 LR ∧ hR = h0
set_option maxRecDepth 65536 in
set_option maxHeartbeats 40000000 in
theorem strChk_3_4 (l : Launch) (Z : State) (a0 : Array Value) (hw : ∀ d ∈ tables_1, d.before a0 Z = true) (ws : List Jvm.Cond) (fm : Value) (h0 : Heap) (n0 : Nat) (Z0 : n0 ≤ h0.size) (S_FM : Sta Z h0 "jdk/internal/util/Preconditions" "SIOOBE_FORMATTER" "Ljava/util/function/BiFunction;" fm) (hfm : fm.isRef = true) :
    own_M l (⟨"java/lang/String", "checkIndex", "(II)V"⟩ : MethodName) jdk_42_method_155_code 2 none ws ({ frames := 1, cells := 0, slots := 0, locals := 14 } : Room) Z #[(.int 3), (.int 4)] h0 (Q_strChk_3_4 Z fm h0 n0) := by
  refine own_body (own := "java/lang/String") rfl (plainFor_of_name pn_40) (fun m => ef_strChk_0_2 m (3 : Int32) (4 : Int32)) ?_
  intro p e s m below meth c s₁ Bd hml hZ hh hx hby hown X0 e0
  have N0 := Fr.nil n0
  refine own_iloadN X0.here hx hby d40_0 rfl ?_
  refine own_iloadN X0.here hx hby d40_1 rfl ?_
  refine own_getS X0 hx hZ hown (host := "") (Or.inl (own_w hw 134 rfl)) Via.refl e0 S_FM hby d40_2 ?_
  intro T1 X1 e1
  refine own_callS X1 hx hZ hown (own_w hw 210 rfl) (own_w hw 211 rfl) (own_w hw 135 rfl) (own_w hw 212 rfl) (by decide) (preChk_3_4 l Z a0 hw [] fm h0 n0 Z0 hfm) 0 (Nat.le_of_eq rfl) (by decide) (by decide) (by rw [hml]; rfl) (argsL := [(.int 3), (.int 4), fm]) (st := []) (lenOf pd_23 rfl) rfl rfl (by decide) (by decide) e1 hby d40_5 ?_
  intro T2 v2 L2 X2 hQ2
  obtain ⟨rfl, Nq2, eh2⟩ := hQ2
  have N2 := Fr.app N0 Nq2
  refine own_sh (T := T2) 8 #[.val (.int 3), .val (.int 4)] [(.int 3)] ?_
  refine own_pop X2.here hx hby d40_8 rfl ?_
  obtain ⟨fs, hr, hrun, hended, hW, hsame⟩ := X2.leave (v := none) (fun _ => rfl)
  refine own_ret (t := T2.setFrames fs) ?_ ⟨_, hrun, hended, _, _, rfl, ?_, ⟨_, rfl⟩, hW, hsame.mono (by decide) (by decide)⟩
  · exact X2.returnOut hx Bd.returns (hb hby d40_9) hr
  · show Q_strChk_3_4 Z _ h0 n0 _ T2.heap _
    rw [eh2]
    exact ⟨rfl, N2, rfl⟩
def Q_l1Char_3_4 (Z : State) (t : Nat) (kb : ClassId) (fm : Value) (c0 : Int32) (c1 : Int32) (c2 : Int32) (c3 : Int32) (h0 : Heap) (n0 : Nat) (vR : Option Value) (hR : Heap) (LR : List Loc) : Prop := vR = some (.int c3) ∧ Fr n0 LR ∧ hR = h0
set_option maxRecDepth 65536 in
set_option maxHeartbeats 40000000 in
theorem l1Char_3_4 (l : Launch) (Z : State) (a0 : Array Value) (hw : ∀ d ∈ tables_1, d.before a0 Z = true) (ws : List Jvm.Cond) (t : Nat) (kb : ClassId) (fm : Value) (c0 : Int32) (c1 : Int32) (c2 : Int32) (c3 : Int32) (h0 : Heap) (n0 : Nat) (Z0 : n0 ≤ h0.size) (V_t : Arv Z h0 t kb .byte (4 : Int32) [(.int (c0.toInt8.toInt32)), (.int (c1.toInt8.toInt32)), (.int (c2.toInt8.toInt32)), (.int (c3.toInt8.toInt32))] (.int 0)) (S_FM : Sta Z h0 "jdk/internal/util/Preconditions" "SIOOBE_FORMATTER" "Ljava/util/function/BiFunction;" fm) (hfm : fm.isRef = true) (h0_c3 : ¬ (c3 < (0 : Int32))) (h1_c3 : ¬ ((255 : Int32) < c3)) :
    own_M l (⟨"java/lang/StringLatin1", "charAt", "([BI)C"⟩ : MethodName) jdk_43_method_2_code 2 (some .char) ws ({ frames := 2, cells := 0, slots := 0, locals := 27 } : Room) Z #[(.ref t), (.int 3)] h0 (Q_l1Char_3_4 Z t kb fm c0 c1 c2 c3 h0 n0) := by
  refine own_body (own := "java/lang/StringLatin1") rfl (plainFor_of_name pn_39) (fun m => ef_l1Char_0_2 m t (3 : Int32)) ?_
  intro p e s m below meth c s₁ Bd hml hZ hh hx hby hown X0 e0
  have N0 := Fr.nil n0
  have lt4 : h0.size > t := V_t.lt
  refine own_iloadN X0.here hx hby d39_0 rfl ?_
  refine own_aloadN X0.here hx hby d39_1 rfl rfl ?_
  refine own_alen X0 hx hZ e0 V_t hby d39_2 ?_
  refine own_callS X0 hx hZ hown (own_w hw 207 rfl) (own_w hw 208 rfl) (own_w hw 2 rfl) (own_w hw 209 rfl) (by decide) (strChk_3_4 l Z a0 hw [] fm h0 n0 Z0 S_FM hfm) 0 (Nat.le_of_eq rfl) (by decide) (by decide) (by rw [hml]; rfl) (argsL := [(.int 3), (.int 4)]) (st := []) (lenOf pd_13 rfl) rfl rfl (by decide) (by decide) e0 hby d39_3 ?_
  intro T5 v5 L5 X5 hQ5
  obtain ⟨rfl, Nq5, eh5⟩ := hQ5
  have N5 := Fr.app N0 Nq5
  refine own_sh (T := T5) 6 #[.val (.ref t), .val (.int 3)] [] ?_
  refine own_aloadN X5.here hx hby d39_6 rfl rfl ?_
  refine own_iloadN X5.here hx hby d39_7 rfl ?_
  refine own_baload X5 hx hZ eh5 V_t ⟨by decide, by decide⟩ (v := (.int (c3.toInt8.toInt32))) rfl hby d39_8 ?_
  refine own_sipush X5.here hx hby d39_9 (v := (255 : Int32)) (by decide) ?_
  refine own_iand X5.here hx hby d39_12 rfl ?_
  refine own_i2c X5.here hx hby d39_13 rfl ?_
  obtain ⟨fs, hr, hrun, hended, hW, hsame⟩ := X5.leave (v := some (.int (nar .char (((c3.toInt8.toInt32) &&& (255 : Int32)).toUInt32.toUInt16.toUInt32.toInt32)))) (fun h => by rw [Bd.returns] at h; cases h)
  refine own_ret (t := T5.setFrames fs) ?_ ⟨_, hrun, hended, _, _, rfl, ?_, ⟨_, rfl⟩, hW, hsame.mono (by decide) (by decide)⟩
  · exact retN X5 hx (t := .char) Bd.returns (by simp) (hb hby d39_14) hr
  · show Q_l1Char_3_4 Z _ _ _ _ _ _ _ h0 n0 _ T5.heap _
    rw [eh5]
    exact ⟨congrArg (fun z => some (Value.int z)) (own_chr8 c3 h0_c3 h1_c3), N5, rfl⟩
def Q_strChar_3_4 (Z : State) (x : Nat) (t : Nat) (kb : ClassId) (zc : Int32) (fm : Value) (c0 : Int32) (c1 : Int32) (c2 : Int32) (c3 : Int32) (h0 : Heap) (n0 : Nat) (vR : Option Value) (hR : Heap) (LR : List Loc) : Prop := vR = some (.int c3) ∧ Fr n0 LR ∧ hR = h0
set_option maxRecDepth 65536 in
set_option maxHeartbeats 40000000 in
theorem strChar_3_4 (l : Launch) (Z : State) (a0 : Array Value) (hw : ∀ d ∈ tables_1, d.before a0 Z = true) (ws : List Jvm.Cond) (x : Nat) (t : Nat) (kb : ClassId) (zc : Int32) (fm : Value) (c0 : Int32) (c1 : Int32) (c2 : Int32) (c3 : Int32) (h0 : Heap) (n0 : Nat) (Z0 : n0 ≤ h0.size) (E_x : Exa Z h0 x "java/lang/String") (Fc_x : Fld Z h0 x "java/lang/String" "coder" "B" (.int 0)) (Fv_x : Fld Z h0 x "java/lang/String" "value" "[B" (.ref t)) (V_t : Arv Z h0 t kb .byte (4 : Int32) [(.int (c0.toInt8.toInt32)), (.int (c1.toInt8.toInt32)), (.int (c2.toInt8.toInt32)), (.int (c3.toInt8.toInt32))] (.int 0)) (S_C : Sta Z h0 "java/lang/String" "COMPACT_STRINGS" "Z" (.int zc)) (hz : ¬ (zc = (0 : Int32))) (S_FM : Sta Z h0 "jdk/internal/util/Preconditions" "SIOOBE_FORMATTER" "Ljava/util/function/BiFunction;" fm) (hfm : fm.isRef = true) (h0_c3 : ¬ (c3 < (0 : Int32))) (h1_c3 : ¬ ((255 : Int32) < c3)) :
    own_M l (⟨"java/lang/String", "charAt", "(I)C"⟩ : MethodName) jdk_42_method_56_code 2 (some .char) ws ({ frames := 3, cells := 0, slots := 0, locals := 40 } : Room) Z #[(.ref x), (.int 3)] h0 (Q_strChar_3_4 Z x t kb zc fm c0 c1 c2 c3 h0 n0) := by
  refine own_body (own := "java/lang/String") rfl (plainFor_of_name pn_38) (fun m => ef_strChar_0_2 m x (3 : Int32)) ?_
  intro p e s m below meth c s₁ Bd hml hZ hh hx hby hown X0 e0
  have N0 := Fr.nil n0
  have lt4 : h0.size > x := E_x.lt
  have lt5 : h0.size > t := V_t.lt
  refine own_aloadN X0.here hx hby d38_0 rfl rfl ?_
  refine own_virtual X0 hx hZ hown (own_w hw 139 rfl) (own_w hw 140 rfl) (notFace_of_selects (args := #[]) (mvT hZ (own_w hw 142 rfl))) (own_w hw 142 rfl) (own_w hw 141 rfl) (own_w hw 2 rfl) (own_w hw 143 rfl) (by decide) (strIsL l Z a0 hw [] x zc h0 n0 Z0 Fc_x S_C hz) 0 (Nat.le_of_eq rfl) (by decide) (by decide) (by rw [hml]; rfl) (argsL := []) (st := []) E_x (lenOf pd_10 rfl) rfl rfl (by decide) (by decide) e0 hby d38_1 ?_
  intro T6 v6 L6 X6 hQ6
  obtain ⟨rfl, Nq6, eh6⟩ := hQ6
  have N6 := Fr.app N0 Nq6
  refine own_sh (T := T6) 4 #[.val (.ref x), .val (.int 3)] [(.int 1)] ?_
  refine own_ifNo X6.here hx hby d38_4 ((if0 _ _).trans (feq (show ¬ ((1 : Int32) = (0 : Int32)) from (by decide))).1) ?_
  refine own_aloadN X6.here hx hby d38_7 rfl rfl ?_
  refine own_getF X6 hx hZ hown (host := "") (Or.inl (own_w hw 32 rfl)) Via.refl eh6 Fv_x hby d38_8 ?_
  intro T7 X7 e7
  refine own_iloadN X7.here hx hby d38_11 rfl ?_
  refine own_callS X7 hx hZ hown (own_w hw 204 rfl) (own_w hw 205 rfl) (own_w hw 146 rfl) (own_w hw 206 rfl) (by decide) (l1Char_3_4 l Z a0 hw [] t kb fm c0 c1 c2 c3 h0 n0 Z0 V_t S_FM hfm h0_c3 h1_c3) 0 (Nat.le_of_eq rfl) (by decide) (by decide) (by rw [hml]; rfl) (argsL := [(.ref t), (.int 3)]) (st := []) (lenOf pd_24 rfl) rfl rfl (by decide) (by decide) e7 hby d38_12 ?_
  intro T8 v8 L8 X8 hQ8
  obtain ⟨rfl, Nq8, eh8⟩ := hQ8
  have N8 := Fr.app N6 Nq8
  refine own_sh (T := T8) 15 #[.val (.ref x), .val (.int 3)] [(.int c3)] ?_
  obtain ⟨fs, hr, hrun, hended, hW, hsame⟩ := X8.leave (v := some (.int (nar .char c3))) (fun h => by rw [Bd.returns] at h; cases h)
  refine own_ret (t := T8.setFrames fs) ?_ ⟨_, hrun, hended, _, _, rfl, ?_, ⟨_, rfl⟩, hW, hsame.mono (by decide) (by decide)⟩
  · exact retN X8 hx (t := .char) Bd.returns (by simp) (hb hby d38_15) hr
  · show Q_strChar_3_4 Z _ _ _ _ _ _ _ _ _ h0 n0 _ T8.heap _
    rw [eh8]
    exact ⟨congrArg (fun z => some (Value.int z)) (own_nar8 c3 h0_c3 h1_c3), N8, rfl⟩
def Q_strLen_4 (Z : State) (x : Nat) (t : Nat) (kb : ClassId) (zc : Int32) (vs_ : List Value) (h0 : Heap) (n0 : Nat) (vR : Option Value) (hR : Heap) (LR : List Loc) : Prop := vR = some (.int 4) ∧ Fr n0 LR ∧ hR = h0
set_option maxRecDepth 65536 in
set_option maxHeartbeats 40000000 in
theorem strLen_4 (l : Launch) (Z : State) (a0 : Array Value) (hw : ∀ d ∈ tables_1, d.before a0 Z = true) (ws : List Jvm.Cond) (x : Nat) (t : Nat) (kb : ClassId) (zc : Int32) (vs_ : List Value) (h0 : Heap) (n0 : Nat) (Z0 : n0 ≤ h0.size) (E_x : Exa Z h0 x "java/lang/String") (Fc_x : Fld Z h0 x "java/lang/String" "coder" "B" (.int 0)) (Fv_x : Fld Z h0 x "java/lang/String" "value" "[B" (.ref t)) (V_t : Arv Z h0 t kb .byte (4 : Int32) vs_ (.int 0)) (S_C : Sta Z h0 "java/lang/String" "COMPACT_STRINGS" "Z" (.int zc)) (hz : ¬ (zc = (0 : Int32))) :
    own_M l (⟨"java/lang/String", "length", "()I"⟩ : MethodName) jdk_42_method_54_code 1 (some .int) ws ({ frames := 1, cells := 0, slots := 0, locals := 13 } : Room) Z #[(.ref x)] h0 (Q_strLen_4 Z x t kb zc vs_ h0 n0) := by
  refine own_body (own := "java/lang/String") rfl (plainFor_of_name pn_14) (fun m => ef_strLen_0 m x) ?_
  intro p e s m below meth c s₁ Bd hml hZ hh hx hby hown X0 e0
  have N0 := Fr.nil n0
  have lt1 : h0.size > x := E_x.lt
  have lt2 : h0.size > t := V_t.lt
  refine own_aloadN X0.here hx hby d14_0 rfl rfl ?_
  refine own_getF X0 hx hZ hown (host := "") (Or.inl (own_w hw 32 rfl)) Via.refl e0 Fv_x hby d14_1 ?_
  intro T3 X3 e3
  refine own_alen X3 hx hZ e3 V_t hby d14_4 ?_
  refine own_aloadN X3.here hx hby d14_5 rfl rfl ?_
  refine own_virtual X3 hx hZ hown (own_w hw 88 rfl) (own_w hw 89 rfl) (notFace_of_selects (args := #[]) (mvT hZ (own_w hw 91 rfl))) (own_w hw 91 rfl) (own_w hw 90 rfl) (own_w hw 2 rfl) (own_w hw 92 rfl) (by decide) (strCoder l Z a0 hw [] x zc h0 n0 Z0 Fc_x S_C hz) 1 (Nat.le_of_eq rfl) (by decide) (by decide) (by rw [hml]; rfl) (argsL := []) (st := [(.int 4)]) E_x (lenOf pd_2 rfl) rfl rfl (by decide) (by decide) e3 hby d14_6 ?_
  intro T4 v4 L4 X4 hQ4
  obtain ⟨rfl, Nq4, eh4⟩ := hQ4
  have N4 := Fr.app N0 Nq4
  refine own_sh (T := T4) 9 #[.val (.ref x)] [(.int 0), (.int 4)] ?_
  refine own_ishr X4.here hx hby d14_9 (v := (4 : Int32)) (by decide) ?_
  obtain ⟨fs, hr, hrun, hended, hW, hsame⟩ := X4.leave (v := some (.int 4)) (fun h => by rw [Bd.returns] at h; cases h)
  refine own_ret (t := T4.setFrames fs) ?_ ⟨_, hrun, hended, _, _, rfl, ?_, ⟨_, rfl⟩, hW, hsame.mono (by decide) (by decide)⟩
  · exact retOut X4 hx Bd.returns rfl (Or.inl ⟨rfl, Or.inl rfl, _, rfl⟩) (hb hby d14_10) hr
  · show Q_strLen_4 Z _ _ _ _ _ h0 n0 _ T4.heap _
    rw [eh4]
    exact ⟨rfl, N4, rfl⟩
theorem ef_rm0 (m : MethodId) (x0 : Int32) (x1 : Int32) (x2 : Int32) : entryFrame m #[(.int x0), (.int x1), (.int x2)] maxLocals = mkF m 0 #[.val (.int x0), .val (.int x1), .val (.int x2), .unset, .unset, .unset, .unset, .unset, .unset, .unset, .unset, .unset, .unset, .unset, .unset, .unset, .unset, .unset] [] := by first | (simp [entryFrame, mkF, argsToLocals, Value.category, maxLocals]; done) | rfl
theorem pn_0 : plainName "com/example/undercroft/undercroft/store/UriSpaceUriOfPathPinLaw" = true := by first | (simp [plainName, overriddenIn]; done) | decide +kernel
theorem pd_25 : parseMethodDescriptor "([C)V" = some ⟨[(.array .char)], none⟩ := by decide +kernel
theorem pd_26 : parseMethodDescriptor "(Ljava/lang/String;Ljava/lang/String;)V" = some ⟨[(.object "java/lang/String"), (.object "java/lang/String")], none⟩ := by decide +kernel
theorem pd_27 : parseMethodDescriptor "(Ljava/lang/String;)Ljava/lang/String;" = some ⟨[(.object "java/lang/String")], some (.object "java/lang/String")⟩ := by decide +kernel
theorem pd_28 : parseMethodDescriptor "(I)C" = some ⟨[.int], some .char⟩ := by decide +kernel
def Q_rm0 (Z : State) (p1 : Int32) (p2 : Int32) (p3 : Int32) (zc : Int32) (fm : Value) (h0 : Heap) (n0 : Nat) (vR : Option Value) (hR : Heap) (LR : List Loc) : Prop := vR = some (.int 1) ∧ Fr n0 LR ∧ True
set_option maxRecDepth 65536 in
set_option maxHeartbeats 40000000 in
theorem rm0 (l : Launch) (Z : State) (a0 : Array Value) (hw : ∀ d ∈ tables_1, d.before a0 Z = true) (ws : List Jvm.Cond) (p1 : Int32) (p2 : Int32) (p3 : Int32) (zc : Int32) (fm : Value) (h0 : Heap) (n0 : Nat) (Z0 : n0 ≤ h0.size) (S_C : Sta Z h0 "java/lang/String" "COMPACT_STRINGS" "Z" (.int zc)) (hz : ¬ (zc = (0 : Int32))) (S_FM : Sta Z h0 "jdk/internal/util/Preconditions" "SIOOBE_FORMATTER" "Ljava/util/function/BiFunction;" fm) (hfm : fm.isRef = true) :
    own_MH l x code maxLocals ret ws room_1 Z #[(.int p1), (.int p2), (.int p3)] h0 (Q_rm0 Z p1 p2 p3 zc fm h0 n0) consts_1 := by
  refine own_bodyH (own := "com/example/undercroft/undercroft/store/UriSpaceUriOfPathPinLaw") rfl (plainFor_of_name pn_0) (fun m => ef_rm0 m p1 p2 p3) ?_
  intro p e s m below meth c s₁ Bd hml hZ hh hx hby hown X0 e0 hS0 CH0
  have N0 := Fr.nil n0
  have hk0 : h0.size ≤ h0.size := Nat.le_refl _
  have Y0 : Stand p l e room_1 (s.setVm s.vm) m #[(.int p1), (.int p2), (.int p3)] below meth c s₁ [] 0 0 := X0
  have hEL := own_EW hw
  have C0 := CHr.refl CH0
  refine own_iloadN Y0.here hx hby at_0 rfl ?_
  refine own_sipush Y0.here hx hby at_1 (v := (255 : Int32)) (by decide) ?_
  refine own_iand Y0.here hx hby at_4 rfl ?_
  refine own_i2c Y0.here hx hby at_5 rfl ?_
  refine own_sh (T := s₁) 6 #[.val (.int p1), .val (.int p2), .val (.int p3), .unset, .unset, .unset, .unset, .unset, .unset, .unset, .unset, .unset, .unset, .unset, .unset, .unset, .unset, .unset] [(.int ((p1 &&& (255 : Int32)).toUInt32.toUInt16.toUInt32.toInt32))] ?_
  rw [show ((p1 &&& (255 : Int32)).toUInt32.toUInt16.toUInt32.toInt32) = (p1 &&& (255 : Int32)) from (i2c_mask p1)]
  refine own_istoreN Y0.here hx hby at_6 (l' := #[.val (.int p1), .val (.int p2), .val (.int p3), .val (.int (p1 &&& (255 : Int32))), .unset, .unset, .unset, .unset, .unset, .unset, .unset, .unset, .unset, .unset, .unset, .unset, .unset, .unset]) rfl ?_
  refine own_iloadN Y0.here hx hby at_7 rfl ?_
  refine own_bipush Y0.here hx hby at_8 (v := (8 : Int32)) (by decide) ?_
  refine own_iushr Y0.here hx hby at_10 rfl ?_
  refine own_sipush Y0.here hx hby at_11 (v := (255 : Int32)) (by decide) ?_
  refine own_iand Y0.here hx hby at_14 rfl ?_
  refine own_i2c Y0.here hx hby at_15 rfl ?_
  refine own_sh (T := s₁) 16 #[.val (.int p1), .val (.int p2), .val (.int p3), .val (.int (p1 &&& (255 : Int32))), .unset, .unset, .unset, .unset, .unset, .unset, .unset, .unset, .unset, .unset, .unset, .unset, .unset, .unset] [(.int ((((p1.toUInt32 >>> ((8 : Int32) &&& 31).toUInt32).toInt32) &&& (255 : Int32)).toUInt32.toUInt16.toUInt32.toInt32))] ?_
  rw [show ((((p1.toUInt32 >>> ((8 : Int32) &&& 31).toUInt32).toInt32) &&& (255 : Int32)).toUInt32.toUInt16.toUInt32.toInt32) = (((p1.toUInt32 >>> ((8 : Int32) &&& 31).toUInt32).toInt32) &&& (255 : Int32)) from (i2c_mask ((p1.toUInt32 >>> ((8 : Int32) &&& 31).toUInt32).toInt32))]
  refine own_istore Y0.here hx hby at_16 (l' := #[.val (.int p1), .val (.int p2), .val (.int p3), .val (.int (p1 &&& (255 : Int32))), .val (.int (((p1.toUInt32 >>> ((8 : Int32) &&& 31).toUInt32).toInt32) &&& (255 : Int32))), .unset, .unset, .unset, .unset, .unset, .unset, .unset, .unset, .unset, .unset, .unset, .unset, .unset]) rfl ?_
  refine own_iloadN Y0.here hx hby at_18 rfl ?_
  refine own_sipush Y0.here hx hby at_19 (v := (255 : Int32)) (by decide) ?_
  refine own_iand Y0.here hx hby at_22 rfl ?_
  refine own_i2c Y0.here hx hby at_23 rfl ?_
  refine own_sh (T := s₁) 24 #[.val (.int p1), .val (.int p2), .val (.int p3), .val (.int (p1 &&& (255 : Int32))), .val (.int (((p1.toUInt32 >>> ((8 : Int32) &&& 31).toUInt32).toInt32) &&& (255 : Int32))), .unset, .unset, .unset, .unset, .unset, .unset, .unset, .unset, .unset, .unset, .unset, .unset, .unset] [(.int ((p2 &&& (255 : Int32)).toUInt32.toUInt16.toUInt32.toInt32))] ?_
  rw [show ((p2 &&& (255 : Int32)).toUInt32.toUInt16.toUInt32.toInt32) = (p2 &&& (255 : Int32)) from (i2c_mask p2)]
  refine own_istore Y0.here hx hby at_24 (l' := #[.val (.int p1), .val (.int p2), .val (.int p3), .val (.int (p1 &&& (255 : Int32))), .val (.int (((p1.toUInt32 >>> ((8 : Int32) &&& 31).toUInt32).toInt32) &&& (255 : Int32))), .val (.int (p2 &&& (255 : Int32))), .unset, .unset, .unset, .unset, .unset, .unset, .unset, .unset, .unset, .unset, .unset, .unset]) rfl ?_
  refine own_iloadN Y0.here hx hby at_26 rfl ?_
  refine own_bipush Y0.here hx hby at_27 (v := (8 : Int32)) (by decide) ?_
  refine own_iushr Y0.here hx hby at_29 rfl ?_
  refine own_sipush Y0.here hx hby at_30 (v := (255 : Int32)) (by decide) ?_
  refine own_iand Y0.here hx hby at_33 rfl ?_
  refine own_i2c Y0.here hx hby at_34 rfl ?_
  refine own_sh (T := s₁) 35 #[.val (.int p1), .val (.int p2), .val (.int p3), .val (.int (p1 &&& (255 : Int32))), .val (.int (((p1.toUInt32 >>> ((8 : Int32) &&& 31).toUInt32).toInt32) &&& (255 : Int32))), .val (.int (p2 &&& (255 : Int32))), .unset, .unset, .unset, .unset, .unset, .unset, .unset, .unset, .unset, .unset, .unset, .unset] [(.int ((((p2.toUInt32 >>> ((8 : Int32) &&& 31).toUInt32).toInt32) &&& (255 : Int32)).toUInt32.toUInt16.toUInt32.toInt32))] ?_
  rw [show ((((p2.toUInt32 >>> ((8 : Int32) &&& 31).toUInt32).toInt32) &&& (255 : Int32)).toUInt32.toUInt16.toUInt32.toInt32) = (((p2.toUInt32 >>> ((8 : Int32) &&& 31).toUInt32).toInt32) &&& (255 : Int32)) from (i2c_mask ((p2.toUInt32 >>> ((8 : Int32) &&& 31).toUInt32).toInt32))]
  refine own_istore Y0.here hx hby at_35 (l' := #[.val (.int p1), .val (.int p2), .val (.int p3), .val (.int (p1 &&& (255 : Int32))), .val (.int (((p1.toUInt32 >>> ((8 : Int32) &&& 31).toUInt32).toInt32) &&& (255 : Int32))), .val (.int (p2 &&& (255 : Int32))), .val (.int (((p2.toUInt32 >>> ((8 : Int32) &&& 31).toUInt32).toInt32) &&& (255 : Int32))), .unset, .unset, .unset, .unset, .unset, .unset, .unset, .unset, .unset, .unset, .unset]) rfl ?_
  refine own_iloadN Y0.here hx hby at_37 rfl ?_
  refine own_iconst Y0.here hx hby at_38 (v := (1 : Int32)) (by decide) ?_
  refine own_iand Y0.here hx hby at_39 rfl ?_
  by_cases hc40_4 : (p3 &&& (1 : Int32)) = (0 : Int32)
  · refine own_ifYes Y0.here hx hby (pc' := 47) at_40 ((if0 _ _).trans (teq hc40_4).1) (by decide) (by decide) ?_
    refine own_iconst Y0.here hx hby at_47 (v := (0 : Int32)) (by decide) ?_
    refine own_istore Y0.here hx hby at_48 (l' := #[.val (.int p1), .val (.int p2), .val (.int p3), .val (.int (p1 &&& (255 : Int32))), .val (.int (((p1.toUInt32 >>> ((8 : Int32) &&& 31).toUInt32).toInt32) &&& (255 : Int32))), .val (.int (p2 &&& (255 : Int32))), .val (.int (((p2.toUInt32 >>> ((8 : Int32) &&& 31).toUInt32).toInt32) &&& (255 : Int32))), .val (.int 0), .unset, .unset, .unset, .unset, .unset, .unset, .unset, .unset, .unset, .unset]) rfl ?_
    refine own_iloadN Y0.here hx hby at_50 rfl ?_
    refine own_iconst Y0.here hx hby at_51 (v := (2 : Int32)) (by decide) ?_
    refine own_iand Y0.here hx hby at_52 rfl ?_
    by_cases hc53_5 : (p3 &&& (2 : Int32)) = (0 : Int32)
    · refine own_ifYes Y0.here hx hby (pc' := 60) at_53 ((if0 _ _).trans (teq hc53_5).1) (by decide) (by decide) ?_
      refine own_iconst Y0.here hx hby at_60 (v := (0 : Int32)) (by decide) ?_
      refine own_istore Y0.here hx hby at_61 (l' := #[.val (.int p1), .val (.int p2), .val (.int p3), .val (.int (p1 &&& (255 : Int32))), .val (.int (((p1.toUInt32 >>> ((8 : Int32) &&& 31).toUInt32).toInt32) &&& (255 : Int32))), .val (.int (p2 &&& (255 : Int32))), .val (.int (((p2.toUInt32 >>> ((8 : Int32) &&& 31).toUInt32).toInt32) &&& (255 : Int32))), .val (.int 0), .val (.int 0), .unset, .unset, .unset, .unset, .unset, .unset, .unset, .unset, .unset]) rfl ?_
      refine own_iconst Y0.here hx hby at_63 (v := (2 : Int32)) (by decide) ?_
      refine own_newP Y0 hx hZ (aty := .char) (own_w hw 0 rfl) e0 hby at_64 (by decide) 2 (by decide) (by decide) (by decide) (by decide) (ad := "[C") (by decide) ?_
      intro T6 h6 k6 b6 X6 e6 E6 g6 V6 C6 lt6
      have z7 : h0.size ≤ h6.size := E6.1
      have C8 := C0.trans (CHr.ext E6 C0.1)
      have V9 : Arv Z h6 b6 k6 .char (2 : Int32) [(.int 0), (.int 0)] (.int 0) := V6.pad (pad_rep [] (.int 0) 2)
      refine own_dup X6.here hx hby at_66 rfl ?_
      refine own_iconst X6.here hx hby at_67 (v := (0 : Int32)) (by decide) ?_
      refine own_iloadN X6.here hx hby at_68 rfl ?_
      refine own_castore X6 hx hZ e6 V9 ⟨by decide, by decide⟩ 0 (by decide) (Nat.le_of_ble_eq_true rfl) (w := (.int (p1 &&& (255 : Int32)))) (congrArg Value.int (i2c_mask p1)) hby at_69 N0 (by omega) ?_
      intro T10 h10 lo10 X10 e10 N10 W10 V10 z10
      have V11 : Arv Z h10 b6 k6 .char (2 : Int32) [(.int (p1 &&& (255 : Int32))), (.int 0)] (.int 0) := V10
      have C12 := C8.trans (CHr.wr W10 (Safe.exa hZ.alike C6 (by decide) (by decide)) C8.1)
      refine own_dup X10.here hx hby at_70 rfl ?_
      refine own_iconst X10.here hx hby at_71 (v := (1 : Int32)) (by decide) ?_
      refine own_iload X10.here hx hby at_72 rfl ?_
      refine own_castore X10 hx hZ e10 V11 ⟨by decide, by decide⟩ 1 (by decide) (Nat.le_of_ble_eq_true rfl) (w := (.int (((p1.toUInt32 >>> ((8 : Int32) &&& 31).toUInt32).toInt32) &&& (255 : Int32)))) (congrArg Value.int (i2c_mask ((p1.toUInt32 >>> ((8 : Int32) &&& 31).toUInt32).toInt32))) hby at_74 N10 (by omega) ?_
      intro T13 h13 lo13 X13 e13 N13 W13 V13 z13
      have V14 : Arv Z h13 b6 k6 .char (2 : Int32) [(.int (p1 &&& (255 : Int32))), (.int (((p1.toUInt32 >>> ((8 : Int32) &&& 31).toUInt32).toInt32) &&& (255 : Int32)))] (.int 0) := V13
      have f15 := (C6.wr W10)
      have C16 := C12.trans (CHr.wr W13 (Safe.exa hZ.alike f15 (by decide) (by decide)) C12.1)
      refine own_astore X13.here hx hby at_75 rfl (l' := #[.val (.int p1), .val (.int p2), .val (.int p3), .val (.int (p1 &&& (255 : Int32))), .val (.int (((p1.toUInt32 >>> ((8 : Int32) &&& 31).toUInt32).toInt32) &&& (255 : Int32))), .val (.int (p2 &&& (255 : Int32))), .val (.int (((p2.toUInt32 >>> ((8 : Int32) &&& 31).toUInt32).toInt32) &&& (255 : Int32))), .val (.int 0), .val (.int 0), .val (.ref b6), .unset, .unset, .unset, .unset, .unset, .unset, .unset, .unset]) rfl ?_
      refine own_iconst X13.here hx hby at_77 (v := (3 : Int32)) (by decide) ?_
      refine own_newP X13 hx hZ (aty := .char) (own_w hw 0 rfl) e13 hby at_78 (by decide) 3 (by decide) (by decide) (by decide) (by decide) (ad := "[C") (by decide) ?_
      intro T17 h17 k17 b17 X17 e17 E17 g17 V17 C17 lt17
      have z18 : h13.size ≤ h17.size := E17.1
      have C19 := C16.trans (CHr.ext E17 C16.1)
      have V20 : Arv Z h17 b17 k17 .char (3 : Int32) [(.int 0), (.int 0), (.int 0)] (.int 0) := V17.pad (pad_rep [] (.int 0) 3)
      refine own_dup X17.here hx hby at_80 rfl ?_
      refine own_iconst X17.here hx hby at_81 (v := (0 : Int32)) (by decide) ?_
      refine own_bipush X17.here hx hby at_82 (v := (47 : Int32)) (by decide) ?_
      refine own_castore X17 hx hZ e17 V20 ⟨by decide, by decide⟩ 0 (by decide) (Nat.le_of_ble_eq_true rfl) (w := (.int 47)) rfl hby at_84 N13 (by omega) ?_
      intro T21 h21 lo21 X21 e21 N21 W21 V21 z21
      have V22 : Arv Z h21 b17 k17 .char (3 : Int32) [(.int 47), (.int 0), (.int 0)] (.int 0) := V21
      have C23 := C19.trans (CHr.wr W21 (Safe.exa hZ.alike C17 (by decide) (by decide)) C19.1)
      refine own_dup X21.here hx hby at_85 rfl ?_
      refine own_iconst X21.here hx hby at_86 (v := (1 : Int32)) (by decide) ?_
      refine own_iload X21.here hx hby at_87 rfl ?_
      refine own_castore X21 hx hZ e21 V22 ⟨by decide, by decide⟩ 1 (by decide) (Nat.le_of_ble_eq_true rfl) (w := (.int (p2 &&& (255 : Int32)))) (congrArg Value.int (i2c_mask p2)) hby at_89 N21 (by omega) ?_
      intro T24 h24 lo24 X24 e24 N24 W24 V24 z24
      have V25 : Arv Z h24 b17 k17 .char (3 : Int32) [(.int 47), (.int (p2 &&& (255 : Int32))), (.int 0)] (.int 0) := V24
      have f26 := (C17.wr W21)
      have C27 := C23.trans (CHr.wr W24 (Safe.exa hZ.alike f26 (by decide) (by decide)) C23.1)
      refine own_dup X24.here hx hby at_90 rfl ?_
      refine own_iconst X24.here hx hby at_91 (v := (2 : Int32)) (by decide) ?_
      refine own_iload X24.here hx hby at_92 rfl ?_
      refine own_castore X24 hx hZ e24 V25 ⟨by decide, by decide⟩ 2 (by decide) (Nat.le_of_ble_eq_true rfl) (w := (.int (((p2.toUInt32 >>> ((8 : Int32) &&& 31).toUInt32).toInt32) &&& (255 : Int32)))) (congrArg Value.int (i2c_mask ((p2.toUInt32 >>> ((8 : Int32) &&& 31).toUInt32).toInt32))) hby at_94 N24 (by omega) ?_
      intro T28 h28 lo28 X28 e28 N28 W28 V28 z28
      have V29 : Arv Z h28 b17 k17 .char (3 : Int32) [(.int 47), (.int (p2 &&& (255 : Int32))), (.int (((p2.toUInt32 >>> ((8 : Int32) &&& 31).toUInt32).toInt32) &&& (255 : Int32)))] (.int 0) := V28
      have f30 := (f26.wr W24)
      have C31 := C27.trans (CHr.wr W28 (Safe.exa hZ.alike f30 (by decide) (by decide)) C27.1)
      refine own_astore X28.here hx hby at_95 rfl (l' := #[.val (.int p1), .val (.int p2), .val (.int p3), .val (.int (p1 &&& (255 : Int32))), .val (.int (((p1.toUInt32 >>> ((8 : Int32) &&& 31).toUInt32).toInt32) &&& (255 : Int32))), .val (.int (p2 &&& (255 : Int32))), .val (.int (((p2.toUInt32 >>> ((8 : Int32) &&& 31).toUInt32).toInt32) &&& (255 : Int32))), .val (.int 0), .val (.int 0), .val (.ref b6), .val (.ref b17), .unset, .unset, .unset, .unset, .unset, .unset, .unset]) rfl ?_
      refine own_iconst X28.here hx hby at_97 (v := (1 : Int32)) (by decide) ?_
      refine own_newP X28 hx hZ (aty := .char) (own_w hw 0 rfl) e28 hby at_98 (by decide) 1 (by decide) (by decide) (by decide) (by decide) (ad := "[C") (by decide) ?_
      intro T32 h32 k32 b32 X32 e32 E32 g32 V32 C32 lt32
      have z33 : h28.size ≤ h32.size := E32.1
      have C34 := C31.trans (CHr.ext E32 C31.1)
      have V35 : Arv Z h32 b32 k32 .char (1 : Int32) [(.int 0)] (.int 0) := V32.pad (pad_rep [] (.int 0) 1)
      refine own_dup X32.here hx hby at_100 rfl ?_
      refine own_iconst X32.here hx hby at_101 (v := (0 : Int32)) (by decide) ?_
      refine own_bipush X32.here hx hby at_102 (v := (47 : Int32)) (by decide) ?_
      refine own_castore X32 hx hZ e32 V35 ⟨by decide, by decide⟩ 0 (by decide) (Nat.le_of_ble_eq_true rfl) (w := (.int 47)) rfl hby at_104 N28 (by omega) ?_
      intro T36 h36 lo36 X36 e36 N36 W36 V36 z36
      have V37 : Arv Z h36 b32 k32 .char (1 : Int32) [(.int 47)] (.int 0) := V36
      have C38 := C34.trans (CHr.wr W36 (Safe.exa hZ.alike C32 (by decide) (by decide)) C34.1)
      refine own_astore X36.here hx hby at_105 rfl (l' := #[.val (.int p1), .val (.int p2), .val (.int p3), .val (.int (p1 &&& (255 : Int32))), .val (.int (((p1.toUInt32 >>> ((8 : Int32) &&& 31).toUInt32).toInt32) &&& (255 : Int32))), .val (.int (p2 &&& (255 : Int32))), .val (.int (((p2.toUInt32 >>> ((8 : Int32) &&& 31).toUInt32).toInt32) &&& (255 : Int32))), .val (.int 0), .val (.int 0), .val (.ref b6), .val (.ref b17), .val (.ref b32), .unset, .unset, .unset, .unset, .unset, .unset]) rfl ?_
      refine own_iload X36.here hx hby at_107 rfl ?_
      refine own_ifYes X36.here hx hby (pc' := 124) at_109 ((if0 _ _).trans (teq (show (0 : Int32) = (0 : Int32) from (by decide))).1) (by decide) (by decide) ?_
      have own_wS0 : ∀ a ∈ Bundle.stringAtoms, a.before a0 Z = true := own_wS hw
      refine own_ldcCH X36 hx hZ hEL hown (own_w hw 1 rfl) own_wS0 e36 hS0 (by omega) C38.1 (List.mem_of_getElem? (i := 0) rfl) (vs := []) (z := (0 : Int32)) ⟨by decide, by decide⟩ (by decide) (by decide) hby at_124 0 (by decide) (by decide) (by decide) (by decide) ?_
      intro a39 T39 h39 kk39 vm39 b39 kb39 X39 e39 E39 hS39 hk39 hZ39 hown39 Ea39 Fc39 Fv39 Va39 la39 lb39 Cn39 ns39
      have z40 : h36.size ≤ h39.size := E39.1
      have C41 := C38.trans Cn39
      have f42 := ((((f30.wr W28).ext E32).wr W36).ext E39)
      have nl39_b17 := ns39 b17 (Safe.exa hZ39.alike f42 (by decide) (by decide))
      have f43 := ((C32.wr W36).ext E39)
      have nl39_b32 := ns39 b32 (Safe.exa hZ39.alike f43 (by decide) (by decide))
      have f44 := ((((((((f15.wr W13).ext E17).wr W21).wr W24).wr W28).ext E32).wr W36).ext E39)
      have nl39_b6 := ns39 b6 (Safe.exa hZ39.alike f44 (by decide) (by decide))
      have lt45 : h39.size > a39 := la39
      have lt46 : h39.size > b39 := lb39
      refine own_astore X39.here hx hby at_126 rfl (l' := #[.val (.int p1), .val (.int p2), .val (.int p3), .val (.int (p1 &&& (255 : Int32))), .val (.int (((p1.toUInt32 >>> ((8 : Int32) &&& 31).toUInt32).toInt32) &&& (255 : Int32))), .val (.int (p2 &&& (255 : Int32))), .val (.int (((p2.toUInt32 >>> ((8 : Int32) &&& 31).toUInt32).toInt32) &&& (255 : Int32))), .val (.int 0), .val (.int 0), .val (.ref b6), .val (.ref b17), .val (.ref b32), .val (.ref a39), .unset, .unset, .unset, .unset, .unset]) rfl ?_
      refine own_iload X39.here hx hby at_128 rfl ?_
      refine own_ifYes X39.here hx hby (pc' := 145) at_130 ((if0 _ _).trans (teq (show (0 : Int32) = (0 : Int32) from (by decide))).1) (by decide) (by decide) ?_
      refine own_newO X39 hx hZ39 hown39 (own_w hw 9 rfl) (own_w hw 3 rfl) (own_w hw 2 rfl) e39 hby at_145 (by decide) (by decide) ?_
      intro T47 h47 b47 X47 e47 E47 g47 A47 D47 lt47
      have z48 : h39.size ≤ h47.size := E47.1
      have C49 := C41.trans (CHr.ext E47 C41.1)
      have F50 : Fld Z h47 b47 "java/lang/String" "value" "[B" .null := D47 (Or.inr (own_w hw 5 rfl)) (ty := (.array .byte)) (by decide)
      have F51 : Fld Z h47 b47 "java/lang/String" "coder" "B" (.int 0) := D47 (Or.inr (own_w hw 6 rfl)) (ty := .byte) (by decide)
      refine own_dup X47.here hx hby at_148 rfl ?_
      refine own_aload X47.here hx hby at_149 rfl rfl ?_
      have f52 := ((V37.ext E39).ext E47)
      have f53 := (((((((((((S_C.ext E6).wr W10).wr W13).ext E17).wr W21).wr W24).wr W28).ext E32).wr W36).ext E39).ext E47)
      have z55 : n0 ≤ h47.size := by omega
      have hws_words : ∀ d ∈ StrChars.Road.words, d.before a0 Z = true := fun d hd => hw d ((by decide +kernel : ∀ d ∈ StrChars.Road.words, d ∈ tables_1) d hd)
      refine own_specialB X47 hx hZ39 rfl hown39 (own_w hw 10 rfl) (own_w hw 11 rfl) (own_w hw 12 rfl) (by decide) (StrChars.Road.backV (W := 1) hZ39 hws_words (kI := 4) (own_w hw 3 rfl) (cs := ([(47 : Int32)] : List Int32)) (bs := ([(47 : Int32)] : List Int32).map (fun c => c.toInt8.toInt32)) (n := 1) (by omega) z55 A47 F50 F51 f52 f53 hz rfl rfl (by decide) (by decide) (own_lS (by decide) own_l0) rfl (by decide) (by decide)) (Nat.le_of_eq rfl) (by rw [hml]; rfl) (argsL := [(.ref b32)]) (st := [(.ref b47)]) (a := b47) (lenOf pd_25 rfl) rfl rfl (by decide) (by decide) e47 hby at_151 ?_
      intro T54 v54 L54 X54 hQ54
      obtain ⟨rfl, Nq54, K54, P54_0, P54_1, t_54, kb_54, P54_2, P54_3, P54_4, P54_5, P54_6⟩ := hQ54
      have N54 := Fr.app N36 Nq54
      have z56 : h47.size ≤ T54.heap.size := K54.1
      have C57 := C49.trans (CHr.keep K54 (sfS (own_safe_null hZ39.alike A47 F50) sf0) C49.1)
      have lt58 : T54.heap.size > b47 := P54_0.lt
      have lt59 : T54.heap.size > t_54 := P54_6.lt
      refine own_sh (T := T54) 154 #[.val (.int p1), .val (.int p2), .val (.int p3), .val (.int (p1 &&& (255 : Int32))), .val (.int (((p1.toUInt32 >>> ((8 : Int32) &&& 31).toUInt32).toInt32) &&& (255 : Int32))), .val (.int (p2 &&& (255 : Int32))), .val (.int (((p2.toUInt32 >>> ((8 : Int32) &&& 31).toUInt32).toInt32) &&& (255 : Int32))), .val (.int 0), .val (.int 0), .val (.ref b6), .val (.ref b17), .val (.ref b32), .val (.ref a39), .unset, .unset, .unset, .unset, .unset] [(.ref b47)] ?_
      refine own_astore X54.here hx hby at_154 rfl (l' := #[.val (.int p1), .val (.int p2), .val (.int p3), .val (.int (p1 &&& (255 : Int32))), .val (.int (((p1.toUInt32 >>> ((8 : Int32) &&& 31).toUInt32).toInt32) &&& (255 : Int32))), .val (.int (p2 &&& (255 : Int32))), .val (.int (((p2.toUInt32 >>> ((8 : Int32) &&& 31).toUInt32).toInt32) &&& (255 : Int32))), .val (.int 0), .val (.int 0), .val (.ref b6), .val (.ref b17), .val (.ref b32), .val (.ref a39), .val (.ref b47), .unset, .unset, .unset, .unset]) rfl ?_
      refine own_newO X54 hx hZ39 hown39 (own_w hw 33 rfl) (own_w hw 34 rfl) (own_w hw 35 rfl) rfl hby at_156 (by decide) (by decide) ?_
      intro T60 h60 b60 X60 e60 E60 g60 A60 D60 lt60
      have z61 : T54.heap.size ≤ h60.size := E60.1
      have C62 := C57.trans (CHr.ext E60 C57.1)
      have F63 : Fld Z h60 b60 "com/example/undercroft/undercroft/store/UriSpace" "prefix" "Ljava/lang/String;" .null := D60 (Or.inr (own_w hw 47 rfl)) (ty := (.object "java/lang/String")) (by decide)
      have F64 : Fld Z h60 b60 "com/example/undercroft/undercroft/store/UriSpace" "ownSystem" "Ljava/lang/String;" .null := D60 (Or.inr (own_w hw 49 rfl)) (ty := (.object "java/lang/String")) (by decide)
      refine own_dup X60.here hx hby at_159 rfl ?_
      refine own_aload X60.here hx hby at_160 rfl rfl ?_
      refine own_ldcCH X60 hx hZ39 hEL hown39 (own_w hw 36 rfl) own_wS0 e60 hS39 (by omega) C62.1 (List.mem_of_getElem? (i := 1) rfl) (vs := [(.int 111), (.int 119), (.int 110)]) (z := (3 : Int32)) ⟨by decide, by decide⟩ (by decide) (by decide) hby at_162 12 (by decide) (by decide) (by decide) (by decide) ?_
      intro a65 T65 h65 kk65 vm65 b65 kb65 X65 e65 E65 hS65 hk65 hZ65 hown65 Ea65 Fc65 Fv65 Va65 la65 lb65 Cn65 ns65
      have z66 : h60.size ≤ h65.size := E65.1
      have C67 := C62.trans Cn65
      have f68 := ((((f42.ext E47).keep K54).ext E60).ext E65)
      have nl65_b17 := ns65 b17 (Safe.exa hZ65.alike f68 (by decide) (by decide))
      have f69 := ((((f43.ext E47).keep K54).ext E60).ext E65)
      have nl65_b32 := ns65 b32 (Safe.exa hZ65.alike f69 (by decide) (by decide))
      have sf70 := (Cn65.safe (own_ll (by omega)) (Safe.ext E60 C57.1 (Safe.keep K54 (sfS (own_safe_null hZ39.alike A47 F50) sf0) C49.1 (own_safe_null hZ39.alike A47 F50))))
      have nl65_b47 := ns65 b47 sf70
      have f71 := ((((f44.ext E47).keep K54).ext E60).ext E65)
      have nl65_b6 := ns65 b6 (Safe.exa hZ65.alike f71 (by decide) (by decide))
      have f72 := (A60.ext E65)
      have nl65_b60 := ns65 b60 (Safe.exa hZ65.alike f72 (by decide) (by decide))
      have sf73 := (Cn65.safe (own_ll (by omega)) (Safe.ext E60 C57.1 (Safe.keep K54 (sfS (own_safe_null hZ39.alike A47 F50) sf0) C49.1 (Safe.new (h := h47) (x := t_54) (by omega)))))
      have nl65_t_54 := ns65 t_54 sf73
      have lt74 : h65.size > a65 := la65
      have lt75 : h65.size > b65 := lb65
      have f76 := (F63.ext E65)
      have f77 := (F64.ext E65)
      have z79 : n0 ≤ h65.size := by omega
      refine own_special X65 hx hZ65 rfl hown65 (own_w hw 37 rfl) (own_w hw 38 rfl) (own_w hw 35 rfl) (own_w hw 39 rfl) (by decide) (uriInit l Z a0 hw [] b60 a39 a65 h65 n0 z79 f72 (by omega) f76 f77) 1 (Nat.le_of_eq rfl) (by decide) (by decide) (by rw [hml]; rfl) (argsL := [(.ref a39), (.ref a65)]) (st := [(.ref b60)]) (a := b60) (lenOf pd_26 rfl) rfl rfl (by decide) (by decide) e65 hby at_164 ?_
      intro T78 v78 L78 X78 hQ78
      obtain ⟨rfl, Nq78, K78, P78_0, P78_1⟩ := hQ78
      have N78 := Fr.app N54 Nq78
      have z80 : h65.size ≤ T78.heap.size := K78.1
      have C81 := C67.trans (CHr.keep K78 (sfS (Safe.exa hZ65.alike f72 (by decide) (by decide)) sf0) C67.1)
      have lt82 : T78.heap.size > b60 := P78_0.lt
      refine own_sh (T := T78) 167 #[.val (.int p1), .val (.int p2), .val (.int p3), .val (.int (p1 &&& (255 : Int32))), .val (.int (((p1.toUInt32 >>> ((8 : Int32) &&& 31).toUInt32).toInt32) &&& (255 : Int32))), .val (.int (p2 &&& (255 : Int32))), .val (.int (((p2.toUInt32 >>> ((8 : Int32) &&& 31).toUInt32).toInt32) &&& (255 : Int32))), .val (.int 0), .val (.int 0), .val (.ref b6), .val (.ref b17), .val (.ref b32), .val (.ref a39), .val (.ref b47), .unset, .unset, .unset, .unset] [(.ref b60)] ?_
      refine own_astore X78.here hx hby at_167 rfl (l' := #[.val (.int p1), .val (.int p2), .val (.int p3), .val (.int (p1 &&& (255 : Int32))), .val (.int (((p1.toUInt32 >>> ((8 : Int32) &&& 31).toUInt32).toInt32) &&& (255 : Int32))), .val (.int (p2 &&& (255 : Int32))), .val (.int (((p2.toUInt32 >>> ((8 : Int32) &&& 31).toUInt32).toInt32) &&& (255 : Int32))), .val (.int 0), .val (.int 0), .val (.ref b6), .val (.ref b17), .val (.ref b32), .val (.ref a39), .val (.ref b47), .val (.ref b60), .unset, .unset, .unset]) rfl ?_
      refine own_aload X78.here hx hby at_169 rfl rfl ?_
      refine own_aload X78.here hx hby at_171 rfl rfl ?_
      have f83 := (((((Ea39.ext E47).keep K54).ext E60).ext E65).keep K78)
      have f84 := (((((Fc39.ext E47).keep K54 (ninS (own_nn (by omega)) nin0)).ext E60).ext E65).keep K78 (ninS (own_nn (by omega)) nin0))
      have f85 := (((((Fv39.ext E47).keep K54 (ninS (own_nn (by omega)) nin0)).ext E60).ext E65).keep K78 (ninS (own_nn (by omega)) nin0))
      have f86 := (((((Va39.ext E47).keep K54 (ninS (own_nn (by omega)) nin0)).ext E60).ext E65).keep K78 (ninS (own_nn (by omega)) nin0))
      have f87 := (((P54_0.ext E60).ext E65).keep K78)
      have f88 := (((P54_1.ext E60).ext E65).keep K78 (ninS (own_nn (by omega)) nin0))
      have f89 := (((P54_5.ext E60).ext E65).keep K78 (ninS (own_nn (by omega)) nin0))
      have f90 := (((P54_6.ext E60).ext E65).keep K78 (ninS (own_nn (by omega)) nin0))
      have f91 := (own_sta_keep (((own_sta_keep f53 K54 (allS (own_exa_plain A47) all0)).ext E60).ext E65) K78 (allS (own_exa_plain f72) all0))
      have f92 := (own_sta_keep (((own_sta_keep (((((((((((S_FM.ext E6).wr W10).wr W13).ext E17).wr W21).wr W24).wr W28).ext E32).wr W36).ext E39).ext E47) K54 (allS (own_exa_plain A47) all0)).ext E60).ext E65) K78 (allS (own_exa_plain f72) all0))
      have z94 : n0 ≤ T78.heap.size := by omega
      refine own_virtualH X78 hx hZ65 hEL hown65 (own_w hw 50 rfl) (own_w hw 51 rfl) (notFace_of_selects (args := #[]) (mvT hZ65 (own_w hw 53 rfl))) (own_w hw 53 rfl) (own_w hw 52 rfl) (own_w hw 35 rfl) (own_w hw 54 rfl) (by decide) (uriOf_0_1 l Z a0 hw [] b60 a39 b39 b47 t_54 kb39 kb_54 fm zc ((47 : Int32).toInt8.toInt32) T78.heap n0 z94 P78_0 P78_1 f83 f84 f85 f86 f87 f88 f89 f90 f91 hz f92 hfm) 0 (Nat.le_of_eq rfl) (by decide) (by decide) (by rw [hml]; rfl) (argsL := [(.ref b47)]) (st := []) P78_0 (lenOf pd_27 rfl) rfl rfl (by decide) (by decide) rfl hby C81.1 hS65 (by omega) at_173 ?_
      intro T93 v93 L93 vm93 X93 hS93 hZ93 hown93 hg93 Cn93 hQ93
      obtain ⟨r_93, tr_93, kr_93, rfl, Nq93, K93, P93_0, P93_1, P93_2, P93_3, P93_4⟩ := hQ93
      have N93 := Fr.app N78 Nq93
      have z95 : T78.heap.size ≤ T93.heap.size := K93.1
      have C96 := C81.trans Cn93
      have lt97 : T93.heap.size > r_93 := P93_1.lt
      have lt98 : T93.heap.size > tr_93 := P93_4.lt
      refine own_sh (T := T93) 176 #[.val (.int p1), .val (.int p2), .val (.int p3), .val (.int (p1 &&& (255 : Int32))), .val (.int (((p1.toUInt32 >>> ((8 : Int32) &&& 31).toUInt32).toInt32) &&& (255 : Int32))), .val (.int (p2 &&& (255 : Int32))), .val (.int (((p2.toUInt32 >>> ((8 : Int32) &&& 31).toUInt32).toInt32) &&& (255 : Int32))), .val (.int 0), .val (.int 0), .val (.ref b6), .val (.ref b17), .val (.ref b32), .val (.ref a39), .val (.ref b47), .val (.ref b60), .unset, .unset, .unset] [(.ref r_93)] ?_
      refine own_astore X93.here hx hby at_176 rfl (l' := #[.val (.int p1), .val (.int p2), .val (.int p3), .val (.int (p1 &&& (255 : Int32))), .val (.int (((p1.toUInt32 >>> ((8 : Int32) &&& 31).toUInt32).toInt32) &&& (255 : Int32))), .val (.int (p2 &&& (255 : Int32))), .val (.int (((p2.toUInt32 >>> ((8 : Int32) &&& 31).toUInt32).toInt32) &&& (255 : Int32))), .val (.int 0), .val (.int 0), .val (.ref b6), .val (.ref b17), .val (.ref b32), .val (.ref a39), .val (.ref b47), .val (.ref b60), .val (.ref r_93), .unset, .unset]) rfl ?_
      refine own_iload X93.here hx hby at_178 rfl ?_
      refine own_ifYes X93.here hx hby (pc' := 187) at_180 ((if0 _ _).trans (teq (show (0 : Int32) = (0 : Int32) from (by decide))).1) (by decide) (by decide) ?_
      refine own_iconst X93.here hx hby at_187 (v := (0 : Int32)) (by decide) ?_
      refine own_istore X93.here hx hby at_188 (l' := #[.val (.int p1), .val (.int p2), .val (.int p3), .val (.int (p1 &&& (255 : Int32))), .val (.int (((p1.toUInt32 >>> ((8 : Int32) &&& 31).toUInt32).toInt32) &&& (255 : Int32))), .val (.int (p2 &&& (255 : Int32))), .val (.int (((p2.toUInt32 >>> ((8 : Int32) &&& 31).toUInt32).toInt32) &&& (255 : Int32))), .val (.int 0), .val (.int 0), .val (.ref b6), .val (.ref b17), .val (.ref b32), .val (.ref a39), .val (.ref b47), .val (.ref b60), .val (.ref r_93), .val (.int 0), .unset]) rfl ?_
      refine own_iload X93.here hx hby at_190 rfl ?_
      refine own_ifYes X93.here hx hby (pc' := 199) at_192 ((if0 _ _).trans (teq (show (0 : Int32) = (0 : Int32) from (by decide))).1) (by decide) (by decide) ?_
      refine own_iconst X93.here hx hby at_199 (v := (0 : Int32)) (by decide) ?_
      refine own_istore X93.here hx hby at_200 (l' := #[.val (.int p1), .val (.int p2), .val (.int p3), .val (.int (p1 &&& (255 : Int32))), .val (.int (((p1.toUInt32 >>> ((8 : Int32) &&& 31).toUInt32).toInt32) &&& (255 : Int32))), .val (.int (p2 &&& (255 : Int32))), .val (.int (((p2.toUInt32 >>> ((8 : Int32) &&& 31).toUInt32).toInt32) &&& (255 : Int32))), .val (.int 0), .val (.int 0), .val (.ref b6), .val (.ref b17), .val (.ref b32), .val (.ref a39), .val (.ref b47), .val (.ref b60), .val (.ref r_93), .val (.int 0), .val (.int 0)]) rfl ?_
      refine own_aload X93.here hx hby at_202 rfl rfl ?_
      have f99 := (own_sta_keep f91 K93 all0)
      have z101 : n0 ≤ T93.heap.size := by omega
      refine own_virtual X93 hx hZ93 hown93 (own_w hw 198 rfl) (own_w hw 84 rfl) (notFace_of_selects (args := #[]) (mvT hZ93 (own_w hw 86 rfl))) (own_w hw 86 rfl) (own_w hw 85 rfl) (own_w hw 2 rfl) (own_w hw 87 rfl) (by decide) (strLen_0 l Z a0 hw [] r_93 tr_93 kr_93 zc ([]) T93.heap n0 z101 P93_1 P93_2 P93_3 P93_4 f99 hz) 0 (Nat.le_of_eq rfl) (by decide) (by decide) (by rw [hml]; rfl) (argsL := []) (st := []) P93_1 (lenOf pd_5 rfl) rfl rfl (by decide) (by decide) rfl hby at_204 ?_
      intro T100 v100 L100 X100 hQ100
      obtain ⟨rfl, Nq100, eh100⟩ := hQ100
      have N100 := Fr.app N93 Nq100
      refine own_sh (T := T100) 207 #[.val (.int p1), .val (.int p2), .val (.int p3), .val (.int (p1 &&& (255 : Int32))), .val (.int (((p1.toUInt32 >>> ((8 : Int32) &&& 31).toUInt32).toInt32) &&& (255 : Int32))), .val (.int (p2 &&& (255 : Int32))), .val (.int (((p2.toUInt32 >>> ((8 : Int32) &&& 31).toUInt32).toInt32) &&& (255 : Int32))), .val (.int 0), .val (.int 0), .val (.ref b6), .val (.ref b17), .val (.ref b32), .val (.ref a39), .val (.ref b47), .val (.ref b60), .val (.ref r_93), .val (.int 0), .val (.int 0)] [(.int 0)] ?_
      refine own_iload X100.here hx hby at_207 rfl ?_
      refine own_iload X100.here hx hby at_209 rfl ?_
      refine own_iadd X100.here hx hby at_211 (v := (0 : Int32)) (by decide) ?_
      refine own_icmpYes X100.here hx hby (pc' := 217) at_212 (teq (show (0 : Int32) = (0 : Int32) from (by decide))).1 (by decide) (by decide) ?_
      refine own_iload X100.here hx hby at_217 rfl ?_
      refine own_ifYes X100.here hx hby (pc' := 245) at_219 ((if0 _ _).trans (teq (show (0 : Int32) = (0 : Int32) from (by decide))).1) (by decide) (by decide) ?_
      refine own_iload X100.here hx hby at_245 rfl ?_
      refine own_ifYes X100.here hx hby (pc' := 278) at_247 ((if0 _ _).trans (teq (show (0 : Int32) = (0 : Int32) from (by decide))).1) (by decide) (by decide) ?_
      refine own_iconst X100.here hx hby at_278 (v := (1 : Int32)) (by decide) ?_
      obtain ⟨fs, hr, hrun, hended, hRW⟩ := X100.leaveW hS93 (by rw [eh100]; omega) (v := some (.int 1)) (fun h => by rw [Bd.returns] at h; cases h)
      have hCf : CHr Z consts_1 s.vm s.heap T100.vm T100.heap := by
        rw [hh, eh100]
        exact C96.trans (CHv.at X100 hZ93 hEL C96.1)
      refine own_ret (t := T100.setFrames fs) ?_ ⟨_, hrun, hended, _, _, rfl, ?_, hCf, hRW.1, hRW.2.1, hRW.2.2.1, hRW.2.2.2.mono (by decide) (by decide)⟩
      · exact retN X100 hx (t := .boolean) Bd.returns (by simp) (hb hby at_279) hr
      · show Q_rm0 Z _ _ _ _ _ h0 n0 _ T100.heap _
        rw [eh100]
        exact ⟨rfl, N100, trivial⟩
    · refine own_ifNo Y0.here hx hby at_53 ((if0 _ _).trans (feq hc53_5).1) ?_
      refine own_iconst Y0.here hx hby at_56 (v := (1 : Int32)) (by decide) ?_
      refine own_goto Y0.here hx hby (pc' := 61) at_57 (by decide) (by decide) ?_
      refine own_istore Y0.here hx hby at_61 (l' := #[.val (.int p1), .val (.int p2), .val (.int p3), .val (.int (p1 &&& (255 : Int32))), .val (.int (((p1.toUInt32 >>> ((8 : Int32) &&& 31).toUInt32).toInt32) &&& (255 : Int32))), .val (.int (p2 &&& (255 : Int32))), .val (.int (((p2.toUInt32 >>> ((8 : Int32) &&& 31).toUInt32).toInt32) &&& (255 : Int32))), .val (.int 0), .val (.int 1), .unset, .unset, .unset, .unset, .unset, .unset, .unset, .unset, .unset]) rfl ?_
      refine own_iconst Y0.here hx hby at_63 (v := (2 : Int32)) (by decide) ?_
      refine own_newP Y0 hx hZ (aty := .char) (own_w hw 0 rfl) e0 hby at_64 (by decide) 2 (by decide) (by decide) (by decide) (by decide) (ad := "[C") (by decide) ?_
      intro T102 h102 k102 b102 X102 e102 E102 g102 V102 C102 lt102
      have z103 : h0.size ≤ h102.size := E102.1
      have C104 := C0.trans (CHr.ext E102 C0.1)
      have V105 : Arv Z h102 b102 k102 .char (2 : Int32) [(.int 0), (.int 0)] (.int 0) := V102.pad (pad_rep [] (.int 0) 2)
      refine own_dup X102.here hx hby at_66 rfl ?_
      refine own_iconst X102.here hx hby at_67 (v := (0 : Int32)) (by decide) ?_
      refine own_iloadN X102.here hx hby at_68 rfl ?_
      refine own_castore X102 hx hZ e102 V105 ⟨by decide, by decide⟩ 0 (by decide) (Nat.le_of_ble_eq_true rfl) (w := (.int (p1 &&& (255 : Int32)))) (congrArg Value.int (i2c_mask p1)) hby at_69 N0 (by omega) ?_
      intro T106 h106 lo106 X106 e106 N106 W106 V106 z106
      have V107 : Arv Z h106 b102 k102 .char (2 : Int32) [(.int (p1 &&& (255 : Int32))), (.int 0)] (.int 0) := V106
      have C108 := C104.trans (CHr.wr W106 (Safe.exa hZ.alike C102 (by decide) (by decide)) C104.1)
      refine own_dup X106.here hx hby at_70 rfl ?_
      refine own_iconst X106.here hx hby at_71 (v := (1 : Int32)) (by decide) ?_
      refine own_iload X106.here hx hby at_72 rfl ?_
      refine own_castore X106 hx hZ e106 V107 ⟨by decide, by decide⟩ 1 (by decide) (Nat.le_of_ble_eq_true rfl) (w := (.int (((p1.toUInt32 >>> ((8 : Int32) &&& 31).toUInt32).toInt32) &&& (255 : Int32)))) (congrArg Value.int (i2c_mask ((p1.toUInt32 >>> ((8 : Int32) &&& 31).toUInt32).toInt32))) hby at_74 N106 (by omega) ?_
      intro T109 h109 lo109 X109 e109 N109 W109 V109 z109
      have V110 : Arv Z h109 b102 k102 .char (2 : Int32) [(.int (p1 &&& (255 : Int32))), (.int (((p1.toUInt32 >>> ((8 : Int32) &&& 31).toUInt32).toInt32) &&& (255 : Int32)))] (.int 0) := V109
      have f111 := (C102.wr W106)
      have C112 := C108.trans (CHr.wr W109 (Safe.exa hZ.alike f111 (by decide) (by decide)) C108.1)
      refine own_astore X109.here hx hby at_75 rfl (l' := #[.val (.int p1), .val (.int p2), .val (.int p3), .val (.int (p1 &&& (255 : Int32))), .val (.int (((p1.toUInt32 >>> ((8 : Int32) &&& 31).toUInt32).toInt32) &&& (255 : Int32))), .val (.int (p2 &&& (255 : Int32))), .val (.int (((p2.toUInt32 >>> ((8 : Int32) &&& 31).toUInt32).toInt32) &&& (255 : Int32))), .val (.int 0), .val (.int 1), .val (.ref b102), .unset, .unset, .unset, .unset, .unset, .unset, .unset, .unset]) rfl ?_
      refine own_iconst X109.here hx hby at_77 (v := (3 : Int32)) (by decide) ?_
      refine own_newP X109 hx hZ (aty := .char) (own_w hw 0 rfl) e109 hby at_78 (by decide) 3 (by decide) (by decide) (by decide) (by decide) (ad := "[C") (by decide) ?_
      intro T113 h113 k113 b113 X113 e113 E113 g113 V113 C113 lt113
      have z114 : h109.size ≤ h113.size := E113.1
      have C115 := C112.trans (CHr.ext E113 C112.1)
      have V116 : Arv Z h113 b113 k113 .char (3 : Int32) [(.int 0), (.int 0), (.int 0)] (.int 0) := V113.pad (pad_rep [] (.int 0) 3)
      refine own_dup X113.here hx hby at_80 rfl ?_
      refine own_iconst X113.here hx hby at_81 (v := (0 : Int32)) (by decide) ?_
      refine own_bipush X113.here hx hby at_82 (v := (47 : Int32)) (by decide) ?_
      refine own_castore X113 hx hZ e113 V116 ⟨by decide, by decide⟩ 0 (by decide) (Nat.le_of_ble_eq_true rfl) (w := (.int 47)) rfl hby at_84 N109 (by omega) ?_
      intro T117 h117 lo117 X117 e117 N117 W117 V117 z117
      have V118 : Arv Z h117 b113 k113 .char (3 : Int32) [(.int 47), (.int 0), (.int 0)] (.int 0) := V117
      have C119 := C115.trans (CHr.wr W117 (Safe.exa hZ.alike C113 (by decide) (by decide)) C115.1)
      refine own_dup X117.here hx hby at_85 rfl ?_
      refine own_iconst X117.here hx hby at_86 (v := (1 : Int32)) (by decide) ?_
      refine own_iload X117.here hx hby at_87 rfl ?_
      refine own_castore X117 hx hZ e117 V118 ⟨by decide, by decide⟩ 1 (by decide) (Nat.le_of_ble_eq_true rfl) (w := (.int (p2 &&& (255 : Int32)))) (congrArg Value.int (i2c_mask p2)) hby at_89 N117 (by omega) ?_
      intro T120 h120 lo120 X120 e120 N120 W120 V120 z120
      have V121 : Arv Z h120 b113 k113 .char (3 : Int32) [(.int 47), (.int (p2 &&& (255 : Int32))), (.int 0)] (.int 0) := V120
      have f122 := (C113.wr W117)
      have C123 := C119.trans (CHr.wr W120 (Safe.exa hZ.alike f122 (by decide) (by decide)) C119.1)
      refine own_dup X120.here hx hby at_90 rfl ?_
      refine own_iconst X120.here hx hby at_91 (v := (2 : Int32)) (by decide) ?_
      refine own_iload X120.here hx hby at_92 rfl ?_
      refine own_castore X120 hx hZ e120 V121 ⟨by decide, by decide⟩ 2 (by decide) (Nat.le_of_ble_eq_true rfl) (w := (.int (((p2.toUInt32 >>> ((8 : Int32) &&& 31).toUInt32).toInt32) &&& (255 : Int32)))) (congrArg Value.int (i2c_mask ((p2.toUInt32 >>> ((8 : Int32) &&& 31).toUInt32).toInt32))) hby at_94 N120 (by omega) ?_
      intro T124 h124 lo124 X124 e124 N124 W124 V124 z124
      have V125 : Arv Z h124 b113 k113 .char (3 : Int32) [(.int 47), (.int (p2 &&& (255 : Int32))), (.int (((p2.toUInt32 >>> ((8 : Int32) &&& 31).toUInt32).toInt32) &&& (255 : Int32)))] (.int 0) := V124
      have f126 := (f122.wr W120)
      have C127 := C123.trans (CHr.wr W124 (Safe.exa hZ.alike f126 (by decide) (by decide)) C123.1)
      refine own_astore X124.here hx hby at_95 rfl (l' := #[.val (.int p1), .val (.int p2), .val (.int p3), .val (.int (p1 &&& (255 : Int32))), .val (.int (((p1.toUInt32 >>> ((8 : Int32) &&& 31).toUInt32).toInt32) &&& (255 : Int32))), .val (.int (p2 &&& (255 : Int32))), .val (.int (((p2.toUInt32 >>> ((8 : Int32) &&& 31).toUInt32).toInt32) &&& (255 : Int32))), .val (.int 0), .val (.int 1), .val (.ref b102), .val (.ref b113), .unset, .unset, .unset, .unset, .unset, .unset, .unset]) rfl ?_
      refine own_iconst X124.here hx hby at_97 (v := (1 : Int32)) (by decide) ?_
      refine own_newP X124 hx hZ (aty := .char) (own_w hw 0 rfl) e124 hby at_98 (by decide) 1 (by decide) (by decide) (by decide) (by decide) (ad := "[C") (by decide) ?_
      intro T128 h128 k128 b128 X128 e128 E128 g128 V128 C128 lt128
      have z129 : h124.size ≤ h128.size := E128.1
      have C130 := C127.trans (CHr.ext E128 C127.1)
      have V131 : Arv Z h128 b128 k128 .char (1 : Int32) [(.int 0)] (.int 0) := V128.pad (pad_rep [] (.int 0) 1)
      refine own_dup X128.here hx hby at_100 rfl ?_
      refine own_iconst X128.here hx hby at_101 (v := (0 : Int32)) (by decide) ?_
      refine own_bipush X128.here hx hby at_102 (v := (47 : Int32)) (by decide) ?_
      refine own_castore X128 hx hZ e128 V131 ⟨by decide, by decide⟩ 0 (by decide) (Nat.le_of_ble_eq_true rfl) (w := (.int 47)) rfl hby at_104 N124 (by omega) ?_
      intro T132 h132 lo132 X132 e132 N132 W132 V132 z132
      have V133 : Arv Z h132 b128 k128 .char (1 : Int32) [(.int 47)] (.int 0) := V132
      have C134 := C130.trans (CHr.wr W132 (Safe.exa hZ.alike C128 (by decide) (by decide)) C130.1)
      refine own_astore X132.here hx hby at_105 rfl (l' := #[.val (.int p1), .val (.int p2), .val (.int p3), .val (.int (p1 &&& (255 : Int32))), .val (.int (((p1.toUInt32 >>> ((8 : Int32) &&& 31).toUInt32).toInt32) &&& (255 : Int32))), .val (.int (p2 &&& (255 : Int32))), .val (.int (((p2.toUInt32 >>> ((8 : Int32) &&& 31).toUInt32).toInt32) &&& (255 : Int32))), .val (.int 0), .val (.int 1), .val (.ref b102), .val (.ref b113), .val (.ref b128), .unset, .unset, .unset, .unset, .unset, .unset]) rfl ?_
      refine own_iload X132.here hx hby at_107 rfl ?_
      refine own_ifYes X132.here hx hby (pc' := 124) at_109 ((if0 _ _).trans (teq (show (0 : Int32) = (0 : Int32) from (by decide))).1) (by decide) (by decide) ?_
      have own_wS0 : ∀ a ∈ Bundle.stringAtoms, a.before a0 Z = true := own_wS hw
      refine own_ldcCH X132 hx hZ hEL hown (own_w hw 1 rfl) own_wS0 e132 hS0 (by omega) C134.1 (List.mem_of_getElem? (i := 0) rfl) (vs := []) (z := (0 : Int32)) ⟨by decide, by decide⟩ (by decide) (by decide) hby at_124 0 (by decide) (by decide) (by decide) (by decide) ?_
      intro a135 T135 h135 kk135 vm135 b135 kb135 X135 e135 E135 hS135 hk135 hZ135 hown135 Ea135 Fc135 Fv135 Va135 la135 lb135 Cn135 ns135
      have z136 : h132.size ≤ h135.size := E135.1
      have C137 := C134.trans Cn135
      have f138 := ((((((((f111.wr W109).ext E113).wr W117).wr W120).wr W124).ext E128).wr W132).ext E135)
      have nl135_b102 := ns135 b102 (Safe.exa hZ135.alike f138 (by decide) (by decide))
      have f139 := ((((f126.wr W124).ext E128).wr W132).ext E135)
      have nl135_b113 := ns135 b113 (Safe.exa hZ135.alike f139 (by decide) (by decide))
      have f140 := ((C128.wr W132).ext E135)
      have nl135_b128 := ns135 b128 (Safe.exa hZ135.alike f140 (by decide) (by decide))
      have lt141 : h135.size > a135 := la135
      have lt142 : h135.size > b135 := lb135
      refine own_astore X135.here hx hby at_126 rfl (l' := #[.val (.int p1), .val (.int p2), .val (.int p3), .val (.int (p1 &&& (255 : Int32))), .val (.int (((p1.toUInt32 >>> ((8 : Int32) &&& 31).toUInt32).toInt32) &&& (255 : Int32))), .val (.int (p2 &&& (255 : Int32))), .val (.int (((p2.toUInt32 >>> ((8 : Int32) &&& 31).toUInt32).toInt32) &&& (255 : Int32))), .val (.int 0), .val (.int 1), .val (.ref b102), .val (.ref b113), .val (.ref b128), .val (.ref a135), .unset, .unset, .unset, .unset, .unset]) rfl ?_
      refine own_iload X135.here hx hby at_128 rfl ?_
      refine own_ifNo X135.here hx hby at_130 ((if0 _ _).trans (feq (show ¬ ((1 : Int32) = (0 : Int32)) from (by decide))).1) ?_
      refine own_newO X135 hx hZ135 hown135 (own_w hw 9 rfl) (own_w hw 3 rfl) (own_w hw 2 rfl) e135 hby at_133 (by decide) (by decide) ?_
      intro T143 h143 b143 X143 e143 E143 g143 A143 D143 lt143
      have z144 : h135.size ≤ h143.size := E143.1
      have C145 := C137.trans (CHr.ext E143 C137.1)
      have F146 : Fld Z h143 b143 "java/lang/String" "value" "[B" .null := D143 (Or.inr (own_w hw 5 rfl)) (ty := (.array .byte)) (by decide)
      have F147 : Fld Z h143 b143 "java/lang/String" "coder" "B" (.int 0) := D143 (Or.inr (own_w hw 6 rfl)) (ty := .byte) (by decide)
      refine own_dup X143.here hx hby at_136 rfl ?_
      refine own_aload X143.here hx hby at_137 rfl rfl ?_
      have f148 := ((((V125.ext E128).other W132 (own_nn (by omega))).ext E135).ext E143)
      have f149 := (((((((((((S_C.ext E102).wr W106).wr W109).ext E113).wr W117).wr W120).wr W124).ext E128).wr W132).ext E135).ext E143)
      have z151 : n0 ≤ h143.size := by omega
      have hws_words : ∀ d ∈ StrChars.Road.words, d.before a0 Z = true := fun d hd => hw d ((by decide +kernel : ∀ d ∈ StrChars.Road.words, d ∈ tables_1) d hd)
      refine own_specialB X143 hx hZ135 rfl hown135 (own_w hw 10 rfl) (own_w hw 11 rfl) (own_w hw 12 rfl) (by decide) (StrChars.Road.backV (W := 1) hZ135 hws_words (kI := 4) (own_w hw 3 rfl) (cs := ([(47 : Int32), (p2 &&& (255 : Int32)), (((p2.toUInt32 >>> ((8 : Int32) &&& 31).toUInt32).toInt32) &&& (255 : Int32))] : List Int32)) (bs := ([(47 : Int32), (p2 &&& (255 : Int32)), (((p2.toUInt32 >>> ((8 : Int32) &&& 31).toUInt32).toInt32) &&& (255 : Int32))] : List Int32).map (fun c => c.toInt8.toInt32)) (n := 3) (by omega) z151 A143 F146 F147 f148 f149 hz rfl rfl (by decide) (by decide) (own_lS (by decide) (own_lS (own_c255 p2) (own_lS (own_c255 ((p2.toUInt32 >>> ((8 : Int32) &&& 31).toUInt32).toInt32)) own_l0))) rfl (by decide) (by decide)) (Nat.le_of_eq rfl) (by rw [hml]; rfl) (argsL := [(.ref b113)]) (st := [(.ref b143)]) (a := b143) (lenOf pd_25 rfl) rfl rfl (by decide) (by decide) e143 hby at_139 ?_
      intro T150 v150 L150 X150 hQ150
      obtain ⟨rfl, Nq150, K150, P150_0, P150_1, t_150, kb_150, P150_2, P150_3, P150_4, P150_5, P150_6⟩ := hQ150
      have N150 := Fr.app N132 Nq150
      have z152 : h143.size ≤ T150.heap.size := K150.1
      have C153 := C145.trans (CHr.keep K150 (sfS (own_safe_null hZ135.alike A143 F146) sf0) C145.1)
      have lt154 : T150.heap.size > b143 := P150_0.lt
      have lt155 : T150.heap.size > t_150 := P150_6.lt
      refine own_sh (T := T150) 142 #[.val (.int p1), .val (.int p2), .val (.int p3), .val (.int (p1 &&& (255 : Int32))), .val (.int (((p1.toUInt32 >>> ((8 : Int32) &&& 31).toUInt32).toInt32) &&& (255 : Int32))), .val (.int (p2 &&& (255 : Int32))), .val (.int (((p2.toUInt32 >>> ((8 : Int32) &&& 31).toUInt32).toInt32) &&& (255 : Int32))), .val (.int 0), .val (.int 1), .val (.ref b102), .val (.ref b113), .val (.ref b128), .val (.ref a135), .unset, .unset, .unset, .unset, .unset] [(.ref b143)] ?_
      refine own_goto X150.here hx hby (pc' := 154) at_142 (by decide) (by decide) ?_
      refine own_astore X150.here hx hby at_154 rfl (l' := #[.val (.int p1), .val (.int p2), .val (.int p3), .val (.int (p1 &&& (255 : Int32))), .val (.int (((p1.toUInt32 >>> ((8 : Int32) &&& 31).toUInt32).toInt32) &&& (255 : Int32))), .val (.int (p2 &&& (255 : Int32))), .val (.int (((p2.toUInt32 >>> ((8 : Int32) &&& 31).toUInt32).toInt32) &&& (255 : Int32))), .val (.int 0), .val (.int 1), .val (.ref b102), .val (.ref b113), .val (.ref b128), .val (.ref a135), .val (.ref b143), .unset, .unset, .unset, .unset]) rfl ?_
      refine own_newO X150 hx hZ135 hown135 (own_w hw 33 rfl) (own_w hw 34 rfl) (own_w hw 35 rfl) rfl hby at_156 (by decide) (by decide) ?_
      intro T156 h156 b156 X156 e156 E156 g156 A156 D156 lt156
      have z157 : T150.heap.size ≤ h156.size := E156.1
      have C158 := C153.trans (CHr.ext E156 C153.1)
      have F159 : Fld Z h156 b156 "com/example/undercroft/undercroft/store/UriSpace" "prefix" "Ljava/lang/String;" .null := D156 (Or.inr (own_w hw 47 rfl)) (ty := (.object "java/lang/String")) (by decide)
      have F160 : Fld Z h156 b156 "com/example/undercroft/undercroft/store/UriSpace" "ownSystem" "Ljava/lang/String;" .null := D156 (Or.inr (own_w hw 49 rfl)) (ty := (.object "java/lang/String")) (by decide)
      refine own_dup X156.here hx hby at_159 rfl ?_
      refine own_aload X156.here hx hby at_160 rfl rfl ?_
      refine own_ldcCH X156 hx hZ135 hEL hown135 (own_w hw 36 rfl) own_wS0 e156 hS135 (by omega) C158.1 (List.mem_of_getElem? (i := 1) rfl) (vs := [(.int 111), (.int 119), (.int 110)]) (z := (3 : Int32)) ⟨by decide, by decide⟩ (by decide) (by decide) hby at_162 12 (by decide) (by decide) (by decide) (by decide) ?_
      intro a161 T161 h161 kk161 vm161 b161 kb161 X161 e161 E161 hS161 hk161 hZ161 hown161 Ea161 Fc161 Fv161 Va161 la161 lb161 Cn161 ns161
      have z162 : h156.size ≤ h161.size := E161.1
      have C163 := C158.trans Cn161
      have f164 := ((((f138.ext E143).keep K150).ext E156).ext E161)
      have nl161_b102 := ns161 b102 (Safe.exa hZ161.alike f164 (by decide) (by decide))
      have f165 := ((((f139.ext E143).keep K150).ext E156).ext E161)
      have nl161_b113 := ns161 b113 (Safe.exa hZ161.alike f165 (by decide) (by decide))
      have f166 := ((((f140.ext E143).keep K150).ext E156).ext E161)
      have nl161_b128 := ns161 b128 (Safe.exa hZ161.alike f166 (by decide) (by decide))
      have sf167 := (Cn161.safe (own_ll (by omega)) (Safe.ext E156 C153.1 (Safe.keep K150 (sfS (own_safe_null hZ135.alike A143 F146) sf0) C145.1 (own_safe_null hZ135.alike A143 F146))))
      have nl161_b143 := ns161 b143 sf167
      have f168 := (A156.ext E161)
      have nl161_b156 := ns161 b156 (Safe.exa hZ161.alike f168 (by decide) (by decide))
      have sf169 := (Cn161.safe (own_ll (by omega)) (Safe.ext E156 C153.1 (Safe.keep K150 (sfS (own_safe_null hZ135.alike A143 F146) sf0) C145.1 (Safe.new (h := h143) (x := t_150) (by omega)))))
      have nl161_t_150 := ns161 t_150 sf169
      have lt170 : h161.size > a161 := la161
      have lt171 : h161.size > b161 := lb161
      have f172 := (F159.ext E161)
      have f173 := (F160.ext E161)
      have z175 : n0 ≤ h161.size := by omega
      refine own_special X161 hx hZ161 rfl hown161 (own_w hw 37 rfl) (own_w hw 38 rfl) (own_w hw 35 rfl) (own_w hw 39 rfl) (by decide) (uriInit l Z a0 hw [] b156 a135 a161 h161 n0 z175 f168 (by omega) f172 f173) 1 (Nat.le_of_eq rfl) (by decide) (by decide) (by rw [hml]; rfl) (argsL := [(.ref a135), (.ref a161)]) (st := [(.ref b156)]) (a := b156) (lenOf pd_26 rfl) rfl rfl (by decide) (by decide) e161 hby at_164 ?_
      intro T174 v174 L174 X174 hQ174
      obtain ⟨rfl, Nq174, K174, P174_0, P174_1⟩ := hQ174
      have N174 := Fr.app N150 Nq174
      have z176 : h161.size ≤ T174.heap.size := K174.1
      have C177 := C163.trans (CHr.keep K174 (sfS (Safe.exa hZ161.alike f168 (by decide) (by decide)) sf0) C163.1)
      have lt178 : T174.heap.size > b156 := P174_0.lt
      refine own_sh (T := T174) 167 #[.val (.int p1), .val (.int p2), .val (.int p3), .val (.int (p1 &&& (255 : Int32))), .val (.int (((p1.toUInt32 >>> ((8 : Int32) &&& 31).toUInt32).toInt32) &&& (255 : Int32))), .val (.int (p2 &&& (255 : Int32))), .val (.int (((p2.toUInt32 >>> ((8 : Int32) &&& 31).toUInt32).toInt32) &&& (255 : Int32))), .val (.int 0), .val (.int 1), .val (.ref b102), .val (.ref b113), .val (.ref b128), .val (.ref a135), .val (.ref b143), .unset, .unset, .unset, .unset] [(.ref b156)] ?_
      refine own_astore X174.here hx hby at_167 rfl (l' := #[.val (.int p1), .val (.int p2), .val (.int p3), .val (.int (p1 &&& (255 : Int32))), .val (.int (((p1.toUInt32 >>> ((8 : Int32) &&& 31).toUInt32).toInt32) &&& (255 : Int32))), .val (.int (p2 &&& (255 : Int32))), .val (.int (((p2.toUInt32 >>> ((8 : Int32) &&& 31).toUInt32).toInt32) &&& (255 : Int32))), .val (.int 0), .val (.int 1), .val (.ref b102), .val (.ref b113), .val (.ref b128), .val (.ref a135), .val (.ref b143), .val (.ref b156), .unset, .unset, .unset]) rfl ?_
      refine own_aload X174.here hx hby at_169 rfl rfl ?_
      refine own_aload X174.here hx hby at_171 rfl rfl ?_
      have f179 := (((((Ea135.ext E143).keep K150).ext E156).ext E161).keep K174)
      have f180 := (((((Fc135.ext E143).keep K150 (ninS (own_nn (by omega)) nin0)).ext E156).ext E161).keep K174 (ninS (own_nn (by omega)) nin0))
      have f181 := (((((Fv135.ext E143).keep K150 (ninS (own_nn (by omega)) nin0)).ext E156).ext E161).keep K174 (ninS (own_nn (by omega)) nin0))
      have f182 := (((((Va135.ext E143).keep K150 (ninS (own_nn (by omega)) nin0)).ext E156).ext E161).keep K174 (ninS (own_nn (by omega)) nin0))
      have f183 := (((P150_0.ext E156).ext E161).keep K174)
      have f184 := (((P150_1.ext E156).ext E161).keep K174 (ninS (own_nn (by omega)) nin0))
      have f185 := (((P150_5.ext E156).ext E161).keep K174 (ninS (own_nn (by omega)) nin0))
      have f186 := (((P150_6.ext E156).ext E161).keep K174 (ninS (own_nn (by omega)) nin0))
      have f187 := (own_sta_keep (((own_sta_keep f149 K150 (allS (own_exa_plain A143) all0)).ext E156).ext E161) K174 (allS (own_exa_plain f168) all0))
      have f188 := (own_sta_keep (((own_sta_keep (((((((((((S_FM.ext E102).wr W106).wr W109).ext E113).wr W117).wr W120).wr W124).ext E128).wr W132).ext E135).ext E143) K150 (allS (own_exa_plain A143) all0)).ext E156).ext E161) K174 (allS (own_exa_plain f168) all0))
      have z190 : n0 ≤ T174.heap.size := by omega
      refine own_virtual X174 hx hZ161 hown161 (own_w hw 50 rfl) (own_w hw 51 rfl) (notFace_of_selects (args := #[]) (mvT hZ161 (own_w hw 53 rfl))) (own_w hw 53 rfl) (own_w hw 52 rfl) (own_w hw 35 rfl) (own_w hw 54 rfl) (by decide) (uriOf_0_3 l Z a0 hw [] b156 a135 b135 b143 t_150 kb135 kb_150 fm zc ((47 : Int32).toInt8.toInt32) ((p2 &&& (255 : Int32)).toInt8.toInt32) ((((p2.toUInt32 >>> ((8 : Int32) &&& 31).toUInt32).toInt32) &&& (255 : Int32)).toInt8.toInt32) T174.heap n0 z190 P174_0 P174_1 f179 f180 f181 f182 f183 f184 f185 f186 f187 hz f188 hfm) 0 (Nat.le_of_eq rfl) (by decide) (by decide) (by rw [hml]; rfl) (argsL := [(.ref b143)]) (st := []) P174_0 (lenOf pd_27 rfl) rfl rfl (by decide) (by decide) rfl hby at_173 ?_
      intro T189 v189 L189 X189 hQ189
      obtain ⟨r_189, tr_189, kr_189, rfl, Nq189, K189, P189_0, P189_1, P189_2, P189_3, P189_4⟩ := hQ189
      have N189 := Fr.app N174 Nq189
      have z191 : T174.heap.size ≤ T189.heap.size := K189.1
      have C192 := C177.trans (CHr.keep K189 sf0 C177.1)
      have lt193 : T189.heap.size > r_189 := P189_1.lt
      have lt194 : T189.heap.size > tr_189 := P189_4.lt
      refine own_sh (T := T189) 176 #[.val (.int p1), .val (.int p2), .val (.int p3), .val (.int (p1 &&& (255 : Int32))), .val (.int (((p1.toUInt32 >>> ((8 : Int32) &&& 31).toUInt32).toInt32) &&& (255 : Int32))), .val (.int (p2 &&& (255 : Int32))), .val (.int (((p2.toUInt32 >>> ((8 : Int32) &&& 31).toUInt32).toInt32) &&& (255 : Int32))), .val (.int 0), .val (.int 1), .val (.ref b102), .val (.ref b113), .val (.ref b128), .val (.ref a135), .val (.ref b143), .val (.ref b156), .unset, .unset, .unset] [(.ref r_189)] ?_
      refine own_astore X189.here hx hby at_176 rfl (l' := #[.val (.int p1), .val (.int p2), .val (.int p3), .val (.int (p1 &&& (255 : Int32))), .val (.int (((p1.toUInt32 >>> ((8 : Int32) &&& 31).toUInt32).toInt32) &&& (255 : Int32))), .val (.int (p2 &&& (255 : Int32))), .val (.int (((p2.toUInt32 >>> ((8 : Int32) &&& 31).toUInt32).toInt32) &&& (255 : Int32))), .val (.int 0), .val (.int 1), .val (.ref b102), .val (.ref b113), .val (.ref b128), .val (.ref a135), .val (.ref b143), .val (.ref b156), .val (.ref r_189), .unset, .unset]) rfl ?_
      refine own_iload X189.here hx hby at_178 rfl ?_
      refine own_ifYes X189.here hx hby (pc' := 187) at_180 ((if0 _ _).trans (teq (show (0 : Int32) = (0 : Int32) from (by decide))).1) (by decide) (by decide) ?_
      refine own_iconst X189.here hx hby at_187 (v := (0 : Int32)) (by decide) ?_
      refine own_istore X189.here hx hby at_188 (l' := #[.val (.int p1), .val (.int p2), .val (.int p3), .val (.int (p1 &&& (255 : Int32))), .val (.int (((p1.toUInt32 >>> ((8 : Int32) &&& 31).toUInt32).toInt32) &&& (255 : Int32))), .val (.int (p2 &&& (255 : Int32))), .val (.int (((p2.toUInt32 >>> ((8 : Int32) &&& 31).toUInt32).toInt32) &&& (255 : Int32))), .val (.int 0), .val (.int 1), .val (.ref b102), .val (.ref b113), .val (.ref b128), .val (.ref a135), .val (.ref b143), .val (.ref b156), .val (.ref r_189), .val (.int 0), .unset]) rfl ?_
      refine own_iload X189.here hx hby at_190 rfl ?_
      refine own_ifNo X189.here hx hby at_192 ((if0 _ _).trans (feq (show ¬ ((1 : Int32) = (0 : Int32)) from (by decide))).1) ?_
      refine own_iconst X189.here hx hby at_195 (v := (2 : Int32)) (by decide) ?_
      refine own_goto X189.here hx hby (pc' := 200) at_196 (by decide) (by decide) ?_
      refine own_istore X189.here hx hby at_200 (l' := #[.val (.int p1), .val (.int p2), .val (.int p3), .val (.int (p1 &&& (255 : Int32))), .val (.int (((p1.toUInt32 >>> ((8 : Int32) &&& 31).toUInt32).toInt32) &&& (255 : Int32))), .val (.int (p2 &&& (255 : Int32))), .val (.int (((p2.toUInt32 >>> ((8 : Int32) &&& 31).toUInt32).toInt32) &&& (255 : Int32))), .val (.int 0), .val (.int 1), .val (.ref b102), .val (.ref b113), .val (.ref b128), .val (.ref a135), .val (.ref b143), .val (.ref b156), .val (.ref r_189), .val (.int 0), .val (.int 2)]) rfl ?_
      refine own_aload X189.here hx hby at_202 rfl rfl ?_
      have f195 := (own_sta_keep f187 K189 all0)
      have z197 : n0 ≤ T189.heap.size := by omega
      refine own_virtual X189 hx hZ161 hown161 (own_w hw 198 rfl) (own_w hw 84 rfl) (notFace_of_selects (args := #[]) (mvT hZ161 (own_w hw 86 rfl))) (own_w hw 86 rfl) (own_w hw 85 rfl) (own_w hw 2 rfl) (own_w hw 87 rfl) (by decide) (strLen_2 l Z a0 hw [] r_189 tr_189 kr_189 zc ([(.int ((p2 &&& (255 : Int32)).toInt8.toInt32)), (.int ((((p2.toUInt32 >>> ((8 : Int32) &&& 31).toUInt32).toInt32) &&& (255 : Int32)).toInt8.toInt32))]) T189.heap n0 z197 P189_1 P189_2 P189_3 P189_4 f195 hz) 0 (Nat.le_of_eq rfl) (by decide) (by decide) (by rw [hml]; rfl) (argsL := []) (st := []) P189_1 (lenOf pd_5 rfl) rfl rfl (by decide) (by decide) rfl hby at_204 ?_
      intro T196 v196 L196 X196 hQ196
      obtain ⟨rfl, Nq196, eh196⟩ := hQ196
      have N196 := Fr.app N189 Nq196
      refine own_sh (T := T196) 207 #[.val (.int p1), .val (.int p2), .val (.int p3), .val (.int (p1 &&& (255 : Int32))), .val (.int (((p1.toUInt32 >>> ((8 : Int32) &&& 31).toUInt32).toInt32) &&& (255 : Int32))), .val (.int (p2 &&& (255 : Int32))), .val (.int (((p2.toUInt32 >>> ((8 : Int32) &&& 31).toUInt32).toInt32) &&& (255 : Int32))), .val (.int 0), .val (.int 1), .val (.ref b102), .val (.ref b113), .val (.ref b128), .val (.ref a135), .val (.ref b143), .val (.ref b156), .val (.ref r_189), .val (.int 0), .val (.int 2)] [(.int 2)] ?_
      refine own_iload X196.here hx hby at_207 rfl ?_
      refine own_iload X196.here hx hby at_209 rfl ?_
      refine own_iadd X196.here hx hby at_211 (v := (2 : Int32)) (by decide) ?_
      refine own_icmpYes X196.here hx hby (pc' := 217) at_212 (teq (show (2 : Int32) = (2 : Int32) from (by decide))).1 (by decide) (by decide) ?_
      refine own_iload X196.here hx hby at_217 rfl ?_
      refine own_ifYes X196.here hx hby (pc' := 245) at_219 ((if0 _ _).trans (teq (show (0 : Int32) = (0 : Int32) from (by decide))).1) (by decide) (by decide) ?_
      refine own_iload X196.here hx hby at_245 rfl ?_
      refine own_ifNo X196.here hx hby at_247 ((if0 _ _).trans (feq (show ¬ ((1 : Int32) = (0 : Int32)) from (by decide))).1) ?_
      refine own_aload X196.here hx hby at_250 rfl rfl ?_
      refine own_iload X196.here hx hby at_252 rfl ?_
      have f198 := (own_sta_keep f188 K189 all0)
      refine own_virtual X196 hx hZ161 hown161 (own_w hw 199 rfl) (own_w hw 200 rfl) (notFace_of_selects (args := #[]) (mvT hZ161 (own_w hw 202 rfl))) (own_w hw 202 rfl) (own_w hw 201 rfl) (own_w hw 2 rfl) (own_w hw 203 rfl) (by decide) (strChar_0_2 l Z a0 hw [] r_189 tr_189 kr_189 zc fm (p2 &&& (255 : Int32)) (((p2.toUInt32 >>> ((8 : Int32) &&& 31).toUInt32).toInt32) &&& (255 : Int32)) T189.heap n0 z197 P189_1 P189_2 P189_3 P189_4 f195 hz f198 hfm (own_c255 p2).1 (own_c255 p2).2) 0 (Nat.le_of_eq rfl) (by decide) (by decide) (by rw [hml]; rfl) (argsL := [(.int 0)]) (st := []) P189_1 (lenOf pd_28 rfl) rfl rfl (by decide) (by decide) eh196 hby at_254 ?_
      intro T199 v199 L199 X199 hQ199
      obtain ⟨rfl, Nq199, eh199⟩ := hQ199
      have N199 := Fr.app N196 Nq199
      refine own_sh (T := T199) 257 #[.val (.int p1), .val (.int p2), .val (.int p3), .val (.int (p1 &&& (255 : Int32))), .val (.int (((p1.toUInt32 >>> ((8 : Int32) &&& 31).toUInt32).toInt32) &&& (255 : Int32))), .val (.int (p2 &&& (255 : Int32))), .val (.int (((p2.toUInt32 >>> ((8 : Int32) &&& 31).toUInt32).toInt32) &&& (255 : Int32))), .val (.int 0), .val (.int 1), .val (.ref b102), .val (.ref b113), .val (.ref b128), .val (.ref a135), .val (.ref b143), .val (.ref b156), .val (.ref r_189), .val (.int 0), .val (.int 2)] [(.int (p2 &&& (255 : Int32)))] ?_
      refine own_iload X199.here hx hby at_257 rfl ?_
      refine own_icmpNo X199.here hx hby at_259 (teq (show (p2 &&& (255 : Int32)) = (p2 &&& (255 : Int32)) from rfl)).2 ?_
      refine own_aload X199.here hx hby at_262 rfl rfl ?_
      refine own_iload X199.here hx hby at_264 rfl ?_
      refine own_iconst X199.here hx hby at_266 (v := (1 : Int32)) (by decide) ?_
      refine own_iadd X199.here hx hby at_267 (v := (1 : Int32)) (by decide) ?_
      refine own_virtual X199 hx hZ161 hown161 (own_w hw 199 rfl) (own_w hw 200 rfl) (notFace_of_selects (args := #[]) (mvT hZ161 (own_w hw 202 rfl))) (own_w hw 202 rfl) (own_w hw 201 rfl) (own_w hw 2 rfl) (own_w hw 203 rfl) (by decide) (strChar_1_2 l Z a0 hw [] r_189 tr_189 kr_189 zc fm (p2 &&& (255 : Int32)) (((p2.toUInt32 >>> ((8 : Int32) &&& 31).toUInt32).toInt32) &&& (255 : Int32)) T189.heap n0 z197 P189_1 P189_2 P189_3 P189_4 f195 hz f198 hfm (own_c255 ((p2.toUInt32 >>> ((8 : Int32) &&& 31).toUInt32).toInt32)).1 (own_c255 ((p2.toUInt32 >>> ((8 : Int32) &&& 31).toUInt32).toInt32)).2) 0 (Nat.le_of_eq rfl) (by decide) (by decide) (by rw [hml]; rfl) (argsL := [(.int 1)]) (st := []) P189_1 (lenOf pd_28 rfl) rfl rfl (by decide) (by decide) eh199 hby at_268 ?_
      intro T200 v200 L200 X200 hQ200
      obtain ⟨rfl, Nq200, eh200⟩ := hQ200
      have N200 := Fr.app N199 Nq200
      refine own_sh (T := T200) 271 #[.val (.int p1), .val (.int p2), .val (.int p3), .val (.int (p1 &&& (255 : Int32))), .val (.int (((p1.toUInt32 >>> ((8 : Int32) &&& 31).toUInt32).toInt32) &&& (255 : Int32))), .val (.int (p2 &&& (255 : Int32))), .val (.int (((p2.toUInt32 >>> ((8 : Int32) &&& 31).toUInt32).toInt32) &&& (255 : Int32))), .val (.int 0), .val (.int 1), .val (.ref b102), .val (.ref b113), .val (.ref b128), .val (.ref a135), .val (.ref b143), .val (.ref b156), .val (.ref r_189), .val (.int 0), .val (.int 2)] [(.int (((p2.toUInt32 >>> ((8 : Int32) &&& 31).toUInt32).toInt32) &&& (255 : Int32)))] ?_
      refine own_iload X200.here hx hby at_271 rfl ?_
      refine own_icmpYes X200.here hx hby (pc' := 278) at_273 (teq (show (((p2.toUInt32 >>> ((8 : Int32) &&& 31).toUInt32).toInt32) &&& (255 : Int32)) = (((p2.toUInt32 >>> ((8 : Int32) &&& 31).toUInt32).toInt32) &&& (255 : Int32)) from rfl)).1 (by decide) (by decide) ?_
      refine own_iconst X200.here hx hby at_278 (v := (1 : Int32)) (by decide) ?_
      obtain ⟨fs, hr, hrun, hended, hRW⟩ := X200.leaveW hS161 (by rw [eh200]; omega) (v := some (.int 1)) (fun h => by rw [Bd.returns] at h; cases h)
      have hCf : CHr Z consts_1 s.vm s.heap T200.vm T200.heap := by
        rw [hh, eh200]
        exact C192.trans (CHv.at X200 hZ161 hEL C192.1)
      refine own_ret (t := T200.setFrames fs) ?_ ⟨_, hrun, hended, _, _, rfl, ?_, hCf, hRW.1, hRW.2.1, hRW.2.2.1, hRW.2.2.2.mono (by decide) (by decide)⟩
      · exact retN X200 hx (t := .boolean) Bd.returns (by simp) (hb hby at_279) hr
      · show Q_rm0 Z _ _ _ _ _ h0 n0 _ T200.heap _
        rw [eh200]
        exact ⟨rfl, N200, trivial⟩
  · refine own_ifNo Y0.here hx hby at_40 ((if0 _ _).trans (feq hc40_4).1) ?_
    refine own_iconst Y0.here hx hby at_43 (v := (1 : Int32)) (by decide) ?_
    refine own_goto Y0.here hx hby (pc' := 48) at_44 (by decide) (by decide) ?_
    refine own_istore Y0.here hx hby at_48 (l' := #[.val (.int p1), .val (.int p2), .val (.int p3), .val (.int (p1 &&& (255 : Int32))), .val (.int (((p1.toUInt32 >>> ((8 : Int32) &&& 31).toUInt32).toInt32) &&& (255 : Int32))), .val (.int (p2 &&& (255 : Int32))), .val (.int (((p2.toUInt32 >>> ((8 : Int32) &&& 31).toUInt32).toInt32) &&& (255 : Int32))), .val (.int 1), .unset, .unset, .unset, .unset, .unset, .unset, .unset, .unset, .unset, .unset]) rfl ?_
    refine own_iloadN Y0.here hx hby at_50 rfl ?_
    refine own_iconst Y0.here hx hby at_51 (v := (2 : Int32)) (by decide) ?_
    refine own_iand Y0.here hx hby at_52 rfl ?_
    by_cases hc53_201 : (p3 &&& (2 : Int32)) = (0 : Int32)
    · refine own_ifYes Y0.here hx hby (pc' := 60) at_53 ((if0 _ _).trans (teq hc53_201).1) (by decide) (by decide) ?_
      refine own_iconst Y0.here hx hby at_60 (v := (0 : Int32)) (by decide) ?_
      refine own_istore Y0.here hx hby at_61 (l' := #[.val (.int p1), .val (.int p2), .val (.int p3), .val (.int (p1 &&& (255 : Int32))), .val (.int (((p1.toUInt32 >>> ((8 : Int32) &&& 31).toUInt32).toInt32) &&& (255 : Int32))), .val (.int (p2 &&& (255 : Int32))), .val (.int (((p2.toUInt32 >>> ((8 : Int32) &&& 31).toUInt32).toInt32) &&& (255 : Int32))), .val (.int 1), .val (.int 0), .unset, .unset, .unset, .unset, .unset, .unset, .unset, .unset, .unset]) rfl ?_
      refine own_iconst Y0.here hx hby at_63 (v := (2 : Int32)) (by decide) ?_
      refine own_newP Y0 hx hZ (aty := .char) (own_w hw 0 rfl) e0 hby at_64 (by decide) 2 (by decide) (by decide) (by decide) (by decide) (ad := "[C") (by decide) ?_
      intro T202 h202 k202 b202 X202 e202 E202 g202 V202 C202 lt202
      have z203 : h0.size ≤ h202.size := E202.1
      have C204 := C0.trans (CHr.ext E202 C0.1)
      have V205 : Arv Z h202 b202 k202 .char (2 : Int32) [(.int 0), (.int 0)] (.int 0) := V202.pad (pad_rep [] (.int 0) 2)
      refine own_dup X202.here hx hby at_66 rfl ?_
      refine own_iconst X202.here hx hby at_67 (v := (0 : Int32)) (by decide) ?_
      refine own_iloadN X202.here hx hby at_68 rfl ?_
      refine own_castore X202 hx hZ e202 V205 ⟨by decide, by decide⟩ 0 (by decide) (Nat.le_of_ble_eq_true rfl) (w := (.int (p1 &&& (255 : Int32)))) (congrArg Value.int (i2c_mask p1)) hby at_69 N0 (by omega) ?_
      intro T206 h206 lo206 X206 e206 N206 W206 V206 z206
      have V207 : Arv Z h206 b202 k202 .char (2 : Int32) [(.int (p1 &&& (255 : Int32))), (.int 0)] (.int 0) := V206
      have C208 := C204.trans (CHr.wr W206 (Safe.exa hZ.alike C202 (by decide) (by decide)) C204.1)
      refine own_dup X206.here hx hby at_70 rfl ?_
      refine own_iconst X206.here hx hby at_71 (v := (1 : Int32)) (by decide) ?_
      refine own_iload X206.here hx hby at_72 rfl ?_
      refine own_castore X206 hx hZ e206 V207 ⟨by decide, by decide⟩ 1 (by decide) (Nat.le_of_ble_eq_true rfl) (w := (.int (((p1.toUInt32 >>> ((8 : Int32) &&& 31).toUInt32).toInt32) &&& (255 : Int32)))) (congrArg Value.int (i2c_mask ((p1.toUInt32 >>> ((8 : Int32) &&& 31).toUInt32).toInt32))) hby at_74 N206 (by omega) ?_
      intro T209 h209 lo209 X209 e209 N209 W209 V209 z209
      have V210 : Arv Z h209 b202 k202 .char (2 : Int32) [(.int (p1 &&& (255 : Int32))), (.int (((p1.toUInt32 >>> ((8 : Int32) &&& 31).toUInt32).toInt32) &&& (255 : Int32)))] (.int 0) := V209
      have f211 := (C202.wr W206)
      have C212 := C208.trans (CHr.wr W209 (Safe.exa hZ.alike f211 (by decide) (by decide)) C208.1)
      refine own_astore X209.here hx hby at_75 rfl (l' := #[.val (.int p1), .val (.int p2), .val (.int p3), .val (.int (p1 &&& (255 : Int32))), .val (.int (((p1.toUInt32 >>> ((8 : Int32) &&& 31).toUInt32).toInt32) &&& (255 : Int32))), .val (.int (p2 &&& (255 : Int32))), .val (.int (((p2.toUInt32 >>> ((8 : Int32) &&& 31).toUInt32).toInt32) &&& (255 : Int32))), .val (.int 1), .val (.int 0), .val (.ref b202), .unset, .unset, .unset, .unset, .unset, .unset, .unset, .unset]) rfl ?_
      refine own_iconst X209.here hx hby at_77 (v := (3 : Int32)) (by decide) ?_
      refine own_newP X209 hx hZ (aty := .char) (own_w hw 0 rfl) e209 hby at_78 (by decide) 3 (by decide) (by decide) (by decide) (by decide) (ad := "[C") (by decide) ?_
      intro T213 h213 k213 b213 X213 e213 E213 g213 V213 C213 lt213
      have z214 : h209.size ≤ h213.size := E213.1
      have C215 := C212.trans (CHr.ext E213 C212.1)
      have V216 : Arv Z h213 b213 k213 .char (3 : Int32) [(.int 0), (.int 0), (.int 0)] (.int 0) := V213.pad (pad_rep [] (.int 0) 3)
      refine own_dup X213.here hx hby at_80 rfl ?_
      refine own_iconst X213.here hx hby at_81 (v := (0 : Int32)) (by decide) ?_
      refine own_bipush X213.here hx hby at_82 (v := (47 : Int32)) (by decide) ?_
      refine own_castore X213 hx hZ e213 V216 ⟨by decide, by decide⟩ 0 (by decide) (Nat.le_of_ble_eq_true rfl) (w := (.int 47)) rfl hby at_84 N209 (by omega) ?_
      intro T217 h217 lo217 X217 e217 N217 W217 V217 z217
      have V218 : Arv Z h217 b213 k213 .char (3 : Int32) [(.int 47), (.int 0), (.int 0)] (.int 0) := V217
      have C219 := C215.trans (CHr.wr W217 (Safe.exa hZ.alike C213 (by decide) (by decide)) C215.1)
      refine own_dup X217.here hx hby at_85 rfl ?_
      refine own_iconst X217.here hx hby at_86 (v := (1 : Int32)) (by decide) ?_
      refine own_iload X217.here hx hby at_87 rfl ?_
      refine own_castore X217 hx hZ e217 V218 ⟨by decide, by decide⟩ 1 (by decide) (Nat.le_of_ble_eq_true rfl) (w := (.int (p2 &&& (255 : Int32)))) (congrArg Value.int (i2c_mask p2)) hby at_89 N217 (by omega) ?_
      intro T220 h220 lo220 X220 e220 N220 W220 V220 z220
      have V221 : Arv Z h220 b213 k213 .char (3 : Int32) [(.int 47), (.int (p2 &&& (255 : Int32))), (.int 0)] (.int 0) := V220
      have f222 := (C213.wr W217)
      have C223 := C219.trans (CHr.wr W220 (Safe.exa hZ.alike f222 (by decide) (by decide)) C219.1)
      refine own_dup X220.here hx hby at_90 rfl ?_
      refine own_iconst X220.here hx hby at_91 (v := (2 : Int32)) (by decide) ?_
      refine own_iload X220.here hx hby at_92 rfl ?_
      refine own_castore X220 hx hZ e220 V221 ⟨by decide, by decide⟩ 2 (by decide) (Nat.le_of_ble_eq_true rfl) (w := (.int (((p2.toUInt32 >>> ((8 : Int32) &&& 31).toUInt32).toInt32) &&& (255 : Int32)))) (congrArg Value.int (i2c_mask ((p2.toUInt32 >>> ((8 : Int32) &&& 31).toUInt32).toInt32))) hby at_94 N220 (by omega) ?_
      intro T224 h224 lo224 X224 e224 N224 W224 V224 z224
      have V225 : Arv Z h224 b213 k213 .char (3 : Int32) [(.int 47), (.int (p2 &&& (255 : Int32))), (.int (((p2.toUInt32 >>> ((8 : Int32) &&& 31).toUInt32).toInt32) &&& (255 : Int32)))] (.int 0) := V224
      have f226 := (f222.wr W220)
      have C227 := C223.trans (CHr.wr W224 (Safe.exa hZ.alike f226 (by decide) (by decide)) C223.1)
      refine own_astore X224.here hx hby at_95 rfl (l' := #[.val (.int p1), .val (.int p2), .val (.int p3), .val (.int (p1 &&& (255 : Int32))), .val (.int (((p1.toUInt32 >>> ((8 : Int32) &&& 31).toUInt32).toInt32) &&& (255 : Int32))), .val (.int (p2 &&& (255 : Int32))), .val (.int (((p2.toUInt32 >>> ((8 : Int32) &&& 31).toUInt32).toInt32) &&& (255 : Int32))), .val (.int 1), .val (.int 0), .val (.ref b202), .val (.ref b213), .unset, .unset, .unset, .unset, .unset, .unset, .unset]) rfl ?_
      refine own_iconst X224.here hx hby at_97 (v := (1 : Int32)) (by decide) ?_
      refine own_newP X224 hx hZ (aty := .char) (own_w hw 0 rfl) e224 hby at_98 (by decide) 1 (by decide) (by decide) (by decide) (by decide) (ad := "[C") (by decide) ?_
      intro T228 h228 k228 b228 X228 e228 E228 g228 V228 C228 lt228
      have z229 : h224.size ≤ h228.size := E228.1
      have C230 := C227.trans (CHr.ext E228 C227.1)
      have V231 : Arv Z h228 b228 k228 .char (1 : Int32) [(.int 0)] (.int 0) := V228.pad (pad_rep [] (.int 0) 1)
      refine own_dup X228.here hx hby at_100 rfl ?_
      refine own_iconst X228.here hx hby at_101 (v := (0 : Int32)) (by decide) ?_
      refine own_bipush X228.here hx hby at_102 (v := (47 : Int32)) (by decide) ?_
      refine own_castore X228 hx hZ e228 V231 ⟨by decide, by decide⟩ 0 (by decide) (Nat.le_of_ble_eq_true rfl) (w := (.int 47)) rfl hby at_104 N224 (by omega) ?_
      intro T232 h232 lo232 X232 e232 N232 W232 V232 z232
      have V233 : Arv Z h232 b228 k228 .char (1 : Int32) [(.int 47)] (.int 0) := V232
      have C234 := C230.trans (CHr.wr W232 (Safe.exa hZ.alike C228 (by decide) (by decide)) C230.1)
      refine own_astore X232.here hx hby at_105 rfl (l' := #[.val (.int p1), .val (.int p2), .val (.int p3), .val (.int (p1 &&& (255 : Int32))), .val (.int (((p1.toUInt32 >>> ((8 : Int32) &&& 31).toUInt32).toInt32) &&& (255 : Int32))), .val (.int (p2 &&& (255 : Int32))), .val (.int (((p2.toUInt32 >>> ((8 : Int32) &&& 31).toUInt32).toInt32) &&& (255 : Int32))), .val (.int 1), .val (.int 0), .val (.ref b202), .val (.ref b213), .val (.ref b228), .unset, .unset, .unset, .unset, .unset, .unset]) rfl ?_
      refine own_iload X232.here hx hby at_107 rfl ?_
      refine own_ifNo X232.here hx hby at_109 ((if0 _ _).trans (feq (show ¬ ((1 : Int32) = (0 : Int32)) from (by decide))).1) ?_
      refine own_newO X232 hx hZ hown (own_w hw 9 rfl) (own_w hw 3 rfl) (own_w hw 2 rfl) e232 hby at_112 (by decide) (by decide) ?_
      intro T235 h235 b235 X235 e235 E235 g235 A235 D235 lt235
      have z236 : h232.size ≤ h235.size := E235.1
      have C237 := C234.trans (CHr.ext E235 C234.1)
      have F238 : Fld Z h235 b235 "java/lang/String" "value" "[B" .null := D235 (Or.inr (own_w hw 5 rfl)) (ty := (.array .byte)) (by decide)
      have F239 : Fld Z h235 b235 "java/lang/String" "coder" "B" (.int 0) := D235 (Or.inr (own_w hw 6 rfl)) (ty := .byte) (by decide)
      refine own_dup X235.here hx hby at_115 rfl ?_
      refine own_aload X235.here hx hby at_116 rfl rfl ?_
      have f240 := (((((((V210.ext E213).other W217 (own_nn (by omega))).other W220 (own_nn (by omega))).other W224 (own_nn (by omega))).ext E228).other W232 (own_nn (by omega))).ext E235)
      have f241 := ((((((((((S_C.ext E202).wr W206).wr W209).ext E213).wr W217).wr W220).wr W224).ext E228).wr W232).ext E235)
      have z243 : n0 ≤ h235.size := by omega
      have hws_words : ∀ d ∈ StrChars.Road.words, d.before a0 Z = true := fun d hd => hw d ((by decide +kernel : ∀ d ∈ StrChars.Road.words, d ∈ tables_1) d hd)
      refine own_specialB X235 hx hZ rfl hown (own_w hw 10 rfl) (own_w hw 11 rfl) (own_w hw 12 rfl) (by decide) (StrChars.Road.backV (W := 1) hZ hws_words (kI := 4) (own_w hw 3 rfl) (cs := ([(p1 &&& (255 : Int32)), (((p1.toUInt32 >>> ((8 : Int32) &&& 31).toUInt32).toInt32) &&& (255 : Int32))] : List Int32)) (bs := ([(p1 &&& (255 : Int32)), (((p1.toUInt32 >>> ((8 : Int32) &&& 31).toUInt32).toInt32) &&& (255 : Int32))] : List Int32).map (fun c => c.toInt8.toInt32)) (n := 2) (by omega) z243 A235 F238 F239 f240 f241 hz rfl rfl (by decide) (by decide) (own_lS (own_c255 p1) (own_lS (own_c255 ((p1.toUInt32 >>> ((8 : Int32) &&& 31).toUInt32).toInt32)) own_l0)) rfl (by decide) (by decide)) (Nat.le_of_eq rfl) (by rw [hml]; rfl) (argsL := [(.ref b202)]) (st := [(.ref b235)]) (a := b235) (lenOf pd_25 rfl) rfl rfl (by decide) (by decide) e235 hby at_118 ?_
      intro T242 v242 L242 X242 hQ242
      obtain ⟨rfl, Nq242, K242, P242_0, P242_1, t_242, kb_242, P242_2, P242_3, P242_4, P242_5, P242_6⟩ := hQ242
      have N242 := Fr.app N232 Nq242
      have z244 : h235.size ≤ T242.heap.size := K242.1
      have C245 := C237.trans (CHr.keep K242 (sfS (own_safe_null hZ.alike A235 F238) sf0) C237.1)
      have lt246 : T242.heap.size > b235 := P242_0.lt
      have lt247 : T242.heap.size > t_242 := P242_6.lt
      refine own_sh (T := T242) 121 #[.val (.int p1), .val (.int p2), .val (.int p3), .val (.int (p1 &&& (255 : Int32))), .val (.int (((p1.toUInt32 >>> ((8 : Int32) &&& 31).toUInt32).toInt32) &&& (255 : Int32))), .val (.int (p2 &&& (255 : Int32))), .val (.int (((p2.toUInt32 >>> ((8 : Int32) &&& 31).toUInt32).toInt32) &&& (255 : Int32))), .val (.int 1), .val (.int 0), .val (.ref b202), .val (.ref b213), .val (.ref b228), .unset, .unset, .unset, .unset, .unset, .unset] [(.ref b235)] ?_
      refine own_goto X242.here hx hby (pc' := 126) at_121 (by decide) (by decide) ?_
      refine own_astore X242.here hx hby at_126 rfl (l' := #[.val (.int p1), .val (.int p2), .val (.int p3), .val (.int (p1 &&& (255 : Int32))), .val (.int (((p1.toUInt32 >>> ((8 : Int32) &&& 31).toUInt32).toInt32) &&& (255 : Int32))), .val (.int (p2 &&& (255 : Int32))), .val (.int (((p2.toUInt32 >>> ((8 : Int32) &&& 31).toUInt32).toInt32) &&& (255 : Int32))), .val (.int 1), .val (.int 0), .val (.ref b202), .val (.ref b213), .val (.ref b228), .val (.ref b235), .unset, .unset, .unset, .unset, .unset]) rfl ?_
      refine own_iload X242.here hx hby at_128 rfl ?_
      refine own_ifYes X242.here hx hby (pc' := 145) at_130 ((if0 _ _).trans (teq (show (0 : Int32) = (0 : Int32) from (by decide))).1) (by decide) (by decide) ?_
      refine own_newO X242 hx hZ hown (own_w hw 9 rfl) (own_w hw 3 rfl) (own_w hw 2 rfl) rfl hby at_145 (by decide) (by decide) ?_
      intro T248 h248 b248 X248 e248 E248 g248 A248 D248 lt248
      have z249 : T242.heap.size ≤ h248.size := E248.1
      have C250 := C245.trans (CHr.ext E248 C245.1)
      have F251 : Fld Z h248 b248 "java/lang/String" "value" "[B" .null := D248 (Or.inr (own_w hw 5 rfl)) (ty := (.array .byte)) (by decide)
      have F252 : Fld Z h248 b248 "java/lang/String" "coder" "B" (.int 0) := D248 (Or.inr (own_w hw 6 rfl)) (ty := .byte) (by decide)
      refine own_dup X248.here hx hby at_148 rfl ?_
      refine own_aload X248.here hx hby at_149 rfl rfl ?_
      have f253 := (((V233.ext E235).keep K242 (ninS (own_nn (by omega)) nin0)).ext E248)
      have f254 := ((own_sta_keep f241 K242 (allS (own_exa_plain A235) all0)).ext E248)
      have z256 : n0 ≤ h248.size := by omega
      refine own_specialB X248 hx hZ rfl hown (own_w hw 10 rfl) (own_w hw 11 rfl) (own_w hw 12 rfl) (by decide) (StrChars.Road.backV (W := 1) hZ hws_words (kI := 4) (own_w hw 3 rfl) (cs := ([(47 : Int32)] : List Int32)) (bs := ([(47 : Int32)] : List Int32).map (fun c => c.toInt8.toInt32)) (n := 1) (by omega) z256 A248 F251 F252 f253 f254 hz rfl rfl (by decide) (by decide) (own_lS (by decide) own_l0) rfl (by decide) (by decide)) (Nat.le_of_eq rfl) (by rw [hml]; rfl) (argsL := [(.ref b228)]) (st := [(.ref b248)]) (a := b248) (lenOf pd_25 rfl) rfl rfl (by decide) (by decide) e248 hby at_151 ?_
      intro T255 v255 L255 X255 hQ255
      obtain ⟨rfl, Nq255, K255, P255_0, P255_1, t_255, kb_255, P255_2, P255_3, P255_4, P255_5, P255_6⟩ := hQ255
      have N255 := Fr.app N242 Nq255
      have z257 : h248.size ≤ T255.heap.size := K255.1
      have C258 := C250.trans (CHr.keep K255 (sfS (own_safe_null hZ.alike A248 F251) sf0) C250.1)
      have lt259 : T255.heap.size > b248 := P255_0.lt
      have lt260 : T255.heap.size > t_255 := P255_6.lt
      refine own_sh (T := T255) 154 #[.val (.int p1), .val (.int p2), .val (.int p3), .val (.int (p1 &&& (255 : Int32))), .val (.int (((p1.toUInt32 >>> ((8 : Int32) &&& 31).toUInt32).toInt32) &&& (255 : Int32))), .val (.int (p2 &&& (255 : Int32))), .val (.int (((p2.toUInt32 >>> ((8 : Int32) &&& 31).toUInt32).toInt32) &&& (255 : Int32))), .val (.int 1), .val (.int 0), .val (.ref b202), .val (.ref b213), .val (.ref b228), .val (.ref b235), .unset, .unset, .unset, .unset, .unset] [(.ref b248)] ?_
      refine own_astore X255.here hx hby at_154 rfl (l' := #[.val (.int p1), .val (.int p2), .val (.int p3), .val (.int (p1 &&& (255 : Int32))), .val (.int (((p1.toUInt32 >>> ((8 : Int32) &&& 31).toUInt32).toInt32) &&& (255 : Int32))), .val (.int (p2 &&& (255 : Int32))), .val (.int (((p2.toUInt32 >>> ((8 : Int32) &&& 31).toUInt32).toInt32) &&& (255 : Int32))), .val (.int 1), .val (.int 0), .val (.ref b202), .val (.ref b213), .val (.ref b228), .val (.ref b235), .val (.ref b248), .unset, .unset, .unset, .unset]) rfl ?_
      refine own_newO X255 hx hZ hown (own_w hw 33 rfl) (own_w hw 34 rfl) (own_w hw 35 rfl) rfl hby at_156 (by decide) (by decide) ?_
      intro T261 h261 b261 X261 e261 E261 g261 A261 D261 lt261
      have z262 : T255.heap.size ≤ h261.size := E261.1
      have C263 := C258.trans (CHr.ext E261 C258.1)
      have F264 : Fld Z h261 b261 "com/example/undercroft/undercroft/store/UriSpace" "prefix" "Ljava/lang/String;" .null := D261 (Or.inr (own_w hw 47 rfl)) (ty := (.object "java/lang/String")) (by decide)
      have F265 : Fld Z h261 b261 "com/example/undercroft/undercroft/store/UriSpace" "ownSystem" "Ljava/lang/String;" .null := D261 (Or.inr (own_w hw 49 rfl)) (ty := (.object "java/lang/String")) (by decide)
      refine own_dup X261.here hx hby at_159 rfl ?_
      refine own_aload X261.here hx hby at_160 rfl rfl ?_
      have own_wS0 : ∀ a ∈ Bundle.stringAtoms, a.before a0 Z = true := own_wS hw
      refine own_ldcCH X261 hx hZ hEL hown (own_w hw 36 rfl) own_wS0 e261 hS0 (by omega) C263.1 (List.mem_of_getElem? (i := 1) rfl) (vs := [(.int 111), (.int 119), (.int 110)]) (z := (3 : Int32)) ⟨by decide, by decide⟩ (by decide) (by decide) hby at_162 12 (by decide) (by decide) (by decide) (by decide) ?_
      intro a266 T266 h266 kk266 vm266 b266 kb266 X266 e266 E266 hS266 hk266 hZ266 hown266 Ea266 Fc266 Fv266 Va266 la266 lb266 Cn266 ns266
      have z267 : h261.size ≤ h266.size := E266.1
      have C268 := C263.trans Cn266
      have f269 := (((((((((((((f211.wr W209).ext E213).wr W217).wr W220).wr W224).ext E228).wr W232).ext E235).keep K242).ext E248).keep K255).ext E261).ext E266)
      have nl266_b202 := ns266 b202 (Safe.exa hZ266.alike f269 (by decide) (by decide))
      have f270 := (((((((((f226.wr W224).ext E228).wr W232).ext E235).keep K242).ext E248).keep K255).ext E261).ext E266)
      have nl266_b213 := ns266 b213 (Safe.exa hZ266.alike f270 (by decide) (by decide))
      have f271 := (((((((C228.wr W232).ext E235).keep K242).ext E248).keep K255).ext E261).ext E266)
      have nl266_b228 := ns266 b228 (Safe.exa hZ266.alike f271 (by decide) (by decide))
      have sf272 := (Cn266.safe (own_ll (by omega)) (Safe.ext E261 C258.1 (Safe.keep K255 (sfS (own_safe_null hZ.alike A248 F251) sf0) C250.1 (Safe.ext E248 C245.1 (Safe.keep K242 (sfS (own_safe_null hZ.alike A235 F238) sf0) C237.1 (own_safe_null hZ.alike A235 F238))))))
      have nl266_b235 := ns266 b235 sf272
      have sf273 := (Cn266.safe (own_ll (by omega)) (Safe.ext E261 C258.1 (Safe.keep K255 (sfS (own_safe_null hZ.alike A248 F251) sf0) C250.1 (own_safe_null hZ.alike A248 F251))))
      have nl266_b248 := ns266 b248 sf273
      have f274 := (A261.ext E266)
      have nl266_b261 := ns266 b261 (Safe.exa hZ266.alike f274 (by decide) (by decide))
      have sf275 := (Cn266.safe (own_ll (by omega)) (Safe.ext E261 C258.1 (Safe.keep K255 (sfS (own_safe_null hZ.alike A248 F251) sf0) C250.1 (Safe.ext E248 C245.1 (Safe.keep K242 (sfS (own_safe_null hZ.alike A235 F238) sf0) C237.1 (Safe.new (h := h235) (x := t_242) (by omega)))))))
      have nl266_t_242 := ns266 t_242 sf275
      have sf276 := (Cn266.safe (own_ll (by omega)) (Safe.ext E261 C258.1 (Safe.keep K255 (sfS (own_safe_null hZ.alike A248 F251) sf0) C250.1 (Safe.new (h := h248) (x := t_255) (by omega)))))
      have nl266_t_255 := ns266 t_255 sf276
      have lt277 : h266.size > a266 := la266
      have lt278 : h266.size > b266 := lb266
      have f279 := (F264.ext E266)
      have f280 := (F265.ext E266)
      have z282 : n0 ≤ h266.size := by omega
      refine own_special X266 hx hZ266 rfl hown266 (own_w hw 37 rfl) (own_w hw 38 rfl) (own_w hw 35 rfl) (own_w hw 39 rfl) (by decide) (uriInit l Z a0 hw [] b261 b235 a266 h266 n0 z282 f274 (by omega) f279 f280) 1 (Nat.le_of_eq rfl) (by decide) (by decide) (by rw [hml]; rfl) (argsL := [(.ref b235), (.ref a266)]) (st := [(.ref b261)]) (a := b261) (lenOf pd_26 rfl) rfl rfl (by decide) (by decide) e266 hby at_164 ?_
      intro T281 v281 L281 X281 hQ281
      obtain ⟨rfl, Nq281, K281, P281_0, P281_1⟩ := hQ281
      have N281 := Fr.app N255 Nq281
      have z283 : h266.size ≤ T281.heap.size := K281.1
      have C284 := C268.trans (CHr.keep K281 (sfS (Safe.exa hZ266.alike f274 (by decide) (by decide)) sf0) C268.1)
      have lt285 : T281.heap.size > b261 := P281_0.lt
      refine own_sh (T := T281) 167 #[.val (.int p1), .val (.int p2), .val (.int p3), .val (.int (p1 &&& (255 : Int32))), .val (.int (((p1.toUInt32 >>> ((8 : Int32) &&& 31).toUInt32).toInt32) &&& (255 : Int32))), .val (.int (p2 &&& (255 : Int32))), .val (.int (((p2.toUInt32 >>> ((8 : Int32) &&& 31).toUInt32).toInt32) &&& (255 : Int32))), .val (.int 1), .val (.int 0), .val (.ref b202), .val (.ref b213), .val (.ref b228), .val (.ref b235), .val (.ref b248), .unset, .unset, .unset, .unset] [(.ref b261)] ?_
      refine own_astore X281.here hx hby at_167 rfl (l' := #[.val (.int p1), .val (.int p2), .val (.int p3), .val (.int (p1 &&& (255 : Int32))), .val (.int (((p1.toUInt32 >>> ((8 : Int32) &&& 31).toUInt32).toInt32) &&& (255 : Int32))), .val (.int (p2 &&& (255 : Int32))), .val (.int (((p2.toUInt32 >>> ((8 : Int32) &&& 31).toUInt32).toInt32) &&& (255 : Int32))), .val (.int 1), .val (.int 0), .val (.ref b202), .val (.ref b213), .val (.ref b228), .val (.ref b235), .val (.ref b248), .val (.ref b261), .unset, .unset, .unset]) rfl ?_
      refine own_aload X281.here hx hby at_169 rfl rfl ?_
      refine own_aload X281.here hx hby at_171 rfl rfl ?_
      have f286 := (((((P242_0.ext E248).keep K255).ext E261).ext E266).keep K281)
      have f287 := (((((P242_1.ext E248).keep K255 (ninS (own_nn (by omega)) nin0)).ext E261).ext E266).keep K281 (ninS (own_nn (by omega)) nin0))
      have f288 := (((((P242_5.ext E248).keep K255 (ninS (own_nn (by omega)) nin0)).ext E261).ext E266).keep K281 (ninS (own_nn (by omega)) nin0))
      have f289 := (((((P242_6.ext E248).keep K255 (ninS (own_nn (by omega)) nin0)).ext E261).ext E266).keep K281 (ninS (own_nn (by omega)) nin0))
      have f290 := (((P255_0.ext E261).ext E266).keep K281)
      have f291 := (((P255_1.ext E261).ext E266).keep K281 (ninS (own_nn (by omega)) nin0))
      have f292 := (((P255_5.ext E261).ext E266).keep K281 (ninS (own_nn (by omega)) nin0))
      have f293 := (((P255_6.ext E261).ext E266).keep K281 (ninS (own_nn (by omega)) nin0))
      have f294 := (own_sta_keep (((own_sta_keep f254 K255 (allS (own_exa_plain A248) all0)).ext E261).ext E266) K281 (allS (own_exa_plain f274) all0))
      have f295 := (own_sta_keep (((own_sta_keep ((own_sta_keep ((((((((((S_FM.ext E202).wr W206).wr W209).ext E213).wr W217).wr W220).wr W224).ext E228).wr W232).ext E235) K242 (allS (own_exa_plain A235) all0)).ext E248) K255 (allS (own_exa_plain A248) all0)).ext E261).ext E266) K281 (allS (own_exa_plain f274) all0))
      have z297 : n0 ≤ T281.heap.size := by omega
      refine own_virtualH X281 hx hZ266 hEL hown266 (own_w hw 50 rfl) (own_w hw 51 rfl) (notFace_of_selects (args := #[]) (mvT hZ266 (own_w hw 53 rfl))) (own_w hw 53 rfl) (own_w hw 52 rfl) (own_w hw 35 rfl) (own_w hw 54 rfl) (by decide) (uriOf_2_1 l Z a0 hw [] b261 b235 t_242 b248 t_255 kb_242 kb_255 fm zc ((p1 &&& (255 : Int32)).toInt8.toInt32) ((((p1.toUInt32 >>> ((8 : Int32) &&& 31).toUInt32).toInt32) &&& (255 : Int32)).toInt8.toInt32) ((47 : Int32).toInt8.toInt32) T281.heap n0 z297 P281_0 P281_1 f286 f287 f288 f289 f290 f291 f292 f293 f294 hz f295 hfm) 0 (Nat.le_of_eq rfl) (by decide) (by decide) (by rw [hml]; rfl) (argsL := [(.ref b248)]) (st := []) P281_0 (lenOf pd_27 rfl) rfl rfl (by decide) (by decide) rfl hby C284.1 hS266 (by omega) at_173 ?_
      intro T296 v296 L296 vm296 X296 hS296 hZ296 hown296 hg296 Cn296 hQ296
      obtain ⟨r_296, tr_296, kr_296, rfl, Nq296, K296, P296_0, P296_1, P296_2, P296_3, P296_4⟩ := hQ296
      have N296 := Fr.app N281 Nq296
      have z298 : T281.heap.size ≤ T296.heap.size := K296.1
      have C299 := C284.trans Cn296
      have lt300 : T296.heap.size > r_296 := P296_1.lt
      have lt301 : T296.heap.size > tr_296 := P296_4.lt
      refine own_sh (T := T296) 176 #[.val (.int p1), .val (.int p2), .val (.int p3), .val (.int (p1 &&& (255 : Int32))), .val (.int (((p1.toUInt32 >>> ((8 : Int32) &&& 31).toUInt32).toInt32) &&& (255 : Int32))), .val (.int (p2 &&& (255 : Int32))), .val (.int (((p2.toUInt32 >>> ((8 : Int32) &&& 31).toUInt32).toInt32) &&& (255 : Int32))), .val (.int 1), .val (.int 0), .val (.ref b202), .val (.ref b213), .val (.ref b228), .val (.ref b235), .val (.ref b248), .val (.ref b261), .unset, .unset, .unset] [(.ref r_296)] ?_
      refine own_astore X296.here hx hby at_176 rfl (l' := #[.val (.int p1), .val (.int p2), .val (.int p3), .val (.int (p1 &&& (255 : Int32))), .val (.int (((p1.toUInt32 >>> ((8 : Int32) &&& 31).toUInt32).toInt32) &&& (255 : Int32))), .val (.int (p2 &&& (255 : Int32))), .val (.int (((p2.toUInt32 >>> ((8 : Int32) &&& 31).toUInt32).toInt32) &&& (255 : Int32))), .val (.int 1), .val (.int 0), .val (.ref b202), .val (.ref b213), .val (.ref b228), .val (.ref b235), .val (.ref b248), .val (.ref b261), .val (.ref r_296), .unset, .unset]) rfl ?_
      refine own_iload X296.here hx hby at_178 rfl ?_
      refine own_ifNo X296.here hx hby at_180 ((if0 _ _).trans (feq (show ¬ ((1 : Int32) = (0 : Int32)) from (by decide))).1) ?_
      refine own_iconst X296.here hx hby at_183 (v := (2 : Int32)) (by decide) ?_
      refine own_goto X296.here hx hby (pc' := 188) at_184 (by decide) (by decide) ?_
      refine own_istore X296.here hx hby at_188 (l' := #[.val (.int p1), .val (.int p2), .val (.int p3), .val (.int (p1 &&& (255 : Int32))), .val (.int (((p1.toUInt32 >>> ((8 : Int32) &&& 31).toUInt32).toInt32) &&& (255 : Int32))), .val (.int (p2 &&& (255 : Int32))), .val (.int (((p2.toUInt32 >>> ((8 : Int32) &&& 31).toUInt32).toInt32) &&& (255 : Int32))), .val (.int 1), .val (.int 0), .val (.ref b202), .val (.ref b213), .val (.ref b228), .val (.ref b235), .val (.ref b248), .val (.ref b261), .val (.ref r_296), .val (.int 2), .unset]) rfl ?_
      refine own_iload X296.here hx hby at_190 rfl ?_
      refine own_ifYes X296.here hx hby (pc' := 199) at_192 ((if0 _ _).trans (teq (show (0 : Int32) = (0 : Int32) from (by decide))).1) (by decide) (by decide) ?_
      refine own_iconst X296.here hx hby at_199 (v := (0 : Int32)) (by decide) ?_
      refine own_istore X296.here hx hby at_200 (l' := #[.val (.int p1), .val (.int p2), .val (.int p3), .val (.int (p1 &&& (255 : Int32))), .val (.int (((p1.toUInt32 >>> ((8 : Int32) &&& 31).toUInt32).toInt32) &&& (255 : Int32))), .val (.int (p2 &&& (255 : Int32))), .val (.int (((p2.toUInt32 >>> ((8 : Int32) &&& 31).toUInt32).toInt32) &&& (255 : Int32))), .val (.int 1), .val (.int 0), .val (.ref b202), .val (.ref b213), .val (.ref b228), .val (.ref b235), .val (.ref b248), .val (.ref b261), .val (.ref r_296), .val (.int 2), .val (.int 0)]) rfl ?_
      refine own_aload X296.here hx hby at_202 rfl rfl ?_
      have f302 := (own_sta_keep f294 K296 all0)
      have z304 : n0 ≤ T296.heap.size := by omega
      refine own_virtual X296 hx hZ296 hown296 (own_w hw 198 rfl) (own_w hw 84 rfl) (notFace_of_selects (args := #[]) (mvT hZ296 (own_w hw 86 rfl))) (own_w hw 86 rfl) (own_w hw 85 rfl) (own_w hw 2 rfl) (own_w hw 87 rfl) (by decide) (strLen_2 l Z a0 hw [] r_296 tr_296 kr_296 zc ([(.int ((p1 &&& (255 : Int32)).toInt8.toInt32)), (.int ((((p1.toUInt32 >>> ((8 : Int32) &&& 31).toUInt32).toInt32) &&& (255 : Int32)).toInt8.toInt32))]) T296.heap n0 z304 P296_1 P296_2 P296_3 P296_4 f302 hz) 0 (Nat.le_of_eq rfl) (by decide) (by decide) (by rw [hml]; rfl) (argsL := []) (st := []) P296_1 (lenOf pd_5 rfl) rfl rfl (by decide) (by decide) rfl hby at_204 ?_
      intro T303 v303 L303 X303 hQ303
      obtain ⟨rfl, Nq303, eh303⟩ := hQ303
      have N303 := Fr.app N296 Nq303
      refine own_sh (T := T303) 207 #[.val (.int p1), .val (.int p2), .val (.int p3), .val (.int (p1 &&& (255 : Int32))), .val (.int (((p1.toUInt32 >>> ((8 : Int32) &&& 31).toUInt32).toInt32) &&& (255 : Int32))), .val (.int (p2 &&& (255 : Int32))), .val (.int (((p2.toUInt32 >>> ((8 : Int32) &&& 31).toUInt32).toInt32) &&& (255 : Int32))), .val (.int 1), .val (.int 0), .val (.ref b202), .val (.ref b213), .val (.ref b228), .val (.ref b235), .val (.ref b248), .val (.ref b261), .val (.ref r_296), .val (.int 2), .val (.int 0)] [(.int 2)] ?_
      refine own_iload X303.here hx hby at_207 rfl ?_
      refine own_iload X303.here hx hby at_209 rfl ?_
      refine own_iadd X303.here hx hby at_211 (v := (2 : Int32)) (by decide) ?_
      refine own_icmpYes X303.here hx hby (pc' := 217) at_212 (teq (show (2 : Int32) = (2 : Int32) from (by decide))).1 (by decide) (by decide) ?_
      refine own_iload X303.here hx hby at_217 rfl ?_
      refine own_ifNo X303.here hx hby at_219 ((if0 _ _).trans (feq (show ¬ ((1 : Int32) = (0 : Int32)) from (by decide))).1) ?_
      refine own_aload X303.here hx hby at_222 rfl rfl ?_
      refine own_iconst X303.here hx hby at_224 (v := (0 : Int32)) (by decide) ?_
      have f305 := (own_sta_keep f295 K296 all0)
      refine own_virtual X303 hx hZ296 hown296 (own_w hw 199 rfl) (own_w hw 200 rfl) (notFace_of_selects (args := #[]) (mvT hZ296 (own_w hw 202 rfl))) (own_w hw 202 rfl) (own_w hw 201 rfl) (own_w hw 2 rfl) (own_w hw 203 rfl) (by decide) (strChar_0_2 l Z a0 hw [] r_296 tr_296 kr_296 zc fm (p1 &&& (255 : Int32)) (((p1.toUInt32 >>> ((8 : Int32) &&& 31).toUInt32).toInt32) &&& (255 : Int32)) T296.heap n0 z304 P296_1 P296_2 P296_3 P296_4 f302 hz f305 hfm (own_c255 p1).1 (own_c255 p1).2) 0 (Nat.le_of_eq rfl) (by decide) (by decide) (by rw [hml]; rfl) (argsL := [(.int 0)]) (st := []) P296_1 (lenOf pd_28 rfl) rfl rfl (by decide) (by decide) eh303 hby at_225 ?_
      intro T306 v306 L306 X306 hQ306
      obtain ⟨rfl, Nq306, eh306⟩ := hQ306
      have N306 := Fr.app N303 Nq306
      refine own_sh (T := T306) 228 #[.val (.int p1), .val (.int p2), .val (.int p3), .val (.int (p1 &&& (255 : Int32))), .val (.int (((p1.toUInt32 >>> ((8 : Int32) &&& 31).toUInt32).toInt32) &&& (255 : Int32))), .val (.int (p2 &&& (255 : Int32))), .val (.int (((p2.toUInt32 >>> ((8 : Int32) &&& 31).toUInt32).toInt32) &&& (255 : Int32))), .val (.int 1), .val (.int 0), .val (.ref b202), .val (.ref b213), .val (.ref b228), .val (.ref b235), .val (.ref b248), .val (.ref b261), .val (.ref r_296), .val (.int 2), .val (.int 0)] [(.int (p1 &&& (255 : Int32)))] ?_
      refine own_iloadN X306.here hx hby at_228 rfl ?_
      refine own_icmpNo X306.here hx hby at_229 (teq (show (p1 &&& (255 : Int32)) = (p1 &&& (255 : Int32)) from rfl)).2 ?_
      refine own_aload X306.here hx hby at_232 rfl rfl ?_
      refine own_iconst X306.here hx hby at_234 (v := (1 : Int32)) (by decide) ?_
      refine own_virtual X306 hx hZ296 hown296 (own_w hw 199 rfl) (own_w hw 200 rfl) (notFace_of_selects (args := #[]) (mvT hZ296 (own_w hw 202 rfl))) (own_w hw 202 rfl) (own_w hw 201 rfl) (own_w hw 2 rfl) (own_w hw 203 rfl) (by decide) (strChar_1_2 l Z a0 hw [] r_296 tr_296 kr_296 zc fm (p1 &&& (255 : Int32)) (((p1.toUInt32 >>> ((8 : Int32) &&& 31).toUInt32).toInt32) &&& (255 : Int32)) T296.heap n0 z304 P296_1 P296_2 P296_3 P296_4 f302 hz f305 hfm (own_c255 ((p1.toUInt32 >>> ((8 : Int32) &&& 31).toUInt32).toInt32)).1 (own_c255 ((p1.toUInt32 >>> ((8 : Int32) &&& 31).toUInt32).toInt32)).2) 0 (Nat.le_of_eq rfl) (by decide) (by decide) (by rw [hml]; rfl) (argsL := [(.int 1)]) (st := []) P296_1 (lenOf pd_28 rfl) rfl rfl (by decide) (by decide) eh306 hby at_235 ?_
      intro T307 v307 L307 X307 hQ307
      obtain ⟨rfl, Nq307, eh307⟩ := hQ307
      have N307 := Fr.app N306 Nq307
      refine own_sh (T := T307) 238 #[.val (.int p1), .val (.int p2), .val (.int p3), .val (.int (p1 &&& (255 : Int32))), .val (.int (((p1.toUInt32 >>> ((8 : Int32) &&& 31).toUInt32).toInt32) &&& (255 : Int32))), .val (.int (p2 &&& (255 : Int32))), .val (.int (((p2.toUInt32 >>> ((8 : Int32) &&& 31).toUInt32).toInt32) &&& (255 : Int32))), .val (.int 1), .val (.int 0), .val (.ref b202), .val (.ref b213), .val (.ref b228), .val (.ref b235), .val (.ref b248), .val (.ref b261), .val (.ref r_296), .val (.int 2), .val (.int 0)] [(.int (((p1.toUInt32 >>> ((8 : Int32) &&& 31).toUInt32).toInt32) &&& (255 : Int32)))] ?_
      refine own_iload X307.here hx hby at_238 rfl ?_
      refine own_icmpYes X307.here hx hby (pc' := 245) at_240 (teq (show (((p1.toUInt32 >>> ((8 : Int32) &&& 31).toUInt32).toInt32) &&& (255 : Int32)) = (((p1.toUInt32 >>> ((8 : Int32) &&& 31).toUInt32).toInt32) &&& (255 : Int32)) from rfl)).1 (by decide) (by decide) ?_
      refine own_iload X307.here hx hby at_245 rfl ?_
      refine own_ifYes X307.here hx hby (pc' := 278) at_247 ((if0 _ _).trans (teq (show (0 : Int32) = (0 : Int32) from (by decide))).1) (by decide) (by decide) ?_
      refine own_iconst X307.here hx hby at_278 (v := (1 : Int32)) (by decide) ?_
      obtain ⟨fs, hr, hrun, hended, hRW⟩ := X307.leaveW hS296 (by rw [eh307]; omega) (v := some (.int 1)) (fun h => by rw [Bd.returns] at h; cases h)
      have hCf : CHr Z consts_1 s.vm s.heap T307.vm T307.heap := by
        rw [hh, eh307]
        exact C299.trans (CHv.at X307 hZ296 hEL C299.1)
      refine own_ret (t := T307.setFrames fs) ?_ ⟨_, hrun, hended, _, _, rfl, ?_, hCf, hRW.1, hRW.2.1, hRW.2.2.1, hRW.2.2.2.mono (by decide) (by decide)⟩
      · exact retN X307 hx (t := .boolean) Bd.returns (by simp) (hb hby at_279) hr
      · show Q_rm0 Z _ _ _ _ _ h0 n0 _ T307.heap _
        rw [eh307]
        exact ⟨rfl, N307, trivial⟩
    · refine own_ifNo Y0.here hx hby at_53 ((if0 _ _).trans (feq hc53_201).1) ?_
      refine own_iconst Y0.here hx hby at_56 (v := (1 : Int32)) (by decide) ?_
      refine own_goto Y0.here hx hby (pc' := 61) at_57 (by decide) (by decide) ?_
      refine own_istore Y0.here hx hby at_61 (l' := #[.val (.int p1), .val (.int p2), .val (.int p3), .val (.int (p1 &&& (255 : Int32))), .val (.int (((p1.toUInt32 >>> ((8 : Int32) &&& 31).toUInt32).toInt32) &&& (255 : Int32))), .val (.int (p2 &&& (255 : Int32))), .val (.int (((p2.toUInt32 >>> ((8 : Int32) &&& 31).toUInt32).toInt32) &&& (255 : Int32))), .val (.int 1), .val (.int 1), .unset, .unset, .unset, .unset, .unset, .unset, .unset, .unset, .unset]) rfl ?_
      refine own_iconst Y0.here hx hby at_63 (v := (2 : Int32)) (by decide) ?_
      refine own_newP Y0 hx hZ (aty := .char) (own_w hw 0 rfl) e0 hby at_64 (by decide) 2 (by decide) (by decide) (by decide) (by decide) (ad := "[C") (by decide) ?_
      intro T308 h308 k308 b308 X308 e308 E308 g308 V308 C308 lt308
      have z309 : h0.size ≤ h308.size := E308.1
      have C310 := C0.trans (CHr.ext E308 C0.1)
      have V311 : Arv Z h308 b308 k308 .char (2 : Int32) [(.int 0), (.int 0)] (.int 0) := V308.pad (pad_rep [] (.int 0) 2)
      refine own_dup X308.here hx hby at_66 rfl ?_
      refine own_iconst X308.here hx hby at_67 (v := (0 : Int32)) (by decide) ?_
      refine own_iloadN X308.here hx hby at_68 rfl ?_
      refine own_castore X308 hx hZ e308 V311 ⟨by decide, by decide⟩ 0 (by decide) (Nat.le_of_ble_eq_true rfl) (w := (.int (p1 &&& (255 : Int32)))) (congrArg Value.int (i2c_mask p1)) hby at_69 N0 (by omega) ?_
      intro T312 h312 lo312 X312 e312 N312 W312 V312 z312
      have V313 : Arv Z h312 b308 k308 .char (2 : Int32) [(.int (p1 &&& (255 : Int32))), (.int 0)] (.int 0) := V312
      have C314 := C310.trans (CHr.wr W312 (Safe.exa hZ.alike C308 (by decide) (by decide)) C310.1)
      refine own_dup X312.here hx hby at_70 rfl ?_
      refine own_iconst X312.here hx hby at_71 (v := (1 : Int32)) (by decide) ?_
      refine own_iload X312.here hx hby at_72 rfl ?_
      refine own_castore X312 hx hZ e312 V313 ⟨by decide, by decide⟩ 1 (by decide) (Nat.le_of_ble_eq_true rfl) (w := (.int (((p1.toUInt32 >>> ((8 : Int32) &&& 31).toUInt32).toInt32) &&& (255 : Int32)))) (congrArg Value.int (i2c_mask ((p1.toUInt32 >>> ((8 : Int32) &&& 31).toUInt32).toInt32))) hby at_74 N312 (by omega) ?_
      intro T315 h315 lo315 X315 e315 N315 W315 V315 z315
      have V316 : Arv Z h315 b308 k308 .char (2 : Int32) [(.int (p1 &&& (255 : Int32))), (.int (((p1.toUInt32 >>> ((8 : Int32) &&& 31).toUInt32).toInt32) &&& (255 : Int32)))] (.int 0) := V315
      have f317 := (C308.wr W312)
      have C318 := C314.trans (CHr.wr W315 (Safe.exa hZ.alike f317 (by decide) (by decide)) C314.1)
      refine own_astore X315.here hx hby at_75 rfl (l' := #[.val (.int p1), .val (.int p2), .val (.int p3), .val (.int (p1 &&& (255 : Int32))), .val (.int (((p1.toUInt32 >>> ((8 : Int32) &&& 31).toUInt32).toInt32) &&& (255 : Int32))), .val (.int (p2 &&& (255 : Int32))), .val (.int (((p2.toUInt32 >>> ((8 : Int32) &&& 31).toUInt32).toInt32) &&& (255 : Int32))), .val (.int 1), .val (.int 1), .val (.ref b308), .unset, .unset, .unset, .unset, .unset, .unset, .unset, .unset]) rfl ?_
      refine own_iconst X315.here hx hby at_77 (v := (3 : Int32)) (by decide) ?_
      refine own_newP X315 hx hZ (aty := .char) (own_w hw 0 rfl) e315 hby at_78 (by decide) 3 (by decide) (by decide) (by decide) (by decide) (ad := "[C") (by decide) ?_
      intro T319 h319 k319 b319 X319 e319 E319 g319 V319 C319 lt319
      have z320 : h315.size ≤ h319.size := E319.1
      have C321 := C318.trans (CHr.ext E319 C318.1)
      have V322 : Arv Z h319 b319 k319 .char (3 : Int32) [(.int 0), (.int 0), (.int 0)] (.int 0) := V319.pad (pad_rep [] (.int 0) 3)
      refine own_dup X319.here hx hby at_80 rfl ?_
      refine own_iconst X319.here hx hby at_81 (v := (0 : Int32)) (by decide) ?_
      refine own_bipush X319.here hx hby at_82 (v := (47 : Int32)) (by decide) ?_
      refine own_castore X319 hx hZ e319 V322 ⟨by decide, by decide⟩ 0 (by decide) (Nat.le_of_ble_eq_true rfl) (w := (.int 47)) rfl hby at_84 N315 (by omega) ?_
      intro T323 h323 lo323 X323 e323 N323 W323 V323 z323
      have V324 : Arv Z h323 b319 k319 .char (3 : Int32) [(.int 47), (.int 0), (.int 0)] (.int 0) := V323
      have C325 := C321.trans (CHr.wr W323 (Safe.exa hZ.alike C319 (by decide) (by decide)) C321.1)
      refine own_dup X323.here hx hby at_85 rfl ?_
      refine own_iconst X323.here hx hby at_86 (v := (1 : Int32)) (by decide) ?_
      refine own_iload X323.here hx hby at_87 rfl ?_
      refine own_castore X323 hx hZ e323 V324 ⟨by decide, by decide⟩ 1 (by decide) (Nat.le_of_ble_eq_true rfl) (w := (.int (p2 &&& (255 : Int32)))) (congrArg Value.int (i2c_mask p2)) hby at_89 N323 (by omega) ?_
      intro T326 h326 lo326 X326 e326 N326 W326 V326 z326
      have V327 : Arv Z h326 b319 k319 .char (3 : Int32) [(.int 47), (.int (p2 &&& (255 : Int32))), (.int 0)] (.int 0) := V326
      have f328 := (C319.wr W323)
      have C329 := C325.trans (CHr.wr W326 (Safe.exa hZ.alike f328 (by decide) (by decide)) C325.1)
      refine own_dup X326.here hx hby at_90 rfl ?_
      refine own_iconst X326.here hx hby at_91 (v := (2 : Int32)) (by decide) ?_
      refine own_iload X326.here hx hby at_92 rfl ?_
      refine own_castore X326 hx hZ e326 V327 ⟨by decide, by decide⟩ 2 (by decide) (Nat.le_of_ble_eq_true rfl) (w := (.int (((p2.toUInt32 >>> ((8 : Int32) &&& 31).toUInt32).toInt32) &&& (255 : Int32)))) (congrArg Value.int (i2c_mask ((p2.toUInt32 >>> ((8 : Int32) &&& 31).toUInt32).toInt32))) hby at_94 N326 (by omega) ?_
      intro T330 h330 lo330 X330 e330 N330 W330 V330 z330
      have V331 : Arv Z h330 b319 k319 .char (3 : Int32) [(.int 47), (.int (p2 &&& (255 : Int32))), (.int (((p2.toUInt32 >>> ((8 : Int32) &&& 31).toUInt32).toInt32) &&& (255 : Int32)))] (.int 0) := V330
      have f332 := (f328.wr W326)
      have C333 := C329.trans (CHr.wr W330 (Safe.exa hZ.alike f332 (by decide) (by decide)) C329.1)
      refine own_astore X330.here hx hby at_95 rfl (l' := #[.val (.int p1), .val (.int p2), .val (.int p3), .val (.int (p1 &&& (255 : Int32))), .val (.int (((p1.toUInt32 >>> ((8 : Int32) &&& 31).toUInt32).toInt32) &&& (255 : Int32))), .val (.int (p2 &&& (255 : Int32))), .val (.int (((p2.toUInt32 >>> ((8 : Int32) &&& 31).toUInt32).toInt32) &&& (255 : Int32))), .val (.int 1), .val (.int 1), .val (.ref b308), .val (.ref b319), .unset, .unset, .unset, .unset, .unset, .unset, .unset]) rfl ?_
      refine own_iconst X330.here hx hby at_97 (v := (1 : Int32)) (by decide) ?_
      refine own_newP X330 hx hZ (aty := .char) (own_w hw 0 rfl) e330 hby at_98 (by decide) 1 (by decide) (by decide) (by decide) (by decide) (ad := "[C") (by decide) ?_
      intro T334 h334 k334 b334 X334 e334 E334 g334 V334 C334 lt334
      have z335 : h330.size ≤ h334.size := E334.1
      have C336 := C333.trans (CHr.ext E334 C333.1)
      have V337 : Arv Z h334 b334 k334 .char (1 : Int32) [(.int 0)] (.int 0) := V334.pad (pad_rep [] (.int 0) 1)
      refine own_dup X334.here hx hby at_100 rfl ?_
      refine own_iconst X334.here hx hby at_101 (v := (0 : Int32)) (by decide) ?_
      refine own_bipush X334.here hx hby at_102 (v := (47 : Int32)) (by decide) ?_
      refine own_castore X334 hx hZ e334 V337 ⟨by decide, by decide⟩ 0 (by decide) (Nat.le_of_ble_eq_true rfl) (w := (.int 47)) rfl hby at_104 N330 (by omega) ?_
      intro T338 h338 lo338 X338 e338 N338 W338 V338 z338
      have V339 : Arv Z h338 b334 k334 .char (1 : Int32) [(.int 47)] (.int 0) := V338
      have C340 := C336.trans (CHr.wr W338 (Safe.exa hZ.alike C334 (by decide) (by decide)) C336.1)
      refine own_astore X338.here hx hby at_105 rfl (l' := #[.val (.int p1), .val (.int p2), .val (.int p3), .val (.int (p1 &&& (255 : Int32))), .val (.int (((p1.toUInt32 >>> ((8 : Int32) &&& 31).toUInt32).toInt32) &&& (255 : Int32))), .val (.int (p2 &&& (255 : Int32))), .val (.int (((p2.toUInt32 >>> ((8 : Int32) &&& 31).toUInt32).toInt32) &&& (255 : Int32))), .val (.int 1), .val (.int 1), .val (.ref b308), .val (.ref b319), .val (.ref b334), .unset, .unset, .unset, .unset, .unset, .unset]) rfl ?_
      refine own_iload X338.here hx hby at_107 rfl ?_
      refine own_ifNo X338.here hx hby at_109 ((if0 _ _).trans (feq (show ¬ ((1 : Int32) = (0 : Int32)) from (by decide))).1) ?_
      refine own_newO X338 hx hZ hown (own_w hw 9 rfl) (own_w hw 3 rfl) (own_w hw 2 rfl) e338 hby at_112 (by decide) (by decide) ?_
      intro T341 h341 b341 X341 e341 E341 g341 A341 D341 lt341
      have z342 : h338.size ≤ h341.size := E341.1
      have C343 := C340.trans (CHr.ext E341 C340.1)
      have F344 : Fld Z h341 b341 "java/lang/String" "value" "[B" .null := D341 (Or.inr (own_w hw 5 rfl)) (ty := (.array .byte)) (by decide)
      have F345 : Fld Z h341 b341 "java/lang/String" "coder" "B" (.int 0) := D341 (Or.inr (own_w hw 6 rfl)) (ty := .byte) (by decide)
      refine own_dup X341.here hx hby at_115 rfl ?_
      refine own_aload X341.here hx hby at_116 rfl rfl ?_
      have f346 := (((((((V316.ext E319).other W323 (own_nn (by omega))).other W326 (own_nn (by omega))).other W330 (own_nn (by omega))).ext E334).other W338 (own_nn (by omega))).ext E341)
      have f347 := ((((((((((S_C.ext E308).wr W312).wr W315).ext E319).wr W323).wr W326).wr W330).ext E334).wr W338).ext E341)
      have z349 : n0 ≤ h341.size := by omega
      have hws_words : ∀ d ∈ StrChars.Road.words, d.before a0 Z = true := fun d hd => hw d ((by decide +kernel : ∀ d ∈ StrChars.Road.words, d ∈ tables_1) d hd)
      refine own_specialB X341 hx hZ rfl hown (own_w hw 10 rfl) (own_w hw 11 rfl) (own_w hw 12 rfl) (by decide) (StrChars.Road.backV (W := 1) hZ hws_words (kI := 4) (own_w hw 3 rfl) (cs := ([(p1 &&& (255 : Int32)), (((p1.toUInt32 >>> ((8 : Int32) &&& 31).toUInt32).toInt32) &&& (255 : Int32))] : List Int32)) (bs := ([(p1 &&& (255 : Int32)), (((p1.toUInt32 >>> ((8 : Int32) &&& 31).toUInt32).toInt32) &&& (255 : Int32))] : List Int32).map (fun c => c.toInt8.toInt32)) (n := 2) (by omega) z349 A341 F344 F345 f346 f347 hz rfl rfl (by decide) (by decide) (own_lS (own_c255 p1) (own_lS (own_c255 ((p1.toUInt32 >>> ((8 : Int32) &&& 31).toUInt32).toInt32)) own_l0)) rfl (by decide) (by decide)) (Nat.le_of_eq rfl) (by rw [hml]; rfl) (argsL := [(.ref b308)]) (st := [(.ref b341)]) (a := b341) (lenOf pd_25 rfl) rfl rfl (by decide) (by decide) e341 hby at_118 ?_
      intro T348 v348 L348 X348 hQ348
      obtain ⟨rfl, Nq348, K348, P348_0, P348_1, t_348, kb_348, P348_2, P348_3, P348_4, P348_5, P348_6⟩ := hQ348
      have N348 := Fr.app N338 Nq348
      have z350 : h341.size ≤ T348.heap.size := K348.1
      have C351 := C343.trans (CHr.keep K348 (sfS (own_safe_null hZ.alike A341 F344) sf0) C343.1)
      have lt352 : T348.heap.size > b341 := P348_0.lt
      have lt353 : T348.heap.size > t_348 := P348_6.lt
      refine own_sh (T := T348) 121 #[.val (.int p1), .val (.int p2), .val (.int p3), .val (.int (p1 &&& (255 : Int32))), .val (.int (((p1.toUInt32 >>> ((8 : Int32) &&& 31).toUInt32).toInt32) &&& (255 : Int32))), .val (.int (p2 &&& (255 : Int32))), .val (.int (((p2.toUInt32 >>> ((8 : Int32) &&& 31).toUInt32).toInt32) &&& (255 : Int32))), .val (.int 1), .val (.int 1), .val (.ref b308), .val (.ref b319), .val (.ref b334), .unset, .unset, .unset, .unset, .unset, .unset] [(.ref b341)] ?_
      refine own_goto X348.here hx hby (pc' := 126) at_121 (by decide) (by decide) ?_
      refine own_astore X348.here hx hby at_126 rfl (l' := #[.val (.int p1), .val (.int p2), .val (.int p3), .val (.int (p1 &&& (255 : Int32))), .val (.int (((p1.toUInt32 >>> ((8 : Int32) &&& 31).toUInt32).toInt32) &&& (255 : Int32))), .val (.int (p2 &&& (255 : Int32))), .val (.int (((p2.toUInt32 >>> ((8 : Int32) &&& 31).toUInt32).toInt32) &&& (255 : Int32))), .val (.int 1), .val (.int 1), .val (.ref b308), .val (.ref b319), .val (.ref b334), .val (.ref b341), .unset, .unset, .unset, .unset, .unset]) rfl ?_
      refine own_iload X348.here hx hby at_128 rfl ?_
      refine own_ifNo X348.here hx hby at_130 ((if0 _ _).trans (feq (show ¬ ((1 : Int32) = (0 : Int32)) from (by decide))).1) ?_
      refine own_newO X348 hx hZ hown (own_w hw 9 rfl) (own_w hw 3 rfl) (own_w hw 2 rfl) rfl hby at_133 (by decide) (by decide) ?_
      intro T354 h354 b354 X354 e354 E354 g354 A354 D354 lt354
      have z355 : T348.heap.size ≤ h354.size := E354.1
      have C356 := C351.trans (CHr.ext E354 C351.1)
      have F357 : Fld Z h354 b354 "java/lang/String" "value" "[B" .null := D354 (Or.inr (own_w hw 5 rfl)) (ty := (.array .byte)) (by decide)
      have F358 : Fld Z h354 b354 "java/lang/String" "coder" "B" (.int 0) := D354 (Or.inr (own_w hw 6 rfl)) (ty := .byte) (by decide)
      refine own_dup X354.here hx hby at_136 rfl ?_
      refine own_aload X354.here hx hby at_137 rfl rfl ?_
      have f359 := (((((V331.ext E334).other W338 (own_nn (by omega))).ext E341).keep K348 (ninS (own_nn (by omega)) nin0)).ext E354)
      have f360 := ((own_sta_keep f347 K348 (allS (own_exa_plain A341) all0)).ext E354)
      have z362 : n0 ≤ h354.size := by omega
      refine own_specialB X354 hx hZ rfl hown (own_w hw 10 rfl) (own_w hw 11 rfl) (own_w hw 12 rfl) (by decide) (StrChars.Road.backV (W := 1) hZ hws_words (kI := 4) (own_w hw 3 rfl) (cs := ([(47 : Int32), (p2 &&& (255 : Int32)), (((p2.toUInt32 >>> ((8 : Int32) &&& 31).toUInt32).toInt32) &&& (255 : Int32))] : List Int32)) (bs := ([(47 : Int32), (p2 &&& (255 : Int32)), (((p2.toUInt32 >>> ((8 : Int32) &&& 31).toUInt32).toInt32) &&& (255 : Int32))] : List Int32).map (fun c => c.toInt8.toInt32)) (n := 3) (by omega) z362 A354 F357 F358 f359 f360 hz rfl rfl (by decide) (by decide) (own_lS (by decide) (own_lS (own_c255 p2) (own_lS (own_c255 ((p2.toUInt32 >>> ((8 : Int32) &&& 31).toUInt32).toInt32)) own_l0))) rfl (by decide) (by decide)) (Nat.le_of_eq rfl) (by rw [hml]; rfl) (argsL := [(.ref b319)]) (st := [(.ref b354)]) (a := b354) (lenOf pd_25 rfl) rfl rfl (by decide) (by decide) e354 hby at_139 ?_
      intro T361 v361 L361 X361 hQ361
      obtain ⟨rfl, Nq361, K361, P361_0, P361_1, t_361, kb_361, P361_2, P361_3, P361_4, P361_5, P361_6⟩ := hQ361
      have N361 := Fr.app N348 Nq361
      have z363 : h354.size ≤ T361.heap.size := K361.1
      have C364 := C356.trans (CHr.keep K361 (sfS (own_safe_null hZ.alike A354 F357) sf0) C356.1)
      have lt365 : T361.heap.size > b354 := P361_0.lt
      have lt366 : T361.heap.size > t_361 := P361_6.lt
      refine own_sh (T := T361) 142 #[.val (.int p1), .val (.int p2), .val (.int p3), .val (.int (p1 &&& (255 : Int32))), .val (.int (((p1.toUInt32 >>> ((8 : Int32) &&& 31).toUInt32).toInt32) &&& (255 : Int32))), .val (.int (p2 &&& (255 : Int32))), .val (.int (((p2.toUInt32 >>> ((8 : Int32) &&& 31).toUInt32).toInt32) &&& (255 : Int32))), .val (.int 1), .val (.int 1), .val (.ref b308), .val (.ref b319), .val (.ref b334), .val (.ref b341), .unset, .unset, .unset, .unset, .unset] [(.ref b354)] ?_
      refine own_goto X361.here hx hby (pc' := 154) at_142 (by decide) (by decide) ?_
      refine own_astore X361.here hx hby at_154 rfl (l' := #[.val (.int p1), .val (.int p2), .val (.int p3), .val (.int (p1 &&& (255 : Int32))), .val (.int (((p1.toUInt32 >>> ((8 : Int32) &&& 31).toUInt32).toInt32) &&& (255 : Int32))), .val (.int (p2 &&& (255 : Int32))), .val (.int (((p2.toUInt32 >>> ((8 : Int32) &&& 31).toUInt32).toInt32) &&& (255 : Int32))), .val (.int 1), .val (.int 1), .val (.ref b308), .val (.ref b319), .val (.ref b334), .val (.ref b341), .val (.ref b354), .unset, .unset, .unset, .unset]) rfl ?_
      refine own_newO X361 hx hZ hown (own_w hw 33 rfl) (own_w hw 34 rfl) (own_w hw 35 rfl) rfl hby at_156 (by decide) (by decide) ?_
      intro T367 h367 b367 X367 e367 E367 g367 A367 D367 lt367
      have z368 : T361.heap.size ≤ h367.size := E367.1
      have C369 := C364.trans (CHr.ext E367 C364.1)
      have F370 : Fld Z h367 b367 "com/example/undercroft/undercroft/store/UriSpace" "prefix" "Ljava/lang/String;" .null := D367 (Or.inr (own_w hw 47 rfl)) (ty := (.object "java/lang/String")) (by decide)
      have F371 : Fld Z h367 b367 "com/example/undercroft/undercroft/store/UriSpace" "ownSystem" "Ljava/lang/String;" .null := D367 (Or.inr (own_w hw 49 rfl)) (ty := (.object "java/lang/String")) (by decide)
      refine own_dup X367.here hx hby at_159 rfl ?_
      refine own_aload X367.here hx hby at_160 rfl rfl ?_
      have own_wS0 : ∀ a ∈ Bundle.stringAtoms, a.before a0 Z = true := own_wS hw
      refine own_ldcCH X367 hx hZ hEL hown (own_w hw 36 rfl) own_wS0 e367 hS0 (by omega) C369.1 (List.mem_of_getElem? (i := 1) rfl) (vs := [(.int 111), (.int 119), (.int 110)]) (z := (3 : Int32)) ⟨by decide, by decide⟩ (by decide) (by decide) hby at_162 12 (by decide) (by decide) (by decide) (by decide) ?_
      intro a372 T372 h372 kk372 vm372 b372 kb372 X372 e372 E372 hS372 hk372 hZ372 hown372 Ea372 Fc372 Fv372 Va372 la372 lb372 Cn372 ns372
      have z373 : h367.size ≤ h372.size := E372.1
      have C374 := C369.trans Cn372
      have f375 := (((((((((((((f317.wr W315).ext E319).wr W323).wr W326).wr W330).ext E334).wr W338).ext E341).keep K348).ext E354).keep K361).ext E367).ext E372)
      have nl372_b308 := ns372 b308 (Safe.exa hZ372.alike f375 (by decide) (by decide))
      have f376 := (((((((((f332.wr W330).ext E334).wr W338).ext E341).keep K348).ext E354).keep K361).ext E367).ext E372)
      have nl372_b319 := ns372 b319 (Safe.exa hZ372.alike f376 (by decide) (by decide))
      have f377 := (((((((C334.wr W338).ext E341).keep K348).ext E354).keep K361).ext E367).ext E372)
      have nl372_b334 := ns372 b334 (Safe.exa hZ372.alike f377 (by decide) (by decide))
      have sf378 := (Cn372.safe (own_ll (by omega)) (Safe.ext E367 C364.1 (Safe.keep K361 (sfS (own_safe_null hZ.alike A354 F357) sf0) C356.1 (Safe.ext E354 C351.1 (Safe.keep K348 (sfS (own_safe_null hZ.alike A341 F344) sf0) C343.1 (own_safe_null hZ.alike A341 F344))))))
      have nl372_b341 := ns372 b341 sf378
      have sf379 := (Cn372.safe (own_ll (by omega)) (Safe.ext E367 C364.1 (Safe.keep K361 (sfS (own_safe_null hZ.alike A354 F357) sf0) C356.1 (own_safe_null hZ.alike A354 F357))))
      have nl372_b354 := ns372 b354 sf379
      have f380 := (A367.ext E372)
      have nl372_b367 := ns372 b367 (Safe.exa hZ372.alike f380 (by decide) (by decide))
      have sf381 := (Cn372.safe (own_ll (by omega)) (Safe.ext E367 C364.1 (Safe.keep K361 (sfS (own_safe_null hZ.alike A354 F357) sf0) C356.1 (Safe.ext E354 C351.1 (Safe.keep K348 (sfS (own_safe_null hZ.alike A341 F344) sf0) C343.1 (Safe.new (h := h341) (x := t_348) (by omega)))))))
      have nl372_t_348 := ns372 t_348 sf381
      have sf382 := (Cn372.safe (own_ll (by omega)) (Safe.ext E367 C364.1 (Safe.keep K361 (sfS (own_safe_null hZ.alike A354 F357) sf0) C356.1 (Safe.new (h := h354) (x := t_361) (by omega)))))
      have nl372_t_361 := ns372 t_361 sf382
      have lt383 : h372.size > a372 := la372
      have lt384 : h372.size > b372 := lb372
      have f385 := (F370.ext E372)
      have f386 := (F371.ext E372)
      have z388 : n0 ≤ h372.size := by omega
      refine own_special X372 hx hZ372 rfl hown372 (own_w hw 37 rfl) (own_w hw 38 rfl) (own_w hw 35 rfl) (own_w hw 39 rfl) (by decide) (uriInit l Z a0 hw [] b367 b341 a372 h372 n0 z388 f380 (by omega) f385 f386) 1 (Nat.le_of_eq rfl) (by decide) (by decide) (by rw [hml]; rfl) (argsL := [(.ref b341), (.ref a372)]) (st := [(.ref b367)]) (a := b367) (lenOf pd_26 rfl) rfl rfl (by decide) (by decide) e372 hby at_164 ?_
      intro T387 v387 L387 X387 hQ387
      obtain ⟨rfl, Nq387, K387, P387_0, P387_1⟩ := hQ387
      have N387 := Fr.app N361 Nq387
      have z389 : h372.size ≤ T387.heap.size := K387.1
      have C390 := C374.trans (CHr.keep K387 (sfS (Safe.exa hZ372.alike f380 (by decide) (by decide)) sf0) C374.1)
      have lt391 : T387.heap.size > b367 := P387_0.lt
      refine own_sh (T := T387) 167 #[.val (.int p1), .val (.int p2), .val (.int p3), .val (.int (p1 &&& (255 : Int32))), .val (.int (((p1.toUInt32 >>> ((8 : Int32) &&& 31).toUInt32).toInt32) &&& (255 : Int32))), .val (.int (p2 &&& (255 : Int32))), .val (.int (((p2.toUInt32 >>> ((8 : Int32) &&& 31).toUInt32).toInt32) &&& (255 : Int32))), .val (.int 1), .val (.int 1), .val (.ref b308), .val (.ref b319), .val (.ref b334), .val (.ref b341), .val (.ref b354), .unset, .unset, .unset, .unset] [(.ref b367)] ?_
      refine own_astore X387.here hx hby at_167 rfl (l' := #[.val (.int p1), .val (.int p2), .val (.int p3), .val (.int (p1 &&& (255 : Int32))), .val (.int (((p1.toUInt32 >>> ((8 : Int32) &&& 31).toUInt32).toInt32) &&& (255 : Int32))), .val (.int (p2 &&& (255 : Int32))), .val (.int (((p2.toUInt32 >>> ((8 : Int32) &&& 31).toUInt32).toInt32) &&& (255 : Int32))), .val (.int 1), .val (.int 1), .val (.ref b308), .val (.ref b319), .val (.ref b334), .val (.ref b341), .val (.ref b354), .val (.ref b367), .unset, .unset, .unset]) rfl ?_
      refine own_aload X387.here hx hby at_169 rfl rfl ?_
      refine own_aload X387.here hx hby at_171 rfl rfl ?_
      have f392 := (((((P348_0.ext E354).keep K361).ext E367).ext E372).keep K387)
      have f393 := (((((P348_1.ext E354).keep K361 (ninS (own_nn (by omega)) nin0)).ext E367).ext E372).keep K387 (ninS (own_nn (by omega)) nin0))
      have f394 := (((((P348_5.ext E354).keep K361 (ninS (own_nn (by omega)) nin0)).ext E367).ext E372).keep K387 (ninS (own_nn (by omega)) nin0))
      have f395 := (((((P348_6.ext E354).keep K361 (ninS (own_nn (by omega)) nin0)).ext E367).ext E372).keep K387 (ninS (own_nn (by omega)) nin0))
      have f396 := (((P361_0.ext E367).ext E372).keep K387)
      have f397 := (((P361_1.ext E367).ext E372).keep K387 (ninS (own_nn (by omega)) nin0))
      have f398 := (((P361_5.ext E367).ext E372).keep K387 (ninS (own_nn (by omega)) nin0))
      have f399 := (((P361_6.ext E367).ext E372).keep K387 (ninS (own_nn (by omega)) nin0))
      have f400 := (own_sta_keep (((own_sta_keep f360 K361 (allS (own_exa_plain A354) all0)).ext E367).ext E372) K387 (allS (own_exa_plain f380) all0))
      have f401 := (own_sta_keep (((own_sta_keep ((own_sta_keep ((((((((((S_FM.ext E308).wr W312).wr W315).ext E319).wr W323).wr W326).wr W330).ext E334).wr W338).ext E341) K348 (allS (own_exa_plain A341) all0)).ext E354) K361 (allS (own_exa_plain A354) all0)).ext E367).ext E372) K387 (allS (own_exa_plain f380) all0))
      have z403 : n0 ≤ T387.heap.size := by omega
      refine own_virtual X387 hx hZ372 hown372 (own_w hw 50 rfl) (own_w hw 51 rfl) (notFace_of_selects (args := #[]) (mvT hZ372 (own_w hw 53 rfl))) (own_w hw 53 rfl) (own_w hw 52 rfl) (own_w hw 35 rfl) (own_w hw 54 rfl) (by decide) (uriOf_2_3 l Z a0 hw [] b367 b341 t_348 b354 t_361 kb_348 kb_361 fm zc ((p1 &&& (255 : Int32)).toInt8.toInt32) ((((p1.toUInt32 >>> ((8 : Int32) &&& 31).toUInt32).toInt32) &&& (255 : Int32)).toInt8.toInt32) ((47 : Int32).toInt8.toInt32) ((p2 &&& (255 : Int32)).toInt8.toInt32) ((((p2.toUInt32 >>> ((8 : Int32) &&& 31).toUInt32).toInt32) &&& (255 : Int32)).toInt8.toInt32) T387.heap n0 z403 P387_0 P387_1 f392 f393 f394 f395 f396 f397 f398 f399 f400 hz f401 hfm) 0 (Nat.le_of_eq rfl) (by decide) (by decide) (by rw [hml]; rfl) (argsL := [(.ref b354)]) (st := []) P387_0 (lenOf pd_27 rfl) rfl rfl (by decide) (by decide) rfl hby at_173 ?_
      intro T402 v402 L402 X402 hQ402
      obtain ⟨r_402, tr_402, kr_402, rfl, Nq402, K402, P402_0, P402_1, P402_2, P402_3, P402_4⟩ := hQ402
      have N402 := Fr.app N387 Nq402
      have z404 : T387.heap.size ≤ T402.heap.size := K402.1
      have C405 := C390.trans (CHr.keep K402 sf0 C390.1)
      have lt406 : T402.heap.size > r_402 := P402_1.lt
      have lt407 : T402.heap.size > tr_402 := P402_4.lt
      refine own_sh (T := T402) 176 #[.val (.int p1), .val (.int p2), .val (.int p3), .val (.int (p1 &&& (255 : Int32))), .val (.int (((p1.toUInt32 >>> ((8 : Int32) &&& 31).toUInt32).toInt32) &&& (255 : Int32))), .val (.int (p2 &&& (255 : Int32))), .val (.int (((p2.toUInt32 >>> ((8 : Int32) &&& 31).toUInt32).toInt32) &&& (255 : Int32))), .val (.int 1), .val (.int 1), .val (.ref b308), .val (.ref b319), .val (.ref b334), .val (.ref b341), .val (.ref b354), .val (.ref b367), .unset, .unset, .unset] [(.ref r_402)] ?_
      refine own_astore X402.here hx hby at_176 rfl (l' := #[.val (.int p1), .val (.int p2), .val (.int p3), .val (.int (p1 &&& (255 : Int32))), .val (.int (((p1.toUInt32 >>> ((8 : Int32) &&& 31).toUInt32).toInt32) &&& (255 : Int32))), .val (.int (p2 &&& (255 : Int32))), .val (.int (((p2.toUInt32 >>> ((8 : Int32) &&& 31).toUInt32).toInt32) &&& (255 : Int32))), .val (.int 1), .val (.int 1), .val (.ref b308), .val (.ref b319), .val (.ref b334), .val (.ref b341), .val (.ref b354), .val (.ref b367), .val (.ref r_402), .unset, .unset]) rfl ?_
      refine own_iload X402.here hx hby at_178 rfl ?_
      refine own_ifNo X402.here hx hby at_180 ((if0 _ _).trans (feq (show ¬ ((1 : Int32) = (0 : Int32)) from (by decide))).1) ?_
      refine own_iconst X402.here hx hby at_183 (v := (2 : Int32)) (by decide) ?_
      refine own_goto X402.here hx hby (pc' := 188) at_184 (by decide) (by decide) ?_
      refine own_istore X402.here hx hby at_188 (l' := #[.val (.int p1), .val (.int p2), .val (.int p3), .val (.int (p1 &&& (255 : Int32))), .val (.int (((p1.toUInt32 >>> ((8 : Int32) &&& 31).toUInt32).toInt32) &&& (255 : Int32))), .val (.int (p2 &&& (255 : Int32))), .val (.int (((p2.toUInt32 >>> ((8 : Int32) &&& 31).toUInt32).toInt32) &&& (255 : Int32))), .val (.int 1), .val (.int 1), .val (.ref b308), .val (.ref b319), .val (.ref b334), .val (.ref b341), .val (.ref b354), .val (.ref b367), .val (.ref r_402), .val (.int 2), .unset]) rfl ?_
      refine own_iload X402.here hx hby at_190 rfl ?_
      refine own_ifNo X402.here hx hby at_192 ((if0 _ _).trans (feq (show ¬ ((1 : Int32) = (0 : Int32)) from (by decide))).1) ?_
      refine own_iconst X402.here hx hby at_195 (v := (2 : Int32)) (by decide) ?_
      refine own_goto X402.here hx hby (pc' := 200) at_196 (by decide) (by decide) ?_
      refine own_istore X402.here hx hby at_200 (l' := #[.val (.int p1), .val (.int p2), .val (.int p3), .val (.int (p1 &&& (255 : Int32))), .val (.int (((p1.toUInt32 >>> ((8 : Int32) &&& 31).toUInt32).toInt32) &&& (255 : Int32))), .val (.int (p2 &&& (255 : Int32))), .val (.int (((p2.toUInt32 >>> ((8 : Int32) &&& 31).toUInt32).toInt32) &&& (255 : Int32))), .val (.int 1), .val (.int 1), .val (.ref b308), .val (.ref b319), .val (.ref b334), .val (.ref b341), .val (.ref b354), .val (.ref b367), .val (.ref r_402), .val (.int 2), .val (.int 2)]) rfl ?_
      refine own_aload X402.here hx hby at_202 rfl rfl ?_
      have f408 := (own_sta_keep f400 K402 all0)
      have z410 : n0 ≤ T402.heap.size := by omega
      refine own_virtual X402 hx hZ372 hown372 (own_w hw 198 rfl) (own_w hw 84 rfl) (notFace_of_selects (args := #[]) (mvT hZ372 (own_w hw 86 rfl))) (own_w hw 86 rfl) (own_w hw 85 rfl) (own_w hw 2 rfl) (own_w hw 87 rfl) (by decide) (strLen_4 l Z a0 hw [] r_402 tr_402 kr_402 zc ([(.int ((p1 &&& (255 : Int32)).toInt8.toInt32)), (.int ((((p1.toUInt32 >>> ((8 : Int32) &&& 31).toUInt32).toInt32) &&& (255 : Int32)).toInt8.toInt32)), (.int ((p2 &&& (255 : Int32)).toInt8.toInt32)), (.int ((((p2.toUInt32 >>> ((8 : Int32) &&& 31).toUInt32).toInt32) &&& (255 : Int32)).toInt8.toInt32))]) T402.heap n0 z410 P402_1 P402_2 P402_3 P402_4 f408 hz) 0 (Nat.le_of_eq rfl) (by decide) (by decide) (by rw [hml]; rfl) (argsL := []) (st := []) P402_1 (lenOf pd_5 rfl) rfl rfl (by decide) (by decide) rfl hby at_204 ?_
      intro T409 v409 L409 X409 hQ409
      obtain ⟨rfl, Nq409, eh409⟩ := hQ409
      have N409 := Fr.app N402 Nq409
      refine own_sh (T := T409) 207 #[.val (.int p1), .val (.int p2), .val (.int p3), .val (.int (p1 &&& (255 : Int32))), .val (.int (((p1.toUInt32 >>> ((8 : Int32) &&& 31).toUInt32).toInt32) &&& (255 : Int32))), .val (.int (p2 &&& (255 : Int32))), .val (.int (((p2.toUInt32 >>> ((8 : Int32) &&& 31).toUInt32).toInt32) &&& (255 : Int32))), .val (.int 1), .val (.int 1), .val (.ref b308), .val (.ref b319), .val (.ref b334), .val (.ref b341), .val (.ref b354), .val (.ref b367), .val (.ref r_402), .val (.int 2), .val (.int 2)] [(.int 4)] ?_
      refine own_iload X409.here hx hby at_207 rfl ?_
      refine own_iload X409.here hx hby at_209 rfl ?_
      refine own_iadd X409.here hx hby at_211 (v := (4 : Int32)) (by decide) ?_
      refine own_icmpYes X409.here hx hby (pc' := 217) at_212 (teq (show (4 : Int32) = (4 : Int32) from (by decide))).1 (by decide) (by decide) ?_
      refine own_iload X409.here hx hby at_217 rfl ?_
      refine own_ifNo X409.here hx hby at_219 ((if0 _ _).trans (feq (show ¬ ((1 : Int32) = (0 : Int32)) from (by decide))).1) ?_
      refine own_aload X409.here hx hby at_222 rfl rfl ?_
      refine own_iconst X409.here hx hby at_224 (v := (0 : Int32)) (by decide) ?_
      have f411 := (own_sta_keep f401 K402 all0)
      refine own_virtual X409 hx hZ372 hown372 (own_w hw 199 rfl) (own_w hw 200 rfl) (notFace_of_selects (args := #[]) (mvT hZ372 (own_w hw 202 rfl))) (own_w hw 202 rfl) (own_w hw 201 rfl) (own_w hw 2 rfl) (own_w hw 203 rfl) (by decide) (strChar_0_4 l Z a0 hw [] r_402 tr_402 kr_402 zc fm (p1 &&& (255 : Int32)) (((p1.toUInt32 >>> ((8 : Int32) &&& 31).toUInt32).toInt32) &&& (255 : Int32)) (p2 &&& (255 : Int32)) (((p2.toUInt32 >>> ((8 : Int32) &&& 31).toUInt32).toInt32) &&& (255 : Int32)) T402.heap n0 z410 P402_1 P402_2 P402_3 P402_4 f408 hz f411 hfm (own_c255 p1).1 (own_c255 p1).2) 0 (Nat.le_of_eq rfl) (by decide) (by decide) (by rw [hml]; rfl) (argsL := [(.int 0)]) (st := []) P402_1 (lenOf pd_28 rfl) rfl rfl (by decide) (by decide) eh409 hby at_225 ?_
      intro T412 v412 L412 X412 hQ412
      obtain ⟨rfl, Nq412, eh412⟩ := hQ412
      have N412 := Fr.app N409 Nq412
      refine own_sh (T := T412) 228 #[.val (.int p1), .val (.int p2), .val (.int p3), .val (.int (p1 &&& (255 : Int32))), .val (.int (((p1.toUInt32 >>> ((8 : Int32) &&& 31).toUInt32).toInt32) &&& (255 : Int32))), .val (.int (p2 &&& (255 : Int32))), .val (.int (((p2.toUInt32 >>> ((8 : Int32) &&& 31).toUInt32).toInt32) &&& (255 : Int32))), .val (.int 1), .val (.int 1), .val (.ref b308), .val (.ref b319), .val (.ref b334), .val (.ref b341), .val (.ref b354), .val (.ref b367), .val (.ref r_402), .val (.int 2), .val (.int 2)] [(.int (p1 &&& (255 : Int32)))] ?_
      refine own_iloadN X412.here hx hby at_228 rfl ?_
      refine own_icmpNo X412.here hx hby at_229 (teq (show (p1 &&& (255 : Int32)) = (p1 &&& (255 : Int32)) from rfl)).2 ?_
      refine own_aload X412.here hx hby at_232 rfl rfl ?_
      refine own_iconst X412.here hx hby at_234 (v := (1 : Int32)) (by decide) ?_
      refine own_virtual X412 hx hZ372 hown372 (own_w hw 199 rfl) (own_w hw 200 rfl) (notFace_of_selects (args := #[]) (mvT hZ372 (own_w hw 202 rfl))) (own_w hw 202 rfl) (own_w hw 201 rfl) (own_w hw 2 rfl) (own_w hw 203 rfl) (by decide) (strChar_1_4 l Z a0 hw [] r_402 tr_402 kr_402 zc fm (p1 &&& (255 : Int32)) (((p1.toUInt32 >>> ((8 : Int32) &&& 31).toUInt32).toInt32) &&& (255 : Int32)) (p2 &&& (255 : Int32)) (((p2.toUInt32 >>> ((8 : Int32) &&& 31).toUInt32).toInt32) &&& (255 : Int32)) T402.heap n0 z410 P402_1 P402_2 P402_3 P402_4 f408 hz f411 hfm (own_c255 ((p1.toUInt32 >>> ((8 : Int32) &&& 31).toUInt32).toInt32)).1 (own_c255 ((p1.toUInt32 >>> ((8 : Int32) &&& 31).toUInt32).toInt32)).2) 0 (Nat.le_of_eq rfl) (by decide) (by decide) (by rw [hml]; rfl) (argsL := [(.int 1)]) (st := []) P402_1 (lenOf pd_28 rfl) rfl rfl (by decide) (by decide) eh412 hby at_235 ?_
      intro T413 v413 L413 X413 hQ413
      obtain ⟨rfl, Nq413, eh413⟩ := hQ413
      have N413 := Fr.app N412 Nq413
      refine own_sh (T := T413) 238 #[.val (.int p1), .val (.int p2), .val (.int p3), .val (.int (p1 &&& (255 : Int32))), .val (.int (((p1.toUInt32 >>> ((8 : Int32) &&& 31).toUInt32).toInt32) &&& (255 : Int32))), .val (.int (p2 &&& (255 : Int32))), .val (.int (((p2.toUInt32 >>> ((8 : Int32) &&& 31).toUInt32).toInt32) &&& (255 : Int32))), .val (.int 1), .val (.int 1), .val (.ref b308), .val (.ref b319), .val (.ref b334), .val (.ref b341), .val (.ref b354), .val (.ref b367), .val (.ref r_402), .val (.int 2), .val (.int 2)] [(.int (((p1.toUInt32 >>> ((8 : Int32) &&& 31).toUInt32).toInt32) &&& (255 : Int32)))] ?_
      refine own_iload X413.here hx hby at_238 rfl ?_
      refine own_icmpYes X413.here hx hby (pc' := 245) at_240 (teq (show (((p1.toUInt32 >>> ((8 : Int32) &&& 31).toUInt32).toInt32) &&& (255 : Int32)) = (((p1.toUInt32 >>> ((8 : Int32) &&& 31).toUInt32).toInt32) &&& (255 : Int32)) from rfl)).1 (by decide) (by decide) ?_
      refine own_iload X413.here hx hby at_245 rfl ?_
      refine own_ifNo X413.here hx hby at_247 ((if0 _ _).trans (feq (show ¬ ((1 : Int32) = (0 : Int32)) from (by decide))).1) ?_
      refine own_aload X413.here hx hby at_250 rfl rfl ?_
      refine own_iload X413.here hx hby at_252 rfl ?_
      refine own_virtual X413 hx hZ372 hown372 (own_w hw 199 rfl) (own_w hw 200 rfl) (notFace_of_selects (args := #[]) (mvT hZ372 (own_w hw 202 rfl))) (own_w hw 202 rfl) (own_w hw 201 rfl) (own_w hw 2 rfl) (own_w hw 203 rfl) (by decide) (strChar_2_4 l Z a0 hw [] r_402 tr_402 kr_402 zc fm (p1 &&& (255 : Int32)) (((p1.toUInt32 >>> ((8 : Int32) &&& 31).toUInt32).toInt32) &&& (255 : Int32)) (p2 &&& (255 : Int32)) (((p2.toUInt32 >>> ((8 : Int32) &&& 31).toUInt32).toInt32) &&& (255 : Int32)) T402.heap n0 z410 P402_1 P402_2 P402_3 P402_4 f408 hz f411 hfm (own_c255 p2).1 (own_c255 p2).2) 0 (Nat.le_of_eq rfl) (by decide) (by decide) (by rw [hml]; rfl) (argsL := [(.int 2)]) (st := []) P402_1 (lenOf pd_28 rfl) rfl rfl (by decide) (by decide) eh413 hby at_254 ?_
      intro T414 v414 L414 X414 hQ414
      obtain ⟨rfl, Nq414, eh414⟩ := hQ414
      have N414 := Fr.app N413 Nq414
      refine own_sh (T := T414) 257 #[.val (.int p1), .val (.int p2), .val (.int p3), .val (.int (p1 &&& (255 : Int32))), .val (.int (((p1.toUInt32 >>> ((8 : Int32) &&& 31).toUInt32).toInt32) &&& (255 : Int32))), .val (.int (p2 &&& (255 : Int32))), .val (.int (((p2.toUInt32 >>> ((8 : Int32) &&& 31).toUInt32).toInt32) &&& (255 : Int32))), .val (.int 1), .val (.int 1), .val (.ref b308), .val (.ref b319), .val (.ref b334), .val (.ref b341), .val (.ref b354), .val (.ref b367), .val (.ref r_402), .val (.int 2), .val (.int 2)] [(.int (p2 &&& (255 : Int32)))] ?_
      refine own_iload X414.here hx hby at_257 rfl ?_
      refine own_icmpNo X414.here hx hby at_259 (teq (show (p2 &&& (255 : Int32)) = (p2 &&& (255 : Int32)) from rfl)).2 ?_
      refine own_aload X414.here hx hby at_262 rfl rfl ?_
      refine own_iload X414.here hx hby at_264 rfl ?_
      refine own_iconst X414.here hx hby at_266 (v := (1 : Int32)) (by decide) ?_
      refine own_iadd X414.here hx hby at_267 (v := (3 : Int32)) (by decide) ?_
      refine own_virtual X414 hx hZ372 hown372 (own_w hw 199 rfl) (own_w hw 200 rfl) (notFace_of_selects (args := #[]) (mvT hZ372 (own_w hw 202 rfl))) (own_w hw 202 rfl) (own_w hw 201 rfl) (own_w hw 2 rfl) (own_w hw 203 rfl) (by decide) (strChar_3_4 l Z a0 hw [] r_402 tr_402 kr_402 zc fm (p1 &&& (255 : Int32)) (((p1.toUInt32 >>> ((8 : Int32) &&& 31).toUInt32).toInt32) &&& (255 : Int32)) (p2 &&& (255 : Int32)) (((p2.toUInt32 >>> ((8 : Int32) &&& 31).toUInt32).toInt32) &&& (255 : Int32)) T402.heap n0 z410 P402_1 P402_2 P402_3 P402_4 f408 hz f411 hfm (own_c255 ((p2.toUInt32 >>> ((8 : Int32) &&& 31).toUInt32).toInt32)).1 (own_c255 ((p2.toUInt32 >>> ((8 : Int32) &&& 31).toUInt32).toInt32)).2) 0 (Nat.le_of_eq rfl) (by decide) (by decide) (by rw [hml]; rfl) (argsL := [(.int 3)]) (st := []) P402_1 (lenOf pd_28 rfl) rfl rfl (by decide) (by decide) eh414 hby at_268 ?_
      intro T415 v415 L415 X415 hQ415
      obtain ⟨rfl, Nq415, eh415⟩ := hQ415
      have N415 := Fr.app N414 Nq415
      refine own_sh (T := T415) 271 #[.val (.int p1), .val (.int p2), .val (.int p3), .val (.int (p1 &&& (255 : Int32))), .val (.int (((p1.toUInt32 >>> ((8 : Int32) &&& 31).toUInt32).toInt32) &&& (255 : Int32))), .val (.int (p2 &&& (255 : Int32))), .val (.int (((p2.toUInt32 >>> ((8 : Int32) &&& 31).toUInt32).toInt32) &&& (255 : Int32))), .val (.int 1), .val (.int 1), .val (.ref b308), .val (.ref b319), .val (.ref b334), .val (.ref b341), .val (.ref b354), .val (.ref b367), .val (.ref r_402), .val (.int 2), .val (.int 2)] [(.int (((p2.toUInt32 >>> ((8 : Int32) &&& 31).toUInt32).toInt32) &&& (255 : Int32)))] ?_
      refine own_iload X415.here hx hby at_271 rfl ?_
      refine own_icmpYes X415.here hx hby (pc' := 278) at_273 (teq (show (((p2.toUInt32 >>> ((8 : Int32) &&& 31).toUInt32).toInt32) &&& (255 : Int32)) = (((p2.toUInt32 >>> ((8 : Int32) &&& 31).toUInt32).toInt32) &&& (255 : Int32)) from rfl)).1 (by decide) (by decide) ?_
      refine own_iconst X415.here hx hby at_278 (v := (1 : Int32)) (by decide) ?_
      obtain ⟨fs, hr, hrun, hended, hRW⟩ := X415.leaveW hS372 (by rw [eh415]; omega) (v := some (.int 1)) (fun h => by rw [Bd.returns] at h; cases h)
      have hCf : CHr Z consts_1 s.vm s.heap T415.vm T415.heap := by
        rw [hh, eh415]
        exact C405.trans (CHv.at X415 hZ372 hEL C405.1)
      refine own_ret (t := T415.setFrames fs) ?_ ⟨_, hrun, hended, _, _, rfl, ?_, hCf, hRW.1, hRW.2.1, hRW.2.2.1, hRW.2.2.2.mono (by decide) (by decide)⟩
      · exact retN X415 hx (t := .boolean) Bd.returns (by simp) (hb hby at_279) hr
      · show Q_rm0 Z _ _ _ _ _ h0 n0 _ T415.heap _
        rw [eh415]
        exact ⟨rfl, N415, trivial⟩
set_option maxRecDepth 65536 in
set_option maxHeartbeats 40000000 in
theorem comes_1 {Post : Tables → Env → Array Value → State → Outcome → State → Prop} (hpost : ∀ tb e args s v u, (limb_1_1.after args s (.returned v) u = true ∧ limb_1_2.after args s (.returned v) u = true ∧ True) → ReturnedEndW s (.returned v) u (Jvm.fieldLocs frame_1_writes args s ++ Jvm.arrayLocs frame_1_arrays args s ++ Jvm.staticLocs frame_1_statics s) 48 3264 → Post tb e args s (.returned v) u) :
    ArmFor flags0 classFile x code maxLocals ret World_1 tables_1 room_1 Calls_1 rest_1 Pre_1 Post := by
  intro l hfl _ _ p e ha hc hk s m args below hf hA hF happ hP
  obtain ⟨hcalls, hrest, hpre⟩ := hP
  obtain ⟨-, -, -, hnamed, -, -, -, hat⟩ := (Spec.applies_iff hf).mp happ
  obtain ⟨hg, hn⟩ := and_e (Cond.before_iff.mp (show (Jvm.Cond.and given_1 narrow_1).before args s = true from hpre))
  obtain ⟨g1, g2⟩ := and_e hg
  obtain ⟨g3, g4⟩ := and_e g2
  obtain ⟨g5, g6⟩ := and_e g4
  obtain ⟨w0, w1, w2, rfl⟩ : ∃ w0 w1 w2 : Value, args = #[w0, w1, w2] := by
    have hs : args.size = 3 := by simpa [Cond.value, given_1] using g1
    obtain ⟨L⟩ := args
    match L, hs with
    | [w0, w1, w2], _ => exact ⟨w0, w1, w2, rfl⟩
  have hw := fun d (hd : d ∈ tables_1) => atoms_spec (ws := Jvm.Cond.code x code maxLocals ret :: tables_1) hat d (List.mem_cons_of_mem _ hd)
  have hfit : Fit s := fun {y c} hc i hi => by
    obtain ⟨ha, rfl⟩ := Array.getElem?_eq_some_iff.mp hc
    have q := List.all_eq_true.mp ((Array.all_eq_true_iff_forall_mem.mp hF) _ (Array.getElem_mem ha)) i (List.mem_range.mpr hi)
    simpa [Array.getElem?_eq_getElem hi] using q
  obtain ⟨hsets, hown0⟩ := atoms_of _ (rest_1_c_eq ▸ (show rest_1_c.before _ s = true from hrest))
  have hr0 := Cond.before_iff.mp hown0
  obtain ⟨i0, ei0⟩ := is_v g3
  obtain rfl : w0 = (.int i0) := Option.some.inj ei0
  obtain ⟨i1, ei1⟩ := is_v g5
  obtain rfl : w1 = (.int i1) := Option.some.inj ei1
  obtain ⟨i2, ei2⟩ := is_v g6
  obtain rfl : w2 = (.int i2) := Option.some.inj ei2
  have hCS := Cond.before_iff.mp (hsets _ (List.mem_of_getElem? (i := 1) rfl))
  obtain ⟨zC, evC⟩ := is_v hCS
  have StC := Sta.start evC (Or.inl (hsets _ (List.mem_of_getElem? (i := 0) rfl)))
  have hzC : ¬ (zC = (0 : Int32)) := fun e => by
    have q := not_v (Cond.before_iff.mp (hsets _ (List.mem_of_getElem? (i := 2) rfl)))
    have r := eq_i evC (Term.int_eval (0)) (by rw [e])
    exact absurd (q.symm.trans r) (by decide)
  obtain ⟨fM, evF, hfM⟩ := isR_v (Cond.before_iff.mp (hsets _ (List.mem_of_getElem? (i := 8) rfl)))
  have StF := Sta.start evF (Or.inl (hsets _ (List.mem_of_getElem? (i := 7) rfl)))
  have CHs : CHv s consts_1 s.vm s.heap := CHv.start (own_EW hw) (fun p hp => hcalls.1 p hp) (hsets _ (List.mem_of_getElem? (i := 2) rfl)) (own_w hw 4 rfl) (own_w hw 3 rfl)
  obtain ⟨n, o, h1, h2, h3, _, L, rfl, ⟨rfl, N, -⟩, -, hq⟩ := rm0 l s _ hw tables_1 i0 i1 i2 zC fM s.heap s.heap.size (Nat.le_refl _) StC hzC StF hfM p e ha hc hk s m _ below hf ((Spec.applies_iff_loose hf).mp happ).1 ⟨rfl, State.Warmed39.refl s, rfl, CHs⟩ trivial
  refine ⟨n, _, h1, h2, h3, hpost _ _ _ _ _ _ ⟨Cond.after_iff.mpr rfl, Cond.after_iff.mpr (eq_i res_at (Term.int_eval (1)) rfl), trivial⟩ ⟨hq.1, hq.2.1, hq.2.2.1, (hq.2.2.2.sift fun y hy => Or.inr (N y hy)).mono (by decide) (by decide)⟩⟩
theorem main_1_1 : Claimed_1_1 := comes_1 fun _ _ _ _ _ _ h hF => ⟨h.1, hF⟩
theorem main_1_2 : Claimed_1_2 := comes_1 fun _ _ _ _ _ _ h hF => ⟨h.2.1, hF⟩
end Jvm.Pilot.@@N@@
namespace Jvm.Pilot.@@N@@
open Jvm Jvm.ClassFile Sem Op Lib Jvm.Free Jvm.Stand Jvm.Pilot.@@N@@.Jvm.D
/-! MADE BY PROGRAM (witnessworld.py) out of the Statement's table words and the real class files: 27 classes; the members and pool entries that the words name. The judged class is class 1, her method 1. -/
namespace start1
open Jvm.ClassFile
def u (s : String) : CpInfo := .utf8 (stringToUtf16 s)
/-- a pool by its gaps: so many unusable entries, then the entry; so many at the end -/
def gap : Nat → List CpInfo → List CpInfo
  | 0, r => r
  | n + 1, r => .unusable :: gap n r
def poolList (es : List (Nat × CpInfo)) (last : Nat) : List CpInfo := es.foldr (fun e r => gap e.1 (e.2 :: r)) (gap last [])
def pool (es : List (Nat × CpInfo)) (last : Nat) : Array CpInfo := ⟨poolList es last⟩
def fileOf (pool : Array CpInfo) (this : Nat) (attrs : Array Attribute := #[]) (ms : Array MethodInfo := #[]) (fl : Nat := 33) (sup : Nat := 0) (ifs : Array Nat := #[]) (fds : Array FieldInfo := #[]) : ClassFile where
  minorVersion := 0
  majorVersion := 65
  constantPool := pool
  accessFlags := fl
  thisClass := this
  superClass := sup
  interfaces := ifs
  fields := fds
  methods := ms
  attributes := attrs
def plain (name : String) (sup : Option ClassId) : Class where
  name := name
  kind := .ordinary
  loader := none
  accessFlags := 33
  super := sup
  interfaces := #[]
  cf := none
  fields := #[]
  methods := #[]
  instanceTypes := #[]
  staticTypes := #[]
  resolved := #[]
  callSites := []
  init := .initialized
  statics := none
  mirror := none

def pool0 : Array CpInfo := pool [(5, u "<init>"), (0, u "()V"), (1, .class_ 10), (1, u "java/lang/Object")] 113

def k0c0 : Code := { maxStack := 0, maxLocals := 1, code := object_method_1_code, exceptionTable := #[], attributes := #[] }
def k0m0 : Method := { name := "<init>", desc := "()V", sig := { parameters := [], returnType := none }, accessFlags := 1, code := some k0c0 }
/-- java/lang/Object -/
def k0 : Class := { plain "java/lang/Object" none with
  accessFlags := 33
  interfaces := #[]
  cf := some (fileOf pool0 8 #[] #[{ accessFlags := 1, nameIndex := 5, descriptorIndex := 6, attributes := #[] }] 33 0 #[] #[])
  fields := #[]
  methods := #[k0m0]
  instanceTypes := #[]
  staticTypes := #[]
  resolved := Array.replicate 124 none
  statics := none }

def pool1 : Array CpInfo := pool [(2, .class_ 4), (1, u "java/lang/Object"), (0, u "<init>"), (0, u "()V"), (0, .class_ 8), (0, u "java/lang/String"), (0, .methodref 7 10), (0, .nameAndType 5 11), (0, u "([C)V"), (0, .string 13), (0, u ""), (0, .class_ 15), (0, u "com/example/undercroft/undercroft/store/UriSpace"), (0, .string 17), (0, u "own"), (0, .methodref 14 19), (0, .nameAndType 5 20), (0, u "(Ljava/lang/String;Ljava/lang/String;)V"), (0, .methodref 14 22), (0, .nameAndType 23 24), (0, u "uriOfPath"), (0, u "(Ljava/lang/String;)Ljava/lang/String;"), (0, .methodref 7 26), (0, .nameAndType 27 28), (0, u "length"), (0, u "()I"), (0, .methodref 7 30), (0, .nameAndType 31 32), (0, u "charAt"), (0, u "(I)C"), (0, .class_ 34), (0, u "com/example/undercroft/undercroft/store/UriSpaceUriOfPathPinLaw"), (2, u "law"), (0, u "(III)Z")] 5

def k1m0 : Method := { name := "<init>", desc := "()V", sig := { parameters := [], returnType := none }, accessFlags := 1, code := none }
def k1c1 : Code := { maxStack := 4, maxLocals := 18, code := code, exceptionTable := #[], attributes := #[] }
def k1m1 : Method := { name := "law", desc := "(III)Z", sig := { parameters := [.int, .int, .int], returnType := some .boolean }, accessFlags := 9, code := some k1c1 }
/-- com/example/undercroft/undercroft/store/UriSpaceUriOfPathPinLaw -/
def k1 : Class := { plain "com/example/undercroft/undercroft/store/UriSpaceUriOfPathPinLaw" (some 0) with
  accessFlags := 49
  interfaces := #[]
  cf := some (fileOf pool1 33 #[] #[{ accessFlags := 1, nameIndex := 5, descriptorIndex := 6, attributes := #[] }, { accessFlags := 9, nameIndex := 37, descriptorIndex := 38, attributes := #[] }] 49 2 #[] #[])
  fields := #[]
  methods := #[k1m0, k1m1]
  instanceTypes := #[]
  staticTypes := #[]
  resolved := Array.replicate 44 none
  statics := none }

def pool2 : Array CpInfo := pool [(1, .class_ 2), (0, u "java/io/Serializable"), (0, .class_ 4), (0, u "java/lang/Object")] 2

/-- java/io/Serializable -/
def k2 : Class := { plain "java/io/Serializable" (some 0) with
  accessFlags := 1537
  interfaces := #[]
  cf := some (fileOf pool2 1 #[] #[] 1537 3 #[] #[])
  fields := #[]
  methods := #[]
  instanceTypes := #[]
  staticTypes := #[]
  resolved := Array.replicate 7 none
  statics := none }

def pool3 : Array CpInfo := pool [(1, .class_ 2), (0, u "java/lang/Comparable"), (0, .class_ 4), (0, u "java/lang/Object")] 7

/-- java/lang/Comparable -/
def k3 : Class := { plain "java/lang/Comparable" (some 0) with
  accessFlags := 1537
  interfaces := #[]
  cf := some (fileOf pool3 1 #[] #[] 1537 3 #[] #[])
  fields := #[]
  methods := #[]
  instanceTypes := #[]
  staticTypes := #[]
  resolved := Array.replicate 12 none
  statics := none }

def pool4 : Array CpInfo := pool [(2, .class_ 4), (1, u "java/lang/CharSequence"), (42, .class_ 48), (0, u "java/lang/CharSequence$1CodePointIterator"), (10, .class_ 60), (0, u "java/lang/CharSequence$1CharIterator"), (5, .class_ 67), (0, u "java/lang/Object")] 63

/-- java/lang/CharSequence -/
def k4 : Class := { plain "java/lang/CharSequence" (some 0) with
  accessFlags := 1537
  interfaces := #[]
  cf := some (fileOf pool4 2 #[.nestMembers #[47, 59]] #[] 1537 66 #[] #[])
  fields := #[]
  methods := #[]
  instanceTypes := #[]
  staticTypes := #[]
  resolved := Array.replicate 131 none
  statics := none }

def pool5 : Array CpInfo := pool [(1, .class_ 2), (0, u "java/lang/constant/Constable"), (0, .class_ 4), (0, u "java/lang/Object")] 6

/-- java/lang/constant/Constable -/
def k5 : Class := { plain "java/lang/constant/Constable" (some 0) with
  accessFlags := 1537
  interfaces := #[]
  cf := some (fileOf pool5 1 #[] #[] 1537 3 #[] #[])
  fields := #[]
  methods := #[]
  instanceTypes := #[]
  staticTypes := #[]
  resolved := Array.replicate 11 none
  statics := none }

def pool6 : Array CpInfo := pool [(1, .class_ 2), (0, u "java/lang/constant/ConstantDesc"), (0, .class_ 4), (0, u "java/lang/Object")] 32

/-- java/lang/constant/ConstantDesc -/
def k6 : Class := { plain "java/lang/constant/ConstantDesc" (some 0) with
  accessFlags := 1537
  interfaces := #[]
  cf := some (fileOf pool6 1 #[] #[] 1537 3 #[] #[])
  fields := #[]
  methods := #[]
  instanceTypes := #[]
  staticTypes := #[]
  resolved := Array.replicate 37 none
  statics := none }

def pool7 : Array CpInfo := pool [(1, .methodref 2 3), (0, .class_ 4), (0, .nameAndType 5 6), (0, u "java/lang/Object"), (0, u "<init>"), (0, u "()V"), (2, .fieldref 10 11), (0, .class_ 12), (0, .nameAndType 13 14), (0, u "java/lang/String"), (0, u "value"), (0, u "[B"), (0, .fieldref 10 16), (0, .nameAndType 17 18), (0, u "coder"), (0, u "B"), (2, u "hash"), (0, u "I"), (2, u "hashIsZero"), (0, u "Z"), (0, .methodref 10 28), (0, .nameAndType 5 29), (0, u "([CIILjava/lang/Void;)V"), (8, .fieldref 10 39), (0, .nameAndType 40 26), (0, u "COMPACT_STRINGS"), (1, .class_ 44), (1, u "java/lang/StringUTF16"), (0, u "compress"), (1, .methodref 42 48), (0, .nameAndType 49 50), (0, u "coderFromArrayLen"), (0, u "([BI)B"), (3, .methodref 55 56), (0, .class_ 57), (0, .nameAndType 58 59), (0, u "java/util/Arrays"), (0, u "copyOfRange"), (0, u "([BII)[B"), (47, .class_ 109), (1, u "java/lang/StringLatin1"), (32, u "()Z"), (34, .methodref 42 178), (0, .nameAndType 45 179), (0, u "([CII)[B"), (13, .class_ 195), (1, u "java/lang/System"), (15, u "([BB)V"), (0, .methodref 193 213), (0, .nameAndType 214 215), (0, u "arraycopy"), (0, u "(Ljava/lang/Object;ILjava/lang/Object;II)V"), (118, u "()I"), (0, .methodref 10 336), (0, .nameAndType 17 337), (0, u "()B"), (2, u "()[B"), (22, u "([BI)C"), (27, u "(II)V"), (35, u "(I)C"), (61, .methodref 10 490), (0, .nameAndType 5 491), (0, u "(Ljava/lang/AbstractStringBuilder;Ljava/lang/Void;)V"), (0, .methodref 10 493), (0, .nameAndType 494 142), (0, u "isLatin1"), (0, .methodref 107 496), (0, .nameAndType 497 363), (0, u "charAt"), (3, u "checkIndex"), (3, .methodref 10 506), (0, .nameAndType 507 334), (0, u "length"), (5, u "checkFromToIndex"), (7, .methodref 10 522), (0, .nameAndType 523 524), (0, u "checkBoundsBeginEnd"), (0, u "(III)V"), (7, u "getBytes"), (16, .methodref 550 506), (0, .class_ 551), (0, u "java/lang/AbstractStringBuilder"), (0, .methodref 550 553), (0, .nameAndType 554 340), (0, u "getValue"), (20, .class_ 576), (0, u "java/lang/CharSequence"), (22, u "CASE_INSENSITIVE_ORDER"), (0, u "Ljava/util/Comparator;"), (80, .methodref 10 682), (0, .nameAndType 683 684), (0, u "substring"), (0, u "(II)Ljava/lang/String;"), (0, .methodref 107 686), (0, .nameAndType 687 688), (0, u "newString"), (0, u "([BII)Ljava/lang/String;"), (132, u "([BIB)V"), (70, u "(I)Ljava/lang/String;"), (117, u "([C)V"), (36, .methodref 550 493), (5, .fieldref 1054 1055), (0, .class_ 1056), (0, .nameAndType 1057 1058), (0, u "jdk/internal/util/Preconditions"), (0, u "SIOOBE_FORMATTER"), (0, u "Ljava/util/function/BiFunction;"), (0, .methodref 1054 1060), (0, .nameAndType 501 1061), (0, u "(IILjava/util/function/BiFunction;)I"), (0, .methodref 1054 1063), (0, .nameAndType 513 1064), (0, u "(IIILjava/util/function/BiFunction;)I"), (36, u "serialPersistentFields"), (0, u "[Ljava/io/ObjectStreamField;"), (0, .class_ 1104), (0, u "java/lang/String$CaseInsensitiveComparator"), (1, .class_ 1107), (0, u "java/io/Serializable"), (0, .class_ 1109), (0, u "java/lang/Comparable"), (0, .class_ 1111), (0, u "java/lang/constant/Constable"), (0, .class_ 1113), (0, u "java/lang/constant/ConstantDesc"), (2, u "serialVersionUID"), (0, u "J"), (3, u "REPL"), (0, u "C"), (2, u "LATIN1"), (1, u "UTF16"), (105, u "(Ljava/lang/StringBuilder;)V")] 217

def k7m0 : Method := { name := "<init>", desc := "()V", sig := { parameters := [], returnType := none }, accessFlags := 1, code := none }
def k7c1 : Code := { maxStack := 5, maxLocals := 2, code := jdk_42_method_3_code, exceptionTable := #[], attributes := #[] }
def k7m1 : Method := { name := "<init>", desc := "([C)V", sig := { parameters := [(.array .char)], returnType := none }, accessFlags := 1, code := some k7c1 }
def k7c2 : Code := { maxStack := 3, maxLocals := 2, code := jdk_42_method_53_code, exceptionTable := #[], attributes := #[] }
def k7m2 : Method := { name := "<init>", desc := "(Ljava/lang/StringBuilder;)V", sig := { parameters := [(.object "java/lang/StringBuilder")], returnType := none }, accessFlags := 1, code := some k7c2 }
def k7c3 : Code := { maxStack := 2, maxLocals := 1, code := jdk_42_method_54_code, exceptionTable := #[], attributes := #[] }
def k7m3 : Method := { name := "length", desc := "()I", sig := { parameters := [], returnType := some .int }, accessFlags := 1, code := some k7c3 }
def k7c4 : Code := { maxStack := 2, maxLocals := 2, code := jdk_42_method_56_code, exceptionTable := #[], attributes := #[] }
def k7m4 : Method := { name := "charAt", desc := "(I)C", sig := { parameters := [.int], returnType := some .char }, accessFlags := 1, code := some k7c4 }
def k7c5 : Code := { maxStack := 3, maxLocals := 2, code := jdk_42_method_91_code, exceptionTable := #[], attributes := #[] }
def k7m5 : Method := { name := "substring", desc := "(I)Ljava/lang/String;", sig := { parameters := [.int], returnType := some (.object "java/lang/String") }, accessFlags := 1, code := some k7c5 }
def k7c6 : Code := { maxStack := 3, maxLocals := 5, code := jdk_42_method_92_code, exceptionTable := #[], attributes := #[] }
def k7m6 : Method := { name := "substring", desc := "(II)Ljava/lang/String;", sig := { parameters := [.int, .int], returnType := some (.object "java/lang/String") }, accessFlags := 1, code := some k7c6 }
def k7c7 : Code := { maxStack := 5, maxLocals := 4, code := jdk_42_method_147_code, exceptionTable := #[], attributes := #[] }
def k7m7 : Method := { name := "getBytes", desc := "([BIB)V", sig := { parameters := [(.array .byte), .int, .byte], returnType := none }, accessFlags := 0, code := some k7c7 }
def k7c8 : Code := { maxStack := 4, maxLocals := 6, code := jdk_42_method_149_code, exceptionTable := #[], attributes := #[] }
def k7m8 : Method := { name := "<init>", desc := "([CIILjava/lang/Void;)V", sig := { parameters := [(.array .char), .int, .int, (.object "java/lang/Void")], returnType := none }, accessFlags := 2, code := some k7c8 }
def k7c9 : Code := { maxStack := 5, maxLocals := 5, code := jdk_42_method_150_code, exceptionTable := #[], attributes := #[] }
def k7m9 : Method := { name := "<init>", desc := "(Ljava/lang/AbstractStringBuilder;Ljava/lang/Void;)V", sig := { parameters := [(.object "java/lang/AbstractStringBuilder"), (.object "java/lang/Void")], returnType := none }, accessFlags := 0, code := some k7c9 }
def k7c10 : Code := { maxStack := 2, maxLocals := 3, code := jdk_42_method_151_code, exceptionTable := #[], attributes := #[] }
def k7m10 : Method := { name := "<init>", desc := "([BB)V", sig := { parameters := [(.array .byte), .byte], returnType := none }, accessFlags := 0, code := some k7c10 }
def k7c11 : Code := { maxStack := 1, maxLocals := 1, code := jdk_42_method_152_code, exceptionTable := #[], attributes := #[] }
def k7m11 : Method := { name := "coder", desc := "()B", sig := { parameters := [], returnType := some .byte }, accessFlags := 0, code := some k7c11 }
def k7c12 : Code := { maxStack := 1, maxLocals := 1, code := jdk_42_method_154_code, exceptionTable := #[], attributes := #[] }
def k7m12 : Method := { name := "isLatin1", desc := "()Z", sig := { parameters := [], returnType := some .boolean }, accessFlags := 0, code := some k7c12 }
def k7c13 : Code := { maxStack := 3, maxLocals := 2, code := jdk_42_method_155_code, exceptionTable := #[], attributes := #[] }
def k7m13 : Method := { name := "checkIndex", desc := "(II)V", sig := { parameters := [.int, .int], returnType := none }, accessFlags := 8, code := some k7c13 }
def k7c14 : Code := { maxStack := 4, maxLocals := 3, code := jdk_42_method_158_code, exceptionTable := #[], attributes := #[] }
def k7m14 : Method := { name := "checkBoundsBeginEnd", desc := "(III)V", sig := { parameters := [.int, .int, .int], returnType := none }, accessFlags := 8, code := some k7c14 }
/-- java/lang/String -/
def k7 : Class := { plain "java/lang/String" (some 0) with
  accessFlags := 49
  interfaces := #[2, 3, 4, 5, 6]
  cf := some (fileOf pool7 10 #[.nestMembers #[1103]] #[{ accessFlags := 1, nameIndex := 5, descriptorIndex := 6, attributes := #[] }, { accessFlags := 1, nameIndex := 5, descriptorIndex := 1010, attributes := #[] }, { accessFlags := 1, nameIndex := 5, descriptorIndex := 1233, attributes := #[] }, { accessFlags := 1, nameIndex := 507, descriptorIndex := 334, attributes := #[] }, { accessFlags := 1, nameIndex := 497, descriptorIndex := 427, attributes := #[] }, { accessFlags := 1, nameIndex := 683, descriptorIndex := 892, attributes := #[] }, { accessFlags := 1, nameIndex := 683, descriptorIndex := 684, attributes := #[] }, { accessFlags := 0, nameIndex := 532, descriptorIndex := 821, attributes := #[] }, { accessFlags := 2, nameIndex := 5, descriptorIndex := 29, attributes := #[] }, { accessFlags := 0, nameIndex := 5, descriptorIndex := 491, attributes := #[] }, { accessFlags := 0, nameIndex := 5, descriptorIndex := 211, attributes := #[] }, { accessFlags := 0, nameIndex := 17, descriptorIndex := 337, attributes := #[] }, { accessFlags := 0, nameIndex := 494, descriptorIndex := 142, attributes := #[] }, { accessFlags := 8, nameIndex := 501, descriptorIndex := 391, attributes := #[] }, { accessFlags := 8, nameIndex := 523, descriptorIndex := 524, attributes := #[] }] 49 2 #[1106, 1108, 575, 1110, 1112] #[{ accessFlags := 18, nameIndex := 13, descriptorIndex := 14, attributes := #[] }, { accessFlags := 18, nameIndex := 17, descriptorIndex := 18, attributes := #[] }, { accessFlags := 2, nameIndex := 21, descriptorIndex := 22, attributes := #[] }, { accessFlags := 2, nameIndex := 25, descriptorIndex := 26, attributes := #[] }, { accessFlags := 26, nameIndex := 1116, descriptorIndex := 1117, attributes := #[] }, { accessFlags := 24, nameIndex := 40, descriptorIndex := 26, attributes := #[] }, { accessFlags := 26, nameIndex := 1101, descriptorIndex := 1102, attributes := #[] }, { accessFlags := 26, nameIndex := 1121, descriptorIndex := 1122, attributes := #[] }, { accessFlags := 25, nameIndex := 599, descriptorIndex := 600, attributes := #[] }, { accessFlags := 24, nameIndex := 1125, descriptorIndex := 18, attributes := #[] }, { accessFlags := 24, nameIndex := 1127, descriptorIndex := 18, attributes := #[] }])
  fields := #[{ name := "value", type := (.array .byte), accessFlags := 18, slot := 0, constantValue := 0 }, { name := "coder", type := .byte, accessFlags := 18, slot := 1, constantValue := 0 }, { name := "hash", type := .int, accessFlags := 2, slot := 2, constantValue := 0 }, { name := "hashIsZero", type := .boolean, accessFlags := 2, slot := 3, constantValue := 0 }, { name := "serialVersionUID", type := .long, accessFlags := 26, slot := 0, constantValue := 0 }, { name := "COMPACT_STRINGS", type := .boolean, accessFlags := 24, slot := 1, constantValue := 0 }, { name := "serialPersistentFields", type := (.array (.object "java/io/ObjectStreamField")), accessFlags := 26, slot := 2, constantValue := 0 }, { name := "REPL", type := .char, accessFlags := 26, slot := 3, constantValue := 0 }, { name := "CASE_INSENSITIVE_ORDER", type := (.object "java/util/Comparator"), accessFlags := 25, slot := 4, constantValue := 0 }, { name := "LATIN1", type := .byte, accessFlags := 24, slot := 5, constantValue := 0 }, { name := "UTF16", type := .byte, accessFlags := 24, slot := 6, constantValue := 0 }]
  methods := #[k7m0, k7m1, k7m2, k7m3, k7m4, k7m5, k7m6, k7m7, k7m8, k7m9, k7m10, k7m11, k7m12, k7m13, k7m14]
  instanceTypes := #[(.array .byte), .byte, .int, .boolean]
  staticTypes := #[.long, .boolean, (.array (.object "java/io/ObjectStreamField")), .char, (.object "java/util/Comparator"), .byte, .byte]
  resolved := Array.replicate 1451 none
  statics := some 0 }

def pool8 : Array CpInfo := pool [(6, .class_ 8), (1, u "java/lang/Object"), (0, u "<init>"), (0, u "()V"), (1, .class_ 14), (1, u "java/lang/StringUTF16"), (31, u "$assertionsDisabled"), (0, u "Z"), (13, u "HI_BYTE_SHIFT"), (0, u "I"), (2, u "LO_BYTE_SHIFT"), (49, .methodref 12 116), (0, .nameAndType 117 118), (0, u "compress"), (0, u "([CI[BII)I"), (3, u "([CII)[B"), (138, u "coderFromArrayLen"), (0, u "([BI)B"), (106, .class_ 371), (1, u "java/lang/StringUTF16$LinesSpliterator"), (58, u "MAX_LENGTH"), (196, .class_ 628), (0, u "java/lang/StringUTF16$CodePointsSpliterator"), (0, .class_ 630), (0, u "java/lang/StringUTF16$CharsSpliterator")] 4

def k8m0 : Method := { name := "<init>", desc := "()V", sig := { parameters := [], returnType := none }, accessFlags := 0, code := none }
def k8c1 : Code := { maxStack := 2, maxLocals := 2, code := jdk_52_method_15_code, exceptionTable := #[], attributes := #[] }
def k8m1 : Method := { name := "coderFromArrayLen", desc := "([BI)B", sig := { parameters := [(.array .byte), .int], returnType := some .byte }, accessFlags := 8, code := some k8c1 }
def k8c2 : Code := { maxStack := 5, maxLocals := 6, code := jdk_52_method_16_code, exceptionTable := #[], attributes := #[] }
def k8m2 : Method := { name := "compress", desc := "([CII)[B", sig := { parameters := [(.array .char), .int, .int], returnType := some (.array .byte) }, accessFlags := 9, code := some k8c2 }
def k8c3 : Code := { maxStack := 3, maxLocals := 7, code := jdk_52_method_21_code, exceptionTable := #[], attributes := #[] }
def k8m3 : Method := { name := "compress", desc := "([CI[BII)I", sig := { parameters := [(.array .char), .int, (.array .byte), .int, .int], returnType := some .int }, accessFlags := 9, code := some k8c3 }
/-- java/lang/StringUTF16 -/
def k8 : Class := { plain "java/lang/StringUTF16" (some 0) with
  accessFlags := 48
  interfaces := #[]
  cf := some (fileOf pool8 12 #[.nestMembers #[627, 629, 369]] #[{ accessFlags := 0, nameIndex := 9, descriptorIndex := 10, attributes := #[] }, { accessFlags := 8, nameIndex := 261, descriptorIndex := 262, attributes := #[] }, { accessFlags := 9, nameIndex := 117, descriptorIndex := 122, attributes := #[] }, { accessFlags := 9, nameIndex := 117, descriptorIndex := 118, attributes := #[] }] 48 6 #[] #[{ accessFlags := 26, nameIndex := 61, descriptorIndex := 62, attributes := #[] }, { accessFlags := 26, nameIndex := 65, descriptorIndex := 62, attributes := #[] }, { accessFlags := 24, nameIndex := 430, descriptorIndex := 62, attributes := #[] }, { accessFlags := 4120, nameIndex := 46, descriptorIndex := 47, attributes := #[] }])
  fields := #[{ name := "HI_BYTE_SHIFT", type := .int, accessFlags := 26, slot := 0, constantValue := 0 }, { name := "LO_BYTE_SHIFT", type := .int, accessFlags := 26, slot := 1, constantValue := 0 }, { name := "MAX_LENGTH", type := .int, accessFlags := 24, slot := 2, constantValue := 0 }, { name := "$assertionsDisabled", type := .boolean, accessFlags := 4120, slot := 3, constantValue := 0 }]
  methods := #[k8m0, k8m1, k8m2, k8m3]
  instanceTypes := #[]
  staticTypes := #[.int, .int, .int, .boolean]
  resolved := Array.replicate 635 none
  statics := none }

def pool9 : Array CpInfo := pool [(1, .methodref 2 3), (0, .class_ 4), (0, .nameAndType 5 6), (0, u "java/lang/Object"), (0, u "<init>"), (0, u "()V"), (0, .class_ 8), (0, u "java/lang/Record")] 13

def k9c0 : Code := { maxStack := 1, maxLocals := 1, code := jdk_30_method_1_code, exceptionTable := #[], attributes := #[] }
def k9m0 : Method := { name := "<init>", desc := "()V", sig := { parameters := [], returnType := none }, accessFlags := 4, code := some k9c0 }
/-- java/lang/Record -/
def k9 : Class := { plain "java/lang/Record" (some 0) with
  accessFlags := 1057
  interfaces := #[]
  cf := some (fileOf pool9 7 #[] #[{ accessFlags := 4, nameIndex := 5, descriptorIndex := 6, attributes := #[] }] 1057 2 #[] #[])
  fields := #[]
  methods := #[k9m0]
  instanceTypes := #[]
  staticTypes := #[]
  resolved := Array.replicate 22 none
  statics := none }

def pool10 : Array CpInfo := pool [(1, .methodref 2 3), (0, .class_ 4), (0, .nameAndType 5 6), (0, u "java/lang/Record"), (0, u "<init>"), (0, u "()V"), (0, .fieldref 8 9), (0, .class_ 10), (0, .nameAndType 11 12), (0, u "com/example/undercroft/undercroft/store/UriSpace"), (0, u "prefix"), (0, u "Ljava/lang/String;"), (0, .fieldref 8 14), (0, .nameAndType 15 12), (0, u "ownSystem"), (0, .class_ 17), (0, u "java/lang/StringBuilder"), (0, .methodref 16 3), (3, u "()Ljava/lang/String;"), (0, .methodref 16 24), (0, .nameAndType 25 26), (0, u "append"), (0, u "(Ljava/lang/String;)Ljava/lang/StringBuilder;"), (9, .methodref 16 37), (0, .nameAndType 38 22), (0, u "toString"), (1, .class_ 42), (1, u "com/example/undercroft/undercroft/store/UriSpace$1"), (30, .class_ 75), (1, u "java/lang/String"), (23, .methodref 73 100), (0, .nameAndType 101 102), (0, u "substring"), (0, u "(I)Ljava/lang/String;"), (20, .class_ 124), (0, u "com/example/undercroft/undercroft/store/UriSpace$ResourceId"), (5, u "(Ljava/lang/String;Ljava/lang/String;)V"), (17, u "RESOURCE"), (14, u "(Ljava/lang/String;)Ljava/lang/String;"), (1, u "uriOfPath")] 25

def k10c0 : Code := { maxStack := 2, maxLocals := 3, code := prog_21_method_1_code, exceptionTable := #[], attributes := #[] }
def k10m0 : Method := { name := "<init>", desc := "(Ljava/lang/String;Ljava/lang/String;)V", sig := { parameters := [(.object "java/lang/String"), (.object "java/lang/String")], returnType := none }, accessFlags := 1, code := some k10c0 }
def k10c1 : Code := { maxStack := 3, maxLocals := 2, code := prog_21_method_8_code, exceptionTable := #[], attributes := #[] }
def k10m1 : Method := { name := "uriOfPath", desc := "(Ljava/lang/String;)Ljava/lang/String;", sig := { parameters := [(.object "java/lang/String")], returnType := some (.object "java/lang/String") }, accessFlags := 1, code := some k10c1 }
/-- com/example/undercroft/undercroft/store/UriSpace -/
def k10 : Class := { plain "com/example/undercroft/undercroft/store/UriSpace" (some 9) with
  accessFlags := 49
  interfaces := #[]
  cf := some (fileOf pool10 8 #[.nestMembers #[40, 123]] #[{ accessFlags := 1, nameIndex := 5, descriptorIndex := 130, attributes := #[] }, { accessFlags := 1, nameIndex := 165, descriptorIndex := 163, attributes := #[] }] 49 2 #[] #[{ accessFlags := 18, nameIndex := 11, descriptorIndex := 12, attributes := #[] }, { accessFlags := 18, nameIndex := 15, descriptorIndex := 12, attributes := #[] }, { accessFlags := 26, nameIndex := 148, descriptorIndex := 12, attributes := #[] }])
  fields := #[{ name := "prefix", type := (.object "java/lang/String"), accessFlags := 18, slot := 0, constantValue := 0 }, { name := "ownSystem", type := (.object "java/lang/String"), accessFlags := 18, slot := 1, constantValue := 0 }, { name := "RESOURCE", type := (.object "java/lang/String"), accessFlags := 26, slot := 0, constantValue := 0 }]
  methods := #[k10m0, k10m1]
  instanceTypes := #[(.object "java/lang/String"), (.object "java/lang/String")]
  staticTypes := #[(.object "java/lang/String")]
  resolved := Array.replicate 191 none
  statics := none }

def pool11 : Array CpInfo := pool [(1, .class_ 2), (0, u "java/lang/Appendable"), (0, .class_ 4), (0, u "java/lang/Object")] 9

/-- java/lang/Appendable -/
def k11 : Class := { plain "java/lang/Appendable" (some 0) with
  accessFlags := 1537
  interfaces := #[]
  cf := some (fileOf pool11 1 #[] #[] 1537 3 #[] #[])
  fields := #[]
  methods := #[]
  instanceTypes := #[]
  staticTypes := #[]
  resolved := Array.replicate 14 none
  statics := none }

def pool12 : Array CpInfo := pool [(1, .class_ 2), (0, u "java/lang/String"), (0, .methodref 4 5), (0, .class_ 6), (0, .nameAndType 7 8), (0, u "java/lang/Object"), (0, u "<init>"), (0, u "()V"), (1, .class_ 12), (1, u "java/lang/AbstractStringBuilder"), (0, u "EMPTYVALUE"), (0, u "[B"), (0, .fieldref 10 16), (0, .nameAndType 17 14), (0, u "value"), (0, .fieldref 1 19), (0, .nameAndType 20 21), (0, u "COMPACT_STRINGS"), (0, u "Z"), (0, .fieldref 10 23), (0, .nameAndType 24 25), (0, u "coder"), (0, u "B"), (6, .methodref 1 33), (0, .nameAndType 34 35), (0, u "length"), (0, u "()I"), (4, .methodref 1 41), (0, .nameAndType 24 42), (0, u "()B"), (2, u "append"), (0, u "(Ljava/lang/String;)Ljava/lang/AbstractStringBuilder;"), (1, .class_ 49), (0, u "java/lang/CharSequence"), (19, u "(Ljava/lang/String;)V"), (5, u "maybeLatin1"), (3, .fieldref 10 80), (0, .nameAndType 81 82), (0, u "count"), (0, u "I"), (2, u "isLatin1"), (0, u "()Z"), (13, .methodref 10 101), (0, .nameAndType 102 103), (0, u "ensureCapacityInternal"), (0, u "(I)V"), (104, .methodref 10 209), (0, .nameAndType 210 211), (0, u "putStringAt"), (0, u "(ILjava/lang/String;)V"), (5, u "inflateIfNeededFor"), (2, .nameAndType 221 222), (0, u "getBytes"), (0, u "([BIB)V"), (174, .methodref 10 398), (0, .nameAndType 217 69), (0, .methodref 1 220), (3, u "()[B"), (40, .class_ 445), (0, u "java/lang/Appendable"), (106, u "getValue")] 56

def k12m0 : Method := { name := "<init>", desc := "()V", sig := { parameters := [], returnType := none }, accessFlags := 0, code := none }
def k12c1 : Code := { maxStack := 2, maxLocals := 2, code := jdk_68_method_2_code, exceptionTable := #[], attributes := #[] }
def k12m1 : Method := { name := "<init>", desc := "(I)V", sig := { parameters := [.int], returnType := none }, accessFlags := 0, code := some k12c1 }
def k12c2 : Code := { maxStack := 1, maxLocals := 1, code := jdk_68_method_6_code, exceptionTable := #[], attributes := #[] }
def k12m2 : Method := { name := "length", desc := "()I", sig := { parameters := [], returnType := some .int }, accessFlags := 1, code := some k12c2 }
def k12c3 : Code := { maxStack := 4, maxLocals := 3, code := jdk_68_method_9_code, exceptionTable := #[], attributes := #[] }
def k12m3 : Method := { name := "ensureCapacityInternal", desc := "(I)V", sig := { parameters := [.int], returnType := none }, accessFlags := 2, code := some k12c3 }
def k12c4 : Code := { maxStack := 3, maxLocals := 3, code := jdk_68_method_22_code, exceptionTable := #[], attributes := #[] }
def k12m4 : Method := { name := "append", desc := "(Ljava/lang/String;)Ljava/lang/AbstractStringBuilder;", sig := { parameters := [(.object "java/lang/String")], returnType := some (.object "java/lang/AbstractStringBuilder") }, accessFlags := 1, code := some k12c4 }
def k12c5 : Code := { maxStack := 1, maxLocals := 1, code := jdk_68_method_64_code, exceptionTable := #[], attributes := #[] }
def k12m5 : Method := { name := "getValue", desc := "()[B", sig := { parameters := [], returnType := some (.array .byte) }, accessFlags := 16, code := some k12c5 }
def k12c6 : Code := { maxStack := 1, maxLocals := 1, code := jdk_68_method_68_code, exceptionTable := #[], attributes := #[] }
def k12m6 : Method := { name := "isLatin1", desc := "()Z", sig := { parameters := [], returnType := some .boolean }, accessFlags := 16, code := some k12c6 }
def k12c7 : Code := { maxStack := 2, maxLocals := 2, code := jdk_68_method_71_code, exceptionTable := #[], attributes := #[] }
def k12m7 : Method := { name := "inflateIfNeededFor", desc := "(Ljava/lang/String;)V", sig := { parameters := [(.object "java/lang/String")], returnType := none }, accessFlags := 2, code := some k12c7 }
def k12c8 : Code := { maxStack := 4, maxLocals := 3, code := jdk_68_method_73_code, exceptionTable := #[], attributes := #[] }
def k12m8 : Method := { name := "putStringAt", desc := "(ILjava/lang/String;)V", sig := { parameters := [.int, (.object "java/lang/String")], returnType := none }, accessFlags := 2, code := some k12c8 }
/-- java/lang/AbstractStringBuilder -/
def k12 : Class := { plain "java/lang/AbstractStringBuilder" (some 0) with
  accessFlags := 1056
  interfaces := #[11, 4]
  cf := some (fileOf pool12 10 #[] #[{ accessFlags := 0, nameIndex := 7, descriptorIndex := 8, attributes := #[] }, { accessFlags := 0, nameIndex := 7, descriptorIndex := 103, attributes := #[] }, { accessFlags := 1, nameIndex := 34, descriptorIndex := 35, attributes := #[] }, { accessFlags := 2, nameIndex := 102, descriptorIndex := 103, attributes := #[] }, { accessFlags := 1, nameIndex := 45, descriptorIndex := 46, attributes := #[] }, { accessFlags := 16, nameIndex := 552, descriptorIndex := 403, attributes := #[] }, { accessFlags := 16, nameIndex := 85, descriptorIndex := 86, attributes := #[] }, { accessFlags := 2, nameIndex := 217, descriptorIndex := 69, attributes := #[] }, { accessFlags := 2, nameIndex := 210, descriptorIndex := 211, attributes := #[] }] 1056 4 #[444, 48] #[{ accessFlags := 0, nameIndex := 17, descriptorIndex := 14, attributes := #[] }, { accessFlags := 0, nameIndex := 24, descriptorIndex := 25, attributes := #[] }, { accessFlags := 0, nameIndex := 75, descriptorIndex := 21, attributes := #[] }, { accessFlags := 0, nameIndex := 81, descriptorIndex := 82, attributes := #[] }, { accessFlags := 26, nameIndex := 13, descriptorIndex := 14, attributes := #[] }])
  fields := #[{ name := "value", type := (.array .byte), accessFlags := 0, slot := 0, constantValue := 0 }, { name := "coder", type := .byte, accessFlags := 0, slot := 1, constantValue := 0 }, { name := "maybeLatin1", type := .boolean, accessFlags := 0, slot := 2, constantValue := 0 }, { name := "count", type := .int, accessFlags := 0, slot := 3, constantValue := 0 }, { name := "EMPTYVALUE", type := (.array .byte), accessFlags := 26, slot := 0, constantValue := 0 }]
  methods := #[k12m0, k12m1, k12m2, k12m3, k12m4, k12m5, k12m6, k12m7, k12m8]
  instanceTypes := #[(.array .byte), .byte, .boolean, .int]
  staticTypes := #[(.array .byte)]
  resolved := Array.replicate 609 none
  statics := none }

def pool13 : Array CpInfo := pool [(1, .methodref 2 3), (0, .class_ 4), (0, .nameAndType 5 6), (0, u "java/lang/AbstractStringBuilder"), (0, u "<init>"), (0, u "(I)V"), (11, .class_ 20), (1, u "java/lang/String"), (3, .class_ 26), (1, u "java/lang/StringBuilder"), (0, u "append"), (0, u "(Ljava/lang/String;)Ljava/lang/StringBuilder;"), (0, .methodref 2 30), (0, .nameAndType 27 31), (0, u "(Ljava/lang/String;)Ljava/lang/AbstractStringBuilder;"), (105, .methodref 18 138), (0, .nameAndType 5 139), (0, u "(Ljava/lang/StringBuilder;)V"), (5, u "()V"), (10, u "()I"), (186, .methodref 2 344), (0, .nameAndType 345 156), (0, u "length"), (3, .class_ 350), (0, u "java/lang/Appendable"), (0, .class_ 352), (0, u "java/io/Serializable"), (0, .class_ 354), (0, u "java/lang/Comparable"), (0, .class_ 356), (0, u "java/lang/CharSequence"), (0, u "serialVersionUID"), (0, u "J"), (40, u "toString"), (0, u "()Ljava/lang/String;")] 21

def k13c0 : Code := { maxStack := 2, maxLocals := 1, code := jdk_67_method_1_code, exceptionTable := #[], attributes := #[] }
def k13m0 : Method := { name := "<init>", desc := "()V", sig := { parameters := [], returnType := none }, accessFlags := 1, code := some k13c0 }
def k13c1 : Code := { maxStack := 2, maxLocals := 2, code := jdk_67_method_7_code, exceptionTable := #[], attributes := #[] }
def k13m1 : Method := { name := "append", desc := "(Ljava/lang/String;)Ljava/lang/StringBuilder;", sig := { parameters := [(.object "java/lang/String")], returnType := some (.object "java/lang/StringBuilder") }, accessFlags := 1, code := some k13c1 }
def k13c2 : Code := { maxStack := 3, maxLocals := 1, code := jdk_67_method_42_code, exceptionTable := #[], attributes := #[] }
def k13m2 : Method := { name := "toString", desc := "()Ljava/lang/String;", sig := { parameters := [], returnType := some (.object "java/lang/String") }, accessFlags := 1, code := some k13c2 }
def k13c3 : Code := { maxStack := 1, maxLocals := 1, code := jdk_67_method_93_code, exceptionTable := #[], attributes := #[] }
def k13m3 : Method := { name := "length", desc := "()I", sig := { parameters := [], returnType := some .int }, accessFlags := 4161, code := some k13c3 }
/-- java/lang/StringBuilder -/
def k13 : Class := { plain "java/lang/StringBuilder" (some 12) with
  accessFlags := 49
  interfaces := #[11, 2, 3, 4]
  cf := some (fileOf pool13 24 #[] #[{ accessFlags := 1, nameIndex := 5, descriptorIndex := 145, attributes := #[] }, { accessFlags := 1, nameIndex := 27, descriptorIndex := 28, attributes := #[] }, { accessFlags := 1, nameIndex := 399, descriptorIndex := 400, attributes := #[] }, { accessFlags := 4161, nameIndex := 345, descriptorIndex := 156, attributes := #[] }] 49 2 #[349, 351, 353, 355] #[{ accessFlags := 24, nameIndex := 357, descriptorIndex := 358, attributes := #[] }])
  fields := #[{ name := "serialVersionUID", type := .long, accessFlags := 24, slot := 0, constantValue := 0 }]
  methods := #[k13m0, k13m1, k13m2, k13m3]
  instanceTypes := #[(.array .byte), .byte, .boolean, .int]
  staticTypes := #[.long]
  resolved := Array.replicate 422 none
  statics := none }

def pool14 : Array CpInfo := pool [(2, .class_ 4), (1, u "java/lang/Object"), (0, u "<init>"), (0, u "()V"), (1, .class_ 10), (1, u "java/lang/System"), (0, u "allowSecurityManager"), (0, u "I"), (16, u "cons"), (0, u "Ljava/io/Console;"), (77, .class_ 110), (1, u "java/lang/System$CallersHolder"), (43, u "initialErrStream"), (0, u "Ljava/io/PrintStream;"), (19, u "security"), (0, u "Ljava/lang/SecurityManager;"), (31, .class_ 209), (0, u "java/lang/System$1"), (7, u "props"), (0, u "Ljava/util/Properties;"), (2, u "lineSeparator"), (0, u "Ljava/lang/String;"), (96, .class_ 321), (1, u "java/lang/System$LoggerFinder"), (5, .class_ 328), (0, u "java/lang/System$Logger"), (67, u "err"), (2, u "out"), (91, u "notSupportedJnuEncoding"), (15, u "in"), (17, u "initialIn"), (0, u "Ljava/io/InputStream;"), (35, u "bootLayer"), (0, u "Ljava/lang/ModuleLayer;"), (99, .class_ 664), (0, u "java/lang/System$2"), (9, u "NEVER"), (2, u "MAYBE"), (49, u "arraycopy"), (0, u "(Ljava/lang/Object;ILjava/lang/Object;II)V"), (72, .class_ 802), (0, u "java/lang/System$Logger$Level")] 31

def k14m0 : Method := { name := "<init>", desc := "()V", sig := { parameters := [], returnType := none }, accessFlags := 2, code := none }
def k14m1 : Method := { name := "arraycopy", desc := "(Ljava/lang/Object;ILjava/lang/Object;II)V", sig := { parameters := [(.object "java/lang/Object"), .int, (.object "java/lang/Object"), .int, .int], returnType := none }, accessFlags := 265, code := none }
/-- java/lang/System -/
def k14 : Class := { plain "java/lang/System" (some 0) with
  accessFlags := 49
  interfaces := #[]
  cf := some (fileOf pool14 8 #[.nestMembers #[319, 327, 801, 108, 663, 208]] #[{ accessFlags := 2, nameIndex := 5, descriptorIndex := 6, attributes := #[] }, { accessFlags := 265, nameIndex := 727, descriptorIndex := 728, attributes := #[] }] 49 2 #[] #[{ accessFlags := 25, nameIndex := 507, descriptorIndex := 526, attributes := #[] }, { accessFlags := 25, nameIndex := 399, descriptorIndex := 155, attributes := #[] }, { accessFlags := 25, nameIndex := 396, descriptorIndex := 155, attributes := #[] }, { accessFlags := 10, nameIndex := 525, descriptorIndex := 526, attributes := #[] }, { accessFlags := 26, nameIndex := 674, descriptorIndex := 12, attributes := #[] }, { accessFlags := 26, nameIndex := 677, descriptorIndex := 12, attributes := #[] }, { accessFlags := 10, nameIndex := 11, descriptorIndex := 12, attributes := #[] }, { accessFlags := 74, nameIndex := 175, descriptorIndex := 176, attributes := #[] }, { accessFlags := 10, nameIndex := 491, descriptorIndex := 222, attributes := #[] }, { accessFlags := 74, nameIndex := 29, descriptorIndex := 30, attributes := #[] }, { accessFlags := 74, nameIndex := 154, descriptorIndex := 155, attributes := #[] }, { accessFlags := 10, nameIndex := 217, descriptorIndex := 218, attributes := #[] }, { accessFlags := 10, nameIndex := 221, descriptorIndex := 222, attributes := #[] }, { accessFlags := 8, nameIndex := 562, descriptorIndex := 563, attributes := #[] }])
  fields := #[{ name := "in", type := (.object "java/io/InputStream"), accessFlags := 25, slot := 0, constantValue := 0 }, { name := "out", type := (.object "java/io/PrintStream"), accessFlags := 25, slot := 1, constantValue := 0 }, { name := "err", type := (.object "java/io/PrintStream"), accessFlags := 25, slot := 2, constantValue := 0 }, { name := "initialIn", type := (.object "java/io/InputStream"), accessFlags := 10, slot := 3, constantValue := 0 }, { name := "NEVER", type := .int, accessFlags := 26, slot := 4, constantValue := 0 }, { name := "MAYBE", type := .int, accessFlags := 26, slot := 5, constantValue := 0 }, { name := "allowSecurityManager", type := .int, accessFlags := 10, slot := 6, constantValue := 0 }, { name := "security", type := (.object "java/lang/SecurityManager"), accessFlags := 74, slot := 7, constantValue := 0 }, { name := "notSupportedJnuEncoding", type := (.object "java/lang/String"), accessFlags := 10, slot := 8, constantValue := 0 }, { name := "cons", type := (.object "java/io/Console"), accessFlags := 74, slot := 9, constantValue := 0 }, { name := "initialErrStream", type := (.object "java/io/PrintStream"), accessFlags := 74, slot := 10, constantValue := 0 }, { name := "props", type := (.object "java/util/Properties"), accessFlags := 10, slot := 11, constantValue := 0 }, { name := "lineSeparator", type := (.object "java/lang/String"), accessFlags := 10, slot := 12, constantValue := 0 }, { name := "bootLayer", type := (.object "java/lang/ModuleLayer"), accessFlags := 8, slot := 13, constantValue := 0 }]
  methods := #[k14m0, k14m1]
  instanceTypes := #[]
  staticTypes := #[(.object "java/io/InputStream"), (.object "java/io/PrintStream"), (.object "java/io/PrintStream"), (.object "java/io/InputStream"), .int, .int, .int, (.object "java/lang/SecurityManager"), (.object "java/lang/String"), (.object "java/io/Console"), (.object "java/io/PrintStream"), (.object "java/util/Properties"), (.object "java/lang/String"), (.object "java/lang/ModuleLayer")]
  resolved := Array.replicate 834 none
  statics := none }

def pool15 : Array CpInfo := pool [(2, .class_ 4), (1, u "java/lang/Object"), (0, u "<init>"), (0, u "()V"), (17, .class_ 26), (1, u "jdk/internal/util/Preconditions"), (6, u "checkIndex"), (13, u "checkFromToIndex"), (7, .class_ 56), (0, u "jdk/internal/util/Preconditions$4"), (57, .class_ 115), (0, u "jdk/internal/util/Preconditions$1"), (7, u "SIOOBE_FORMATTER"), (0, u "Ljava/util/function/BiFunction;"), (0, .class_ 126), (0, u "jdk/internal/util/Preconditions$2"), (3, u "AIOOBE_FORMATTER"), (0, .class_ 132), (0, u "jdk/internal/util/Preconditions$3"), (3, u "IOOBE_FORMATTER"), (41, u "(IILjava/util/function/BiFunction;)I"), (4, u "(IIILjava/util/function/BiFunction;)I")] 10

def k15m0 : Method := { name := "<init>", desc := "()V", sig := { parameters := [], returnType := none }, accessFlags := 1, code := none }
def k15c1 : Code := { maxStack := 3, maxLocals := 3, code := jdk_41_method_11_code, exceptionTable := #[], attributes := #[] }
def k15m1 : Method := { name := "checkIndex", desc := "(IILjava/util/function/BiFunction;)I", sig := { parameters := [.int, .int, (.object "java/util/function/BiFunction")], returnType := some .int }, accessFlags := 9, code := some k15c1 }
def k15c2 : Code := { maxStack := 4, maxLocals := 4, code := jdk_41_method_12_code, exceptionTable := #[], attributes := #[] }
def k15m2 : Method := { name := "checkFromToIndex", desc := "(IIILjava/util/function/BiFunction;)I", sig := { parameters := [.int, .int, .int, (.object "java/util/function/BiFunction")], returnType := some .int }, accessFlags := 9, code := some k15c2 }
/-- jdk/internal/util/Preconditions -/
def k15 : Class := { plain "jdk/internal/util/Preconditions" (some 0) with
  accessFlags := 33
  interfaces := #[]
  cf := some (fileOf pool15 24 #[.nestMembers #[55, 131, 125, 114]] #[{ accessFlags := 1, nameIndex := 5, descriptorIndex := 6, attributes := #[] }, { accessFlags := 9, nameIndex := 33, descriptorIndex := 178, attributes := #[] }, { accessFlags := 9, nameIndex := 47, descriptorIndex := 183, attributes := #[] }] 33 2 #[] #[{ accessFlags := 25, nameIndex := 123, descriptorIndex := 124, attributes := #[] }, { accessFlags := 25, nameIndex := 130, descriptorIndex := 124, attributes := #[] }, { accessFlags := 25, nameIndex := 136, descriptorIndex := 124, attributes := #[] }])
  fields := #[{ name := "SIOOBE_FORMATTER", type := (.object "java/util/function/BiFunction"), accessFlags := 25, slot := 0, constantValue := 0 }, { name := "AIOOBE_FORMATTER", type := (.object "java/util/function/BiFunction"), accessFlags := 25, slot := 1, constantValue := 0 }, { name := "IOOBE_FORMATTER", type := (.object "java/util/function/BiFunction"), accessFlags := 25, slot := 2, constantValue := 0 }]
  methods := #[k15m0, k15m1, k15m2]
  instanceTypes := #[]
  staticTypes := #[(.object "java/util/function/BiFunction"), (.object "java/util/function/BiFunction"), (.object "java/util/function/BiFunction")]
  resolved := Array.replicate 194 none
  statics := some 1 }

def pool16 : Array CpInfo := pool [(1, .class_ 2), (0, u "java/lang/String"), (1, .class_ 6), (1, u "java/lang/Object"), (0, u "<init>"), (0, u "()V"), (0, .methodref 1 10), (0, .nameAndType 11 12), (0, u "checkIndex"), (0, u "(II)V"), (1, .class_ 16), (1, u "java/lang/StringLatin1"), (36, u "([BI)C"), (58, .methodref 1 113), (0, .nameAndType 7 114), (0, u "([BB)V"), (6, u "$assertionsDisabled"), (0, u "Z"), (8, .class_ 133), (1, u "java/util/Arrays"), (17, .string 152), (0, u ""), (43, u "newString"), (0, u "([BII)Ljava/lang/String;"), (23, .class_ 223), (1, u "java/lang/StringLatin1$LinesSpliterator"), (8, .methodref 131 233), (0, .nameAndType 234 235), (0, u "copyOfRange"), (0, u "([BII)[B"), (16, u "charAt"), (137, .class_ 391), (0, u "java/lang/StringLatin1$CharsSpliterator")] 3

def k16m0 : Method := { name := "<init>", desc := "()V", sig := { parameters := [], returnType := none }, accessFlags := 0, code := none }
def k16c1 : Code := { maxStack := 2, maxLocals := 2, code := jdk_43_method_2_code, exceptionTable := #[], attributes := #[] }
def k16m1 : Method := { name := "charAt", desc := "([BI)C", sig := { parameters := [(.array .byte), .int], returnType := some .char }, accessFlags := 9, code := some k16c1 }
def k16c2 : Code := { maxStack := 6, maxLocals := 3, code := jdk_43_method_47_code, exceptionTable := #[], attributes := #[] }
def k16m2 : Method := { name := "newString", desc := "([BII)Ljava/lang/String;", sig := { parameters := [(.array .byte), .int, .int], returnType := some (.object "java/lang/String") }, accessFlags := 9, code := some k16c2 }
/-- java/lang/StringLatin1 -/
def k16 : Class := { plain "java/lang/StringLatin1" (some 0) with
  accessFlags := 48
  interfaces := #[]
  cf := some (fileOf pool16 14 #[.nestMembers #[390, 221]] #[{ accessFlags := 0, nameIndex := 7, descriptorIndex := 8, attributes := #[] }, { accessFlags := 9, nameIndex := 252, descriptorIndex := 53, attributes := #[] }, { accessFlags := 9, nameIndex := 196, descriptorIndex := 197, attributes := #[] }] 48 4 #[] #[{ accessFlags := 4120, nameIndex := 121, descriptorIndex := 122, attributes := #[] }])
  fields := #[{ name := "$assertionsDisabled", type := .boolean, accessFlags := 4120, slot := 0, constantValue := 0 }]
  methods := #[k16m0, k16m1, k16m2]
  instanceTypes := #[]
  staticTypes := #[.boolean]
  resolved := Array.replicate 395 none
  statics := none }

def pool17 : Array CpInfo := pool [(2, .class_ 4), (1, u "java/lang/Object"), (0, u "<init>"), (0, u "()V"), (7, .class_ 16), (1, u "java/util/Arrays"), (57, .class_ 76), (1, u "java/util/Arrays$NaturalOrder"), (36, .class_ 115), (1, u "java/util/Arrays$LegacyMergeSort"), (1, u "Z"), (21, u "copyOfRange"), (10, .methodref 151 152), (0, .class_ 153), (0, .nameAndType 154 155), (0, u "java/lang/System"), (0, u "arraycopy"), (0, u "(Ljava/lang/Object;ILjava/lang/Object;II)V"), (148, .methodref 305 306), (0, .class_ 307), (0, .nameAndType 308 309), (0, u "java/lang/Math"), (0, u "min"), (0, u "(II)I"), (29, .methodref 14 340), (0, .nameAndType 341 342), (0, u "copyOfRangeByte"), (0, u "([BII)[B"), (0, .methodref 14 344), (0, .nameAndType 345 346), (0, u "checkLength"), (0, u "(II)V"), (28, .class_ 376), (0, u "java/util/Arrays$ArrayList"), (68, u "$assertionsDisabled"), (269, u "MIN_ARRAY_SORT_GRAN"), (0, u "I"), (2, u "INSERTIONSORT_THRESHOLD"), (255, .class_ 976), (0, u "java/util/Arrays$ArrayItr")] 52

def k17m0 : Method := { name := "<init>", desc := "()V", sig := { parameters := [], returnType := none }, accessFlags := 2, code := none }
def k17c1 : Code := { maxStack := 4, maxLocals := 2, code := jdk_65_method_131_code, exceptionTable := #[], attributes := #[] }
def k17m1 : Method := { name := "checkLength", desc := "(II)V", sig := { parameters := [.int, .int], returnType := none }, accessFlags := 10, code := some k17c1 }
def k17c2 : Code := { maxStack := 3, maxLocals := 3, code := jdk_65_method_132_code, exceptionTable := #[], attributes := #[] }
def k17m2 : Method := { name := "copyOfRange", desc := "([BII)[B", sig := { parameters := [(.array .byte), .int, .int], returnType := some (.array .byte) }, accessFlags := 9, code := some k17c2 }
def k17c3 : Code := { maxStack := 6, maxLocals := 5, code := jdk_65_method_133_code, exceptionTable := #[], attributes := #[] }
def k17m3 : Method := { name := "copyOfRangeByte", desc := "([BII)[B", sig := { parameters := [(.array .byte), .int, .int], returnType := some (.array .byte) }, accessFlags := 10, code := some k17c3 }
/-- java/util/Arrays -/
def k17 : Class := { plain "java/util/Arrays" (some 0) with
  accessFlags := 49
  interfaces := #[]
  cf := some (fileOf pool17 14 #[.nestMembers #[975, 375, 113, 74]] #[{ accessFlags := 2, nameIndex := 5, descriptorIndex := 6, attributes := #[] }, { accessFlags := 10, nameIndex := 345, descriptorIndex := 346, attributes := #[] }, { accessFlags := 9, nameIndex := 139, descriptorIndex := 342, attributes := #[] }, { accessFlags := 10, nameIndex := 341, descriptorIndex := 342, attributes := #[] }] 49 2 #[] #[{ accessFlags := 26, nameIndex := 715, descriptorIndex := 716, attributes := #[] }, { accessFlags := 26, nameIndex := 719, descriptorIndex := 716, attributes := #[] }, { accessFlags := 4120, nameIndex := 445, descriptorIndex := 117, attributes := #[] }])
  fields := #[{ name := "MIN_ARRAY_SORT_GRAN", type := .int, accessFlags := 26, slot := 0, constantValue := 0 }, { name := "INSERTIONSORT_THRESHOLD", type := .int, accessFlags := 26, slot := 1, constantValue := 0 }, { name := "$assertionsDisabled", type := .boolean, accessFlags := 4120, slot := 2, constantValue := 0 }]
  methods := #[k17m0, k17m1, k17m2, k17m3]
  instanceTypes := #[]
  staticTypes := #[.int, .int, .boolean]
  resolved := Array.replicate 1029 none
  statics := none }

def pool18 : Array CpInfo := pool [(1, .class_ 2), (0, u "java/lang/Math"), (1, .class_ 6), (1, u "java/lang/Object"), (0, u "<init>"), (0, u "()V"), (89, .class_ 100), (1, u "java/lang/Math$RandomNumberGeneratorHolder"), (71, u "negativeZeroFloatBits"), (0, u "J"), (2, u "negativeZeroDoubleBits"), (24, u "min"), (43, u "$assertionsDisabled"), (0, u "Z"), (88, u "(II)I"), (2, u "twoToTheDoubleScaleDown"), (0, u "D"), (4, u "twoToTheDoubleScaleUp"), (9, u "E"), (3, u "PI"), (2, u "TAU"), (2, u "DEGREES_TO_RADIANS"), (0, u "RADIANS_TO_DEGREES")] 94

def k18m0 : Method := { name := "<init>", desc := "()V", sig := { parameters := [], returnType := none }, accessFlags := 2, code := none }
def k18c1 : Code := { maxStack := 2, maxLocals := 2, code := jdk_29_method_69_code, exceptionTable := #[], attributes := #[] }
def k18m1 : Method := { name := "min", desc := "(II)I", sig := { parameters := [.int, .int], returnType := some .int }, accessFlags := 9, code := some k18c1 }
/-- java/lang/Math -/
def k18 : Class := { plain "java/lang/Math" (some 0) with
  accessFlags := 49
  interfaces := #[]
  cf := some (fileOf pool18 1 #[.nestMembers #[98]] #[{ accessFlags := 2, nameIndex := 7, descriptorIndex := 8, attributes := #[] }, { accessFlags := 9, nameIndex := 201, descriptorIndex := 335, attributes := #[] }] 49 4 #[] #[{ accessFlags := 25, nameIndex := 354, descriptorIndex := 339, attributes := #[] }, { accessFlags := 25, nameIndex := 358, descriptorIndex := 339, attributes := #[] }, { accessFlags := 25, nameIndex := 361, descriptorIndex := 339, attributes := #[] }, { accessFlags := 26, nameIndex := 364, descriptorIndex := 339, attributes := #[] }, { accessFlags := 26, nameIndex := 365, descriptorIndex := 339, attributes := #[] }, { accessFlags := 26, nameIndex := 172, descriptorIndex := 173, attributes := #[] }, { accessFlags := 26, nameIndex := 176, descriptorIndex := 173, attributes := #[] }, { accessFlags := 8, nameIndex := 344, descriptorIndex := 339, attributes := #[] }, { accessFlags := 8, nameIndex := 338, descriptorIndex := 339, attributes := #[] }, { accessFlags := 4120, nameIndex := 245, descriptorIndex := 246, attributes := #[] }])
  fields := #[{ name := "E", type := .double, accessFlags := 25, slot := 0, constantValue := 0 }, { name := "PI", type := .double, accessFlags := 25, slot := 1, constantValue := 0 }, { name := "TAU", type := .double, accessFlags := 25, slot := 2, constantValue := 0 }, { name := "DEGREES_TO_RADIANS", type := .double, accessFlags := 26, slot := 3, constantValue := 0 }, { name := "RADIANS_TO_DEGREES", type := .double, accessFlags := 26, slot := 4, constantValue := 0 }, { name := "negativeZeroFloatBits", type := .long, accessFlags := 26, slot := 5, constantValue := 0 }, { name := "negativeZeroDoubleBits", type := .long, accessFlags := 26, slot := 6, constantValue := 0 }, { name := "twoToTheDoubleScaleUp", type := .double, accessFlags := 8, slot := 7, constantValue := 0 }, { name := "twoToTheDoubleScaleDown", type := .double, accessFlags := 8, slot := 8, constantValue := 0 }, { name := "$assertionsDisabled", type := .boolean, accessFlags := 4120, slot := 9, constantValue := 0 }]
  methods := #[k18m0, k18m1]
  instanceTypes := #[]
  staticTypes := #[.double, .double, .double, .double, .double, .long, .long, .double, .double, .boolean]
  resolved := Array.replicate 460 none
  statics := none }

def pool19 : Array CpInfo := pool [(9, u "<init>"), (6, .class_ 18), (1, u "java/lang/Object"), (0, u "()V"), (1, .class_ 23), (1, u "jdk/internal/util/ArraysSupport"), (0, u "LOG2_ARRAY_LONG_INDEX_SCALE"), (0, u "I"), (2, u "U"), (0, u "Ljdk/internal/misc/Unsafe;"), (8, u "BIG_ENDIAN"), (0, u "Z"), (8, u "LOG2_BYTE_BIT_SIZE"), (4, u "LOG2_ARRAY_INT_INDEX_SCALE"), (54, u "JLA"), (0, u "Ljdk/internal/access/JavaLangAccess;"), (11, u "LOG2_ARRAY_BOOLEAN_INDEX_SCALE"), (9, u "LOG2_ARRAY_BYTE_INDEX_SCALE"), (5, u "LOG2_ARRAY_CHAR_INDEX_SCALE"), (5, u "LOG2_ARRAY_SHORT_INDEX_SCALE"), (18, u "LOG2_ARRAY_FLOAT_INDEX_SCALE"), (24, u "LOG2_ARRAY_DOUBLE_INDEX_SCALE"), (89, u "T_BOOLEAN"), (2, u "T_CHAR"), (1, u "T_FLOAT"), (1, u "T_DOUBLE"), (1, u "T_BYTE"), (1, u "T_SHORT"), (1, u "T_INT"), (1, u "T_LONG"), (1, u "SOFT_MAX_ARRAY_LENGTH")] 83

def k19m0 : Method := { name := "<init>", desc := "()V", sig := { parameters := [], returnType := none }, accessFlags := 2, code := none }
/-- jdk/internal/util/ArraysSupport -/
def k19 : Class := { plain "jdk/internal/util/ArraysSupport" (some 0) with
  accessFlags := 33
  interfaces := #[]
  cf := some (fileOf pool19 21 #[] #[{ accessFlags := 2, nameIndex := 9, descriptorIndex := 19, attributes := #[] }] 33 16 #[] #[{ accessFlags := 24, nameIndex := 28, descriptorIndex := 29, attributes := #[] }, { accessFlags := 26, nameIndex := 38, descriptorIndex := 39, attributes := #[] }, { accessFlags := 25, nameIndex := 121, descriptorIndex := 25, attributes := #[] }, { accessFlags := 25, nameIndex := 131, descriptorIndex := 25, attributes := #[] }, { accessFlags := 25, nameIndex := 137, descriptorIndex := 25, attributes := #[] }, { accessFlags := 25, nameIndex := 143, descriptorIndex := 25, attributes := #[] }, { accessFlags := 25, nameIndex := 53, descriptorIndex := 25, attributes := #[] }, { accessFlags := 25, nameIndex := 24, descriptorIndex := 25, attributes := #[] }, { accessFlags := 25, nameIndex := 162, descriptorIndex := 25, attributes := #[] }, { accessFlags := 25, nameIndex := 187, descriptorIndex := 25, attributes := #[] }, { accessFlags := 26, nameIndex := 48, descriptorIndex := 25, attributes := #[] }, { accessFlags := 25, nameIndex := 277, descriptorIndex := 25, attributes := #[] }, { accessFlags := 25, nameIndex := 280, descriptorIndex := 25, attributes := #[] }, { accessFlags := 25, nameIndex := 282, descriptorIndex := 25, attributes := #[] }, { accessFlags := 25, nameIndex := 284, descriptorIndex := 25, attributes := #[] }, { accessFlags := 25, nameIndex := 286, descriptorIndex := 25, attributes := #[] }, { accessFlags := 25, nameIndex := 288, descriptorIndex := 25, attributes := #[] }, { accessFlags := 25, nameIndex := 290, descriptorIndex := 25, attributes := #[] }, { accessFlags := 25, nameIndex := 292, descriptorIndex := 25, attributes := #[] }, { accessFlags := 26, nameIndex := 108, descriptorIndex := 109, attributes := #[] }, { accessFlags := 25, nameIndex := 294, descriptorIndex := 25, attributes := #[] }])
  fields := #[{ name := "U", type := (.object "jdk/internal/misc/Unsafe"), accessFlags := 24, slot := 0, constantValue := 0 }, { name := "BIG_ENDIAN", type := .boolean, accessFlags := 26, slot := 1, constantValue := 0 }, { name := "LOG2_ARRAY_BOOLEAN_INDEX_SCALE", type := .int, accessFlags := 25, slot := 2, constantValue := 0 }, { name := "LOG2_ARRAY_BYTE_INDEX_SCALE", type := .int, accessFlags := 25, slot := 3, constantValue := 0 }, { name := "LOG2_ARRAY_CHAR_INDEX_SCALE", type := .int, accessFlags := 25, slot := 4, constantValue := 0 }, { name := "LOG2_ARRAY_SHORT_INDEX_SCALE", type := .int, accessFlags := 25, slot := 5, constantValue := 0 }, { name := "LOG2_ARRAY_INT_INDEX_SCALE", type := .int, accessFlags := 25, slot := 6, constantValue := 0 }, { name := "LOG2_ARRAY_LONG_INDEX_SCALE", type := .int, accessFlags := 25, slot := 7, constantValue := 0 }, { name := "LOG2_ARRAY_FLOAT_INDEX_SCALE", type := .int, accessFlags := 25, slot := 8, constantValue := 0 }, { name := "LOG2_ARRAY_DOUBLE_INDEX_SCALE", type := .int, accessFlags := 25, slot := 9, constantValue := 0 }, { name := "LOG2_BYTE_BIT_SIZE", type := .int, accessFlags := 26, slot := 10, constantValue := 0 }, { name := "T_BOOLEAN", type := .int, accessFlags := 25, slot := 11, constantValue := 0 }, { name := "T_CHAR", type := .int, accessFlags := 25, slot := 12, constantValue := 0 }, { name := "T_FLOAT", type := .int, accessFlags := 25, slot := 13, constantValue := 0 }, { name := "T_DOUBLE", type := .int, accessFlags := 25, slot := 14, constantValue := 0 }, { name := "T_BYTE", type := .int, accessFlags := 25, slot := 15, constantValue := 0 }, { name := "T_SHORT", type := .int, accessFlags := 25, slot := 16, constantValue := 0 }, { name := "T_INT", type := .int, accessFlags := 25, slot := 17, constantValue := 0 }, { name := "T_LONG", type := .int, accessFlags := 25, slot := 18, constantValue := 0 }, { name := "JLA", type := (.object "jdk/internal/access/JavaLangAccess"), accessFlags := 26, slot := 19, constantValue := 0 }, { name := "SOFT_MAX_ARRAY_LENGTH", type := .int, accessFlags := 25, slot := 20, constantValue := 0 }]
  methods := #[k19m0]
  instanceTypes := #[]
  staticTypes := #[(.object "jdk/internal/misc/Unsafe"), .boolean, .int, .int, .int, .int, .int, .int, .int, .int, .int, .int, .int, .int, .int, .int, .int, .int, .int, (.object "jdk/internal/access/JavaLangAccess"), .int]
  resolved := Array.replicate 378 none
  statics := none }

def pool20 : Array CpInfo := pool [(1, u "java/lang/Cloneable"), (0, .class_ 1), (0, u "java/lang/Object"), (0, .class_ 3)] 3

/-- java/lang/Cloneable -/
def k20 : Class := { plain "java/lang/Cloneable" (some 0) with
  accessFlags := 1537
  interfaces := #[]
  cf := some (fileOf pool20 2 #[] #[] 1537 4 #[] #[])
  fields := #[]
  methods := #[]
  instanceTypes := #[]
  staticTypes := #[]
  resolved := Array.replicate 8 none
  statics := none }

/-- the primitive byte -/
def k21 : Class := { plain "byte" none with kind := .primitive 'B', accessFlags := 0x411 }
/-- [B -/
def k22 : Class := { plain "[B" (some 0) with kind := .array 21 .byte, interfaces := #[20, 2], accessFlags := 1041 }

/-- the primitive char -/
def k23 : Class := { plain "char" none with kind := .primitive 'C', accessFlags := 0x411 }
/-- [C -/
def k24 : Class := { plain "[C" (some 0) with kind := .array 23 .char, interfaces := #[20, 2], accessFlags := 1041 }

/-- the primitive int -/
def k25 : Class := { plain "int" none with kind := .primitive 'I', accessFlags := 0x411 }
/-- [I -/
def k26 : Class := { plain "[I" (some 0) with kind := .array 25 .int, interfaces := #[20, 2], accessFlags := 1041 }

def heap : Heap := #[{ cls := 7, slots := #[.long 0, .int 1, .null, .int 0, .null, .int 0, .int 0], vm := .statics 7 },
  { cls := 15, slots := #[.null, .null, .null], vm := .statics 15 }]
def classes : Array Class := #[k0, k1, k2, k3, k4, k5, k6, k7, k8, k9, k10, k11, k12, k13, k14, k15, k16, k17, k18, k19, k20, k21, k22, k23, k24, k25, k26]
def interned : List (Array UInt16 × Addr) := []
def slotsUsed : Nat := 10
def theMethod : MethodId := ⟨1, 1⟩
def args0 : Array Value := #[.int 1, .int 2, .int 3]
def aboutOver (below : List Frame) : State where
  vm := { classes := classes, interned := interned.toArray }
  heap := heap
  slotsUsed := slotsUsed
  threads := #[{ frames := .invoking theMethod args0 :: below }]
def below0 : List Frame := [.native { method := ⟨0, 0⟩, args := #[] }]
def about1 : State := aboutOver below0
def p0 : Program := .bare "" "" ""
def e0 : Env := launch0.env 0 0 0
theorem w_frames : about1.frames = Frame.invoking theMethod args0 :: below0 := rfl
set_option maxRecDepth 65536 in
theorem w_args : argsFit about1.vm theMethod args0 = true := by decide +kernel
set_option maxRecDepth 65536 in
theorem w_heap : heapFits about1 = true := by decide +kernel
set_option maxRecDepth 65536 in
theorem w_runnable : about1.curStatus? = some .runnable := by decide +kernel
set_option maxRecDepth 65536 in
theorem w_alone : about1.alone = true := by decide +kernel
set_option maxRecDepth 65536 in
theorem w_named : about1.methodNamed? x = some theMethod := by decide +kernel
set_option maxRecDepth 65536 in
theorem w_hears : about1.hears theMethod below0 = true := by decide +kernel
set_option maxRecDepth 65536 in
theorem w_ripe : about1.ripe theMethod args0 below0 = true := by decide +kernel
theorem w_running : about1.status = .running := rfl
set_option maxRecDepth 65536 in
theorem w_room : about1.hasRoom e0.platform room_1 = true :=
  launch0.hasRoom_least _ room_1 (by decide +kernel) (by decide +kernel) (by decide +kernel) (by decide +kernel) (by decide +kernel) (by decide +kernel)
theorem allAtoms_all (ts : List Jvm.Cond) (a : Array Jvm.Value) (st : Jvm.State) : (allAtoms ts).before a st = ts.all (fun c => c.before a st) := by
  induction ts with
  | nil => rfl
  | cons c t ih =>
    show (Jvm.Cond.and c (allAtoms t)).before a st = _
    rw [Jvm.Cond.before_and, ih, List.all_cons]
def words1 : List Jvm.Cond := Jvm.Cond.code x code maxLocals ret :: tables_1
/-- a 'code' word, met by the world's own term for the bytes: nothing is compared byte by byte -/
theorem code_word {y : MethodName} {bytes : ByteArray} {mx : Nat} {rt : Option FieldType} {a : Array Value} {s : State} {m : MethodId} {meth : Method} {c : Code} (h1 : s.methodNamed? y = some m) (h2 : s.vm.method? m = some meth) (h3 : meth.code = some c) (h4 : c.code = bytes)
    (h5 : (c.maxLocals == mx && c.exceptionTable.isEmpty && decide (c.maxStack ≤ mostOperands) && decide (meth.sig.returnType = rt) && !meth.locks && decide (parseMethodDescriptor y.desc = some meth.sig)) = true) : (Jvm.Cond.code y bytes mx rt).before a s = true := by
  simp only [Bool.and_eq_true, beq_iff_eq, Bool.not_eq_true', decide_eq_true_eq] at h5
  obtain ⟨⟨⟨⟨⟨g1, g2⟩, g3⟩, g4⟩, g5⟩, g6⟩ := h5
  simp [Cond.before, Cond.holds, Cond.value, h1, h2, h3, h4, g1, g2, g3, g4, g5, g6]
def isCode : Jvm.Cond → Bool
  | .code _ _ _ _ => true
  | _ => false
theorem all_split {L : List Jvm.Cond} {P : Jvm.Cond → Bool} (h1 : L.all (fun c => isCode c || P c) = true) (h2 : ∀ c ∈ L.filter isCode, P c = true) : L.all P = true := by
  refine List.all_eq_true.mpr fun c hc => ?_
  have h := List.all_eq_true.mp h1 c hc
  rcases Bool.eq_false_or_eq_true (isCode c) with hi | hi
  · exact h2 c (List.mem_filter.mpr ⟨hc, hi⟩)
  · simpa [hi] using h
set_option maxRecDepth 65536 in
theorem w_c0 : (Jvm.Cond.code x code maxLocals ret).before args0 about1 = true := code_word (m := ⟨1, 1⟩) (meth := k1m1) (c := k1c1) (by decide +kernel) rfl rfl rfl (by decide +kernel)
set_option maxRecDepth 65536 in
theorem w_c1 : (Jvm.Cond.code ({ cls := "java/lang/String", name := "<init>", desc := "([C)V" } : Jvm.MethodName) jdk_42_method_3_code (2 : Nat) (Option.none : Option Jvm.ClassFile.FieldType)).before args0 about1 = true := code_word (m := ⟨7, 1⟩) (meth := k7m1) (c := k7c1) (by decide +kernel) rfl rfl rfl (by decide +kernel)
set_option maxRecDepth 65536 in
theorem w_c2 : (Jvm.Cond.code ({ cls := "java/lang/String", name := "<init>", desc := "([CIILjava/lang/Void;)V" } : Jvm.MethodName) jdk_42_method_149_code (6 : Nat) (Option.none : Option Jvm.ClassFile.FieldType)).before args0 about1 = true := code_word (m := ⟨7, 8⟩) (meth := k7m8) (c := k7c8) (by decide +kernel) rfl rfl rfl (by decide +kernel)
set_option maxRecDepth 65536 in
theorem w_c3 : (Jvm.Cond.code ({ cls := "java/lang/Object", name := "<init>", desc := "()V" } : Jvm.MethodName) object_method_1_code (1 : Nat) (Option.none : Option Jvm.ClassFile.FieldType)).before args0 about1 = true := code_word (m := ⟨0, 0⟩) (meth := k0m0) (c := k0c0) (by decide +kernel) rfl rfl rfl (by decide +kernel)
set_option maxRecDepth 65536 in
theorem w_c4 : (Jvm.Cond.code ({ cls := "java/lang/StringUTF16", name := "compress", desc := "([CII)[B" } : Jvm.MethodName) jdk_52_method_16_code (6 : Nat) (Option.some (Jvm.ClassFile.FieldType.array Jvm.ClassFile.FieldType.byte))).before args0 about1 = true := code_word (m := ⟨8, 2⟩) (meth := k8m2) (c := k8c2) (by decide +kernel) rfl rfl rfl (by decide +kernel)
set_option maxRecDepth 65536 in
theorem w_c5 : (Jvm.Cond.code ({ cls := "java/lang/StringUTF16", name := "compress", desc := "([CI[BII)I" } : Jvm.MethodName) jdk_52_method_21_code (7 : Nat) (Option.some Jvm.ClassFile.FieldType.int)).before args0 about1 = true := code_word (m := ⟨8, 3⟩) (meth := k8m3) (c := k8c3) (by decide +kernel) rfl rfl rfl (by decide +kernel)
set_option maxRecDepth 65536 in
theorem w_c6 : (Jvm.Cond.code ({ cls := "java/lang/StringUTF16", name := "coderFromArrayLen", desc := "([BI)B" } : Jvm.MethodName) jdk_52_method_15_code (2 : Nat) (Option.some Jvm.ClassFile.FieldType.byte)).before args0 about1 = true := code_word (m := ⟨8, 1⟩) (meth := k8m1) (c := k8c1) (by decide +kernel) rfl rfl rfl (by decide +kernel)
set_option maxRecDepth 65536 in
theorem w_c7 : (Jvm.Cond.code ({ cls := "com/example/undercroft/undercroft/store/UriSpace", name := "<init>", desc := "(Ljava/lang/String;Ljava/lang/String;)V" } : Jvm.MethodName) prog_21_method_1_code (3 : Nat) (Option.none : Option Jvm.ClassFile.FieldType)).before args0 about1 = true := code_word (m := ⟨10, 0⟩) (meth := k10m0) (c := k10c0) (by decide +kernel) rfl rfl rfl (by decide +kernel)
set_option maxRecDepth 65536 in
theorem w_c8 : (Jvm.Cond.code ({ cls := "java/lang/Record", name := "<init>", desc := "()V" } : Jvm.MethodName) jdk_30_method_1_code (1 : Nat) (Option.none : Option Jvm.ClassFile.FieldType)).before args0 about1 = true := code_word (m := ⟨9, 0⟩) (meth := k9m0) (c := k9c0) (by decide +kernel) rfl rfl rfl (by decide +kernel)
set_option maxRecDepth 65536 in
theorem w_c9 : (Jvm.Cond.code ({ cls := "com/example/undercroft/undercroft/store/UriSpace", name := "uriOfPath", desc := "(Ljava/lang/String;)Ljava/lang/String;" } : Jvm.MethodName) prog_21_method_8_code (2 : Nat) (Option.some (Jvm.ClassFile.FieldType.object "java/lang/String"))).before args0 about1 = true := code_word (m := ⟨10, 1⟩) (meth := k10m1) (c := k10c1) (by decide +kernel) rfl rfl rfl (by decide +kernel)
set_option maxRecDepth 65536 in
theorem w_c10 : (Jvm.Cond.code ({ cls := "java/lang/StringBuilder", name := "<init>", desc := "()V" } : Jvm.MethodName) jdk_67_method_1_code (1 : Nat) (Option.none : Option Jvm.ClassFile.FieldType)).before args0 about1 = true := code_word (m := ⟨13, 0⟩) (meth := k13m0) (c := k13c0) (by decide +kernel) rfl rfl rfl (by decide +kernel)
set_option maxRecDepth 65536 in
theorem w_c11 : (Jvm.Cond.code ({ cls := "java/lang/AbstractStringBuilder", name := "<init>", desc := "(I)V" } : Jvm.MethodName) jdk_68_method_2_code (2 : Nat) (Option.none : Option Jvm.ClassFile.FieldType)).before args0 about1 = true := code_word (m := ⟨12, 1⟩) (meth := k12m1) (c := k12c1) (by decide +kernel) rfl rfl rfl (by decide +kernel)
set_option maxRecDepth 65536 in
theorem w_c12 : (Jvm.Cond.code ({ cls := "java/lang/StringBuilder", name := "append", desc := "(Ljava/lang/String;)Ljava/lang/StringBuilder;" } : Jvm.MethodName) jdk_67_method_7_code (2 : Nat) (Option.some (Jvm.ClassFile.FieldType.object "java/lang/StringBuilder"))).before args0 about1 = true := code_word (m := ⟨13, 1⟩) (meth := k13m1) (c := k13c1) (by decide +kernel) rfl rfl rfl (by decide +kernel)
set_option maxRecDepth 65536 in
theorem w_c13 : (Jvm.Cond.code ({ cls := "java/lang/AbstractStringBuilder", name := "append", desc := "(Ljava/lang/String;)Ljava/lang/AbstractStringBuilder;" } : Jvm.MethodName) jdk_68_method_22_code (3 : Nat) (Option.some (Jvm.ClassFile.FieldType.object "java/lang/AbstractStringBuilder"))).before args0 about1 = true := code_word (m := ⟨12, 4⟩) (meth := k12m4) (c := k12c4) (by decide +kernel) rfl rfl rfl (by decide +kernel)
set_option maxRecDepth 65536 in
theorem w_c14 : (Jvm.Cond.code ({ cls := "java/lang/String", name := "length", desc := "()I" } : Jvm.MethodName) jdk_42_method_54_code (1 : Nat) (Option.some Jvm.ClassFile.FieldType.int)).before args0 about1 = true := code_word (m := ⟨7, 3⟩) (meth := k7m3) (c := k7c3) (by decide +kernel) rfl rfl rfl (by decide +kernel)
set_option maxRecDepth 65536 in
theorem w_c15 : (Jvm.Cond.code ({ cls := "java/lang/String", name := "coder", desc := "()B" } : Jvm.MethodName) jdk_42_method_152_code (1 : Nat) (Option.some Jvm.ClassFile.FieldType.byte)).before args0 about1 = true := code_word (m := ⟨7, 11⟩) (meth := k7m11) (c := k7c11) (by decide +kernel) rfl rfl rfl (by decide +kernel)
set_option maxRecDepth 65536 in
theorem w_c16 : (Jvm.Cond.code ({ cls := "java/lang/AbstractStringBuilder", name := "ensureCapacityInternal", desc := "(I)V" } : Jvm.MethodName) jdk_68_method_9_code (3 : Nat) (Option.none : Option Jvm.ClassFile.FieldType)).before args0 about1 = true := code_word (m := ⟨12, 3⟩) (meth := k12m3) (c := k12c3) (by decide +kernel) rfl rfl rfl (by decide +kernel)
set_option maxRecDepth 65536 in
theorem w_c17 : (Jvm.Cond.code ({ cls := "java/lang/AbstractStringBuilder", name := "putStringAt", desc := "(ILjava/lang/String;)V" } : Jvm.MethodName) jdk_68_method_73_code (3 : Nat) (Option.none : Option Jvm.ClassFile.FieldType)).before args0 about1 = true := code_word (m := ⟨12, 8⟩) (meth := k12m8) (c := k12c8) (by decide +kernel) rfl rfl rfl (by decide +kernel)
set_option maxRecDepth 65536 in
theorem w_c18 : (Jvm.Cond.code ({ cls := "java/lang/AbstractStringBuilder", name := "inflateIfNeededFor", desc := "(Ljava/lang/String;)V" } : Jvm.MethodName) jdk_68_method_71_code (2 : Nat) (Option.none : Option Jvm.ClassFile.FieldType)).before args0 about1 = true := code_word (m := ⟨12, 7⟩) (meth := k12m7) (c := k12c7) (by decide +kernel) rfl rfl rfl (by decide +kernel)
set_option maxRecDepth 65536 in
theorem w_c19 : (Jvm.Cond.code ({ cls := "java/lang/String", name := "getBytes", desc := "([BIB)V" } : Jvm.MethodName) jdk_42_method_147_code (4 : Nat) (Option.none : Option Jvm.ClassFile.FieldType)).before args0 about1 = true := code_word (m := ⟨7, 7⟩) (meth := k7m7) (c := k7c7) (by decide +kernel) rfl rfl rfl (by decide +kernel)
set_option maxRecDepth 65536 in
theorem w_c20 : (Jvm.Cond.code ({ cls := "java/lang/String", name := "substring", desc := "(I)Ljava/lang/String;" } : Jvm.MethodName) jdk_42_method_91_code (2 : Nat) (Option.some (Jvm.ClassFile.FieldType.object "java/lang/String"))).before args0 about1 = true := code_word (m := ⟨7, 5⟩) (meth := k7m5) (c := k7c5) (by decide +kernel) rfl rfl rfl (by decide +kernel)
set_option maxRecDepth 65536 in
theorem w_c21 : (Jvm.Cond.code ({ cls := "java/lang/String", name := "substring", desc := "(II)Ljava/lang/String;" } : Jvm.MethodName) jdk_42_method_92_code (5 : Nat) (Option.some (Jvm.ClassFile.FieldType.object "java/lang/String"))).before args0 about1 = true := code_word (m := ⟨7, 6⟩) (meth := k7m6) (c := k7c6) (by decide +kernel) rfl rfl rfl (by decide +kernel)
set_option maxRecDepth 65536 in
theorem w_c22 : (Jvm.Cond.code ({ cls := "java/lang/String", name := "checkBoundsBeginEnd", desc := "(III)V" } : Jvm.MethodName) jdk_42_method_158_code (3 : Nat) (Option.none : Option Jvm.ClassFile.FieldType)).before args0 about1 = true := code_word (m := ⟨7, 14⟩) (meth := k7m14) (c := k7c14) (by decide +kernel) rfl rfl rfl (by decide +kernel)
set_option maxRecDepth 65536 in
theorem w_c23 : (Jvm.Cond.code ({ cls := "jdk/internal/util/Preconditions", name := "checkFromToIndex", desc := "(IIILjava/util/function/BiFunction;)I" } : Jvm.MethodName) jdk_41_method_12_code (4 : Nat) (Option.some Jvm.ClassFile.FieldType.int)).before args0 about1 = true := code_word (m := ⟨15, 2⟩) (meth := k15m2) (c := k15c2) (by decide +kernel) rfl rfl rfl (by decide +kernel)
set_option maxRecDepth 65536 in
theorem w_c24 : (Jvm.Cond.code ({ cls := "java/lang/String", name := "isLatin1", desc := "()Z" } : Jvm.MethodName) jdk_42_method_154_code (1 : Nat) (Option.some Jvm.ClassFile.FieldType.boolean)).before args0 about1 = true := code_word (m := ⟨7, 12⟩) (meth := k7m12) (c := k7c12) (by decide +kernel) rfl rfl rfl (by decide +kernel)
set_option maxRecDepth 65536 in
theorem w_c25 : (Jvm.Cond.code ({ cls := "java/lang/StringLatin1", name := "newString", desc := "([BII)Ljava/lang/String;" } : Jvm.MethodName) jdk_43_method_47_code (3 : Nat) (Option.some (Jvm.ClassFile.FieldType.object "java/lang/String"))).before args0 about1 = true := code_word (m := ⟨16, 2⟩) (meth := k16m2) (c := k16c2) (by decide +kernel) rfl rfl rfl (by decide +kernel)
set_option maxRecDepth 65536 in
theorem w_c26 : (Jvm.Cond.code ({ cls := "java/util/Arrays", name := "copyOfRange", desc := "([BII)[B" } : Jvm.MethodName) jdk_65_method_132_code (3 : Nat) (Option.some (Jvm.ClassFile.FieldType.array Jvm.ClassFile.FieldType.byte))).before args0 about1 = true := code_word (m := ⟨17, 2⟩) (meth := k17m2) (c := k17c2) (by decide +kernel) rfl rfl rfl (by decide +kernel)
set_option maxRecDepth 65536 in
theorem w_c27 : (Jvm.Cond.code ({ cls := "java/util/Arrays", name := "copyOfRangeByte", desc := "([BII)[B" } : Jvm.MethodName) jdk_65_method_133_code (5 : Nat) (Option.some (Jvm.ClassFile.FieldType.array Jvm.ClassFile.FieldType.byte))).before args0 about1 = true := code_word (m := ⟨17, 3⟩) (meth := k17m3) (c := k17c3) (by decide +kernel) rfl rfl rfl (by decide +kernel)
set_option maxRecDepth 65536 in
theorem w_c28 : (Jvm.Cond.code ({ cls := "java/util/Arrays", name := "checkLength", desc := "(II)V" } : Jvm.MethodName) jdk_65_method_131_code (2 : Nat) (Option.none : Option Jvm.ClassFile.FieldType)).before args0 about1 = true := code_word (m := ⟨17, 1⟩) (meth := k17m1) (c := k17c1) (by decide +kernel) rfl rfl rfl (by decide +kernel)
set_option maxRecDepth 65536 in
theorem w_c29 : (Jvm.Cond.code ({ cls := "java/lang/Math", name := "min", desc := "(II)I" } : Jvm.MethodName) jdk_29_method_69_code (2 : Nat) (Option.some Jvm.ClassFile.FieldType.int)).before args0 about1 = true := code_word (m := ⟨18, 1⟩) (meth := k18m1) (c := k18c1) (by decide +kernel) rfl rfl rfl (by decide +kernel)
set_option maxRecDepth 65536 in
theorem w_c30 : (Jvm.Cond.code ({ cls := "java/lang/String", name := "<init>", desc := "([BB)V" } : Jvm.MethodName) jdk_42_method_151_code (3 : Nat) (Option.none : Option Jvm.ClassFile.FieldType)).before args0 about1 = true := code_word (m := ⟨7, 10⟩) (meth := k7m10) (c := k7c10) (by decide +kernel) rfl rfl rfl (by decide +kernel)
set_option maxRecDepth 65536 in
theorem w_c31 : (Jvm.Cond.code ({ cls := "java/lang/StringBuilder", name := "toString", desc := "()Ljava/lang/String;" } : Jvm.MethodName) jdk_67_method_42_code (1 : Nat) (Option.some (Jvm.ClassFile.FieldType.object "java/lang/String"))).before args0 about1 = true := code_word (m := ⟨13, 2⟩) (meth := k13m2) (c := k13c2) (by decide +kernel) rfl rfl rfl (by decide +kernel)
set_option maxRecDepth 65536 in
theorem w_c32 : (Jvm.Cond.code ({ cls := "java/lang/String", name := "<init>", desc := "(Ljava/lang/StringBuilder;)V" } : Jvm.MethodName) jdk_42_method_53_code (2 : Nat) (Option.none : Option Jvm.ClassFile.FieldType)).before args0 about1 = true := code_word (m := ⟨7, 2⟩) (meth := k7m2) (c := k7c2) (by decide +kernel) rfl rfl rfl (by decide +kernel)
set_option maxRecDepth 65536 in
theorem w_c33 : (Jvm.Cond.code ({ cls := "java/lang/String", name := "<init>", desc := "(Ljava/lang/AbstractStringBuilder;Ljava/lang/Void;)V" } : Jvm.MethodName) jdk_42_method_150_code (5 : Nat) (Option.none : Option Jvm.ClassFile.FieldType)).before args0 about1 = true := code_word (m := ⟨7, 9⟩) (meth := k7m9) (c := k7c9) (by decide +kernel) rfl rfl rfl (by decide +kernel)
set_option maxRecDepth 65536 in
theorem w_c34 : (Jvm.Cond.code ({ cls := "java/lang/AbstractStringBuilder", name := "getValue", desc := "()[B" } : Jvm.MethodName) jdk_68_method_64_code (1 : Nat) (Option.some (Jvm.ClassFile.FieldType.array Jvm.ClassFile.FieldType.byte))).before args0 about1 = true := code_word (m := ⟨12, 5⟩) (meth := k12m5) (c := k12c5) (by decide +kernel) rfl rfl rfl (by decide +kernel)
set_option maxRecDepth 65536 in
theorem w_c35 : (Jvm.Cond.code ({ cls := "java/lang/StringBuilder", name := "length", desc := "()I" } : Jvm.MethodName) jdk_67_method_93_code (1 : Nat) (Option.some Jvm.ClassFile.FieldType.int)).before args0 about1 = true := code_word (m := ⟨13, 3⟩) (meth := k13m3) (c := k13c3) (by decide +kernel) rfl rfl rfl (by decide +kernel)
set_option maxRecDepth 65536 in
theorem w_c36 : (Jvm.Cond.code ({ cls := "java/lang/AbstractStringBuilder", name := "length", desc := "()I" } : Jvm.MethodName) jdk_68_method_6_code (1 : Nat) (Option.some Jvm.ClassFile.FieldType.int)).before args0 about1 = true := code_word (m := ⟨12, 2⟩) (meth := k12m2) (c := k12c2) (by decide +kernel) rfl rfl rfl (by decide +kernel)
set_option maxRecDepth 65536 in
theorem w_c37 : (Jvm.Cond.code ({ cls := "java/lang/AbstractStringBuilder", name := "isLatin1", desc := "()Z" } : Jvm.MethodName) jdk_68_method_68_code (1 : Nat) (Option.some Jvm.ClassFile.FieldType.boolean)).before args0 about1 = true := code_word (m := ⟨12, 6⟩) (meth := k12m6) (c := k12c6) (by decide +kernel) rfl rfl rfl (by decide +kernel)
set_option maxRecDepth 65536 in
theorem w_c38 : (Jvm.Cond.code ({ cls := "java/lang/String", name := "charAt", desc := "(I)C" } : Jvm.MethodName) jdk_42_method_56_code (2 : Nat) (Option.some Jvm.ClassFile.FieldType.char)).before args0 about1 = true := code_word (m := ⟨7, 4⟩) (meth := k7m4) (c := k7c4) (by decide +kernel) rfl rfl rfl (by decide +kernel)
set_option maxRecDepth 65536 in
theorem w_c39 : (Jvm.Cond.code ({ cls := "java/lang/StringLatin1", name := "charAt", desc := "([BI)C" } : Jvm.MethodName) jdk_43_method_2_code (2 : Nat) (Option.some Jvm.ClassFile.FieldType.char)).before args0 about1 = true := code_word (m := ⟨16, 1⟩) (meth := k16m1) (c := k16c1) (by decide +kernel) rfl rfl rfl (by decide +kernel)
set_option maxRecDepth 65536 in
theorem w_c40 : (Jvm.Cond.code ({ cls := "java/lang/String", name := "checkIndex", desc := "(II)V" } : Jvm.MethodName) jdk_42_method_155_code (2 : Nat) (Option.none : Option Jvm.ClassFile.FieldType)).before args0 about1 = true := code_word (m := ⟨7, 13⟩) (meth := k7m13) (c := k7c13) (by decide +kernel) rfl rfl rfl (by decide +kernel)
set_option maxRecDepth 65536 in
theorem w_c41 : (Jvm.Cond.code ({ cls := "jdk/internal/util/Preconditions", name := "checkIndex", desc := "(IILjava/util/function/BiFunction;)I" } : Jvm.MethodName) jdk_41_method_11_code (3 : Nat) (Option.some Jvm.ClassFile.FieldType.int)).before args0 about1 = true := code_word (m := ⟨15, 1⟩) (meth := k15m1) (c := k15c1) (by decide +kernel) rfl rfl rfl (by decide +kernel)
def codes1 : List Jvm.Cond := [Jvm.Cond.code x code maxLocals ret, Jvm.Cond.code ({ cls := "java/lang/String", name := "<init>", desc := "([C)V" } : Jvm.MethodName) jdk_42_method_3_code (2 : Nat) (Option.none : Option Jvm.ClassFile.FieldType), Jvm.Cond.code ({ cls := "java/lang/String", name := "<init>", desc := "([CIILjava/lang/Void;)V" } : Jvm.MethodName) jdk_42_method_149_code (6 : Nat) (Option.none : Option Jvm.ClassFile.FieldType), Jvm.Cond.code ({ cls := "java/lang/Object", name := "<init>", desc := "()V" } : Jvm.MethodName) object_method_1_code (1 : Nat) (Option.none : Option Jvm.ClassFile.FieldType), Jvm.Cond.code ({ cls := "java/lang/StringUTF16", name := "compress", desc := "([CII)[B" } : Jvm.MethodName) jdk_52_method_16_code (6 : Nat) (Option.some (Jvm.ClassFile.FieldType.array Jvm.ClassFile.FieldType.byte)), Jvm.Cond.code ({ cls := "java/lang/StringUTF16", name := "compress", desc := "([CI[BII)I" } : Jvm.MethodName) jdk_52_method_21_code (7 : Nat) (Option.some Jvm.ClassFile.FieldType.int), Jvm.Cond.code ({ cls := "java/lang/StringUTF16", name := "coderFromArrayLen", desc := "([BI)B" } : Jvm.MethodName) jdk_52_method_15_code (2 : Nat) (Option.some Jvm.ClassFile.FieldType.byte), Jvm.Cond.code ({ cls := "com/example/undercroft/undercroft/store/UriSpace", name := "<init>", desc := "(Ljava/lang/String;Ljava/lang/String;)V" } : Jvm.MethodName) prog_21_method_1_code (3 : Nat) (Option.none : Option Jvm.ClassFile.FieldType), Jvm.Cond.code ({ cls := "java/lang/Record", name := "<init>", desc := "()V" } : Jvm.MethodName) jdk_30_method_1_code (1 : Nat) (Option.none : Option Jvm.ClassFile.FieldType), Jvm.Cond.code ({ cls := "com/example/undercroft/undercroft/store/UriSpace", name := "uriOfPath", desc := "(Ljava/lang/String;)Ljava/lang/String;" } : Jvm.MethodName) prog_21_method_8_code (2 : Nat) (Option.some (Jvm.ClassFile.FieldType.object "java/lang/String")), Jvm.Cond.code ({ cls := "java/lang/StringBuilder", name := "<init>", desc := "()V" } : Jvm.MethodName) jdk_67_method_1_code (1 : Nat) (Option.none : Option Jvm.ClassFile.FieldType), Jvm.Cond.code ({ cls := "java/lang/AbstractStringBuilder", name := "<init>", desc := "(I)V" } : Jvm.MethodName) jdk_68_method_2_code (2 : Nat) (Option.none : Option Jvm.ClassFile.FieldType), Jvm.Cond.code ({ cls := "java/lang/StringBuilder", name := "append", desc := "(Ljava/lang/String;)Ljava/lang/StringBuilder;" } : Jvm.MethodName) jdk_67_method_7_code (2 : Nat) (Option.some (Jvm.ClassFile.FieldType.object "java/lang/StringBuilder")), Jvm.Cond.code ({ cls := "java/lang/AbstractStringBuilder", name := "append", desc := "(Ljava/lang/String;)Ljava/lang/AbstractStringBuilder;" } : Jvm.MethodName) jdk_68_method_22_code (3 : Nat) (Option.some (Jvm.ClassFile.FieldType.object "java/lang/AbstractStringBuilder")), Jvm.Cond.code ({ cls := "java/lang/String", name := "length", desc := "()I" } : Jvm.MethodName) jdk_42_method_54_code (1 : Nat) (Option.some Jvm.ClassFile.FieldType.int), Jvm.Cond.code ({ cls := "java/lang/String", name := "coder", desc := "()B" } : Jvm.MethodName) jdk_42_method_152_code (1 : Nat) (Option.some Jvm.ClassFile.FieldType.byte), Jvm.Cond.code ({ cls := "java/lang/AbstractStringBuilder", name := "ensureCapacityInternal", desc := "(I)V" } : Jvm.MethodName) jdk_68_method_9_code (3 : Nat) (Option.none : Option Jvm.ClassFile.FieldType), Jvm.Cond.code ({ cls := "java/lang/AbstractStringBuilder", name := "putStringAt", desc := "(ILjava/lang/String;)V" } : Jvm.MethodName) jdk_68_method_73_code (3 : Nat) (Option.none : Option Jvm.ClassFile.FieldType), Jvm.Cond.code ({ cls := "java/lang/AbstractStringBuilder", name := "inflateIfNeededFor", desc := "(Ljava/lang/String;)V" } : Jvm.MethodName) jdk_68_method_71_code (2 : Nat) (Option.none : Option Jvm.ClassFile.FieldType), Jvm.Cond.code ({ cls := "java/lang/String", name := "getBytes", desc := "([BIB)V" } : Jvm.MethodName) jdk_42_method_147_code (4 : Nat) (Option.none : Option Jvm.ClassFile.FieldType), Jvm.Cond.code ({ cls := "java/lang/String", name := "substring", desc := "(I)Ljava/lang/String;" } : Jvm.MethodName) jdk_42_method_91_code (2 : Nat) (Option.some (Jvm.ClassFile.FieldType.object "java/lang/String")), Jvm.Cond.code ({ cls := "java/lang/String", name := "substring", desc := "(II)Ljava/lang/String;" } : Jvm.MethodName) jdk_42_method_92_code (5 : Nat) (Option.some (Jvm.ClassFile.FieldType.object "java/lang/String")), Jvm.Cond.code ({ cls := "java/lang/String", name := "checkBoundsBeginEnd", desc := "(III)V" } : Jvm.MethodName) jdk_42_method_158_code (3 : Nat) (Option.none : Option Jvm.ClassFile.FieldType), Jvm.Cond.code ({ cls := "jdk/internal/util/Preconditions", name := "checkFromToIndex", desc := "(IIILjava/util/function/BiFunction;)I" } : Jvm.MethodName) jdk_41_method_12_code (4 : Nat) (Option.some Jvm.ClassFile.FieldType.int), Jvm.Cond.code ({ cls := "java/lang/String", name := "isLatin1", desc := "()Z" } : Jvm.MethodName) jdk_42_method_154_code (1 : Nat) (Option.some Jvm.ClassFile.FieldType.boolean), Jvm.Cond.code ({ cls := "java/lang/StringLatin1", name := "newString", desc := "([BII)Ljava/lang/String;" } : Jvm.MethodName) jdk_43_method_47_code (3 : Nat) (Option.some (Jvm.ClassFile.FieldType.object "java/lang/String")), Jvm.Cond.code ({ cls := "java/util/Arrays", name := "copyOfRange", desc := "([BII)[B" } : Jvm.MethodName) jdk_65_method_132_code (3 : Nat) (Option.some (Jvm.ClassFile.FieldType.array Jvm.ClassFile.FieldType.byte)), Jvm.Cond.code ({ cls := "java/util/Arrays", name := "copyOfRangeByte", desc := "([BII)[B" } : Jvm.MethodName) jdk_65_method_133_code (5 : Nat) (Option.some (Jvm.ClassFile.FieldType.array Jvm.ClassFile.FieldType.byte)), Jvm.Cond.code ({ cls := "java/util/Arrays", name := "checkLength", desc := "(II)V" } : Jvm.MethodName) jdk_65_method_131_code (2 : Nat) (Option.none : Option Jvm.ClassFile.FieldType), Jvm.Cond.code ({ cls := "java/lang/Math", name := "min", desc := "(II)I" } : Jvm.MethodName) jdk_29_method_69_code (2 : Nat) (Option.some Jvm.ClassFile.FieldType.int), Jvm.Cond.code ({ cls := "java/lang/String", name := "<init>", desc := "([BB)V" } : Jvm.MethodName) jdk_42_method_151_code (3 : Nat) (Option.none : Option Jvm.ClassFile.FieldType), Jvm.Cond.code ({ cls := "java/lang/StringBuilder", name := "toString", desc := "()Ljava/lang/String;" } : Jvm.MethodName) jdk_67_method_42_code (1 : Nat) (Option.some (Jvm.ClassFile.FieldType.object "java/lang/String")), Jvm.Cond.code ({ cls := "java/lang/String", name := "<init>", desc := "(Ljava/lang/StringBuilder;)V" } : Jvm.MethodName) jdk_42_method_53_code (2 : Nat) (Option.none : Option Jvm.ClassFile.FieldType), Jvm.Cond.code ({ cls := "java/lang/String", name := "<init>", desc := "(Ljava/lang/AbstractStringBuilder;Ljava/lang/Void;)V" } : Jvm.MethodName) jdk_42_method_150_code (5 : Nat) (Option.none : Option Jvm.ClassFile.FieldType), Jvm.Cond.code ({ cls := "java/lang/AbstractStringBuilder", name := "getValue", desc := "()[B" } : Jvm.MethodName) jdk_68_method_64_code (1 : Nat) (Option.some (Jvm.ClassFile.FieldType.array Jvm.ClassFile.FieldType.byte)), Jvm.Cond.code ({ cls := "java/lang/StringBuilder", name := "length", desc := "()I" } : Jvm.MethodName) jdk_67_method_93_code (1 : Nat) (Option.some Jvm.ClassFile.FieldType.int), Jvm.Cond.code ({ cls := "java/lang/AbstractStringBuilder", name := "length", desc := "()I" } : Jvm.MethodName) jdk_68_method_6_code (1 : Nat) (Option.some Jvm.ClassFile.FieldType.int), Jvm.Cond.code ({ cls := "java/lang/AbstractStringBuilder", name := "isLatin1", desc := "()Z" } : Jvm.MethodName) jdk_68_method_68_code (1 : Nat) (Option.some Jvm.ClassFile.FieldType.boolean), Jvm.Cond.code ({ cls := "java/lang/String", name := "charAt", desc := "(I)C" } : Jvm.MethodName) jdk_42_method_56_code (2 : Nat) (Option.some Jvm.ClassFile.FieldType.char), Jvm.Cond.code ({ cls := "java/lang/StringLatin1", name := "charAt", desc := "([BI)C" } : Jvm.MethodName) jdk_43_method_2_code (2 : Nat) (Option.some Jvm.ClassFile.FieldType.char), Jvm.Cond.code ({ cls := "java/lang/String", name := "checkIndex", desc := "(II)V" } : Jvm.MethodName) jdk_42_method_155_code (2 : Nat) (Option.none : Option Jvm.ClassFile.FieldType), Jvm.Cond.code ({ cls := "jdk/internal/util/Preconditions", name := "checkIndex", desc := "(IILjava/util/function/BiFunction;)I" } : Jvm.MethodName) jdk_41_method_11_code (3 : Nat) (Option.some Jvm.ClassFile.FieldType.int)]
set_option maxRecDepth 65536 in
theorem codes_eq : words1.filter isCode = codes1 := rfl
theorem w_codes : ∀ c ∈ words1.filter isCode, c.before args0 about1 = true := by
  rw [codes_eq]
  intro c hc
  simp only [codes1, List.mem_cons, List.not_mem_nil, or_false] at hc
  rcases hc with rfl | rfl | rfl | rfl | rfl | rfl | rfl | rfl | rfl | rfl | rfl | rfl | rfl | rfl | rfl | rfl | rfl | rfl | rfl | rfl | rfl | rfl | rfl | rfl | rfl | rfl | rfl | rfl | rfl | rfl | rfl | rfl | rfl | rfl | rfl | rfl | rfl | rfl | rfl | rfl | rfl | rfl
  · exact w_c0
  · exact w_c1
  · exact w_c2
  · exact w_c3
  · exact w_c4
  · exact w_c5
  · exact w_c6
  · exact w_c7
  · exact w_c8
  · exact w_c9
  · exact w_c10
  · exact w_c11
  · exact w_c12
  · exact w_c13
  · exact w_c14
  · exact w_c15
  · exact w_c16
  · exact w_c17
  · exact w_c18
  · exact w_c19
  · exact w_c20
  · exact w_c21
  · exact w_c22
  · exact w_c23
  · exact w_c24
  · exact w_c25
  · exact w_c26
  · exact w_c27
  · exact w_c28
  · exact w_c29
  · exact w_c30
  · exact w_c31
  · exact w_c32
  · exact w_c33
  · exact w_c34
  · exact w_c35
  · exact w_c36
  · exact w_c37
  · exact w_c38
  · exact w_c39
  · exact w_c40
  · exact w_c41
set_option maxRecDepth 65536 in
theorem w_t1 : (words1.take 24).all (fun c => isCode c || c.before args0 about1) = true := by decide +kernel
set_option maxRecDepth 65536 in
theorem w_t2 : ((words1.drop 24).take 24).all (fun c => isCode c || c.before args0 about1) = true := by decide +kernel
set_option maxRecDepth 65536 in
theorem w_t3 : (((words1.drop 24).drop 24).take 24).all (fun c => isCode c || c.before args0 about1) = true := by decide +kernel
set_option maxRecDepth 65536 in
theorem w_t4 : ((((words1.drop 24).drop 24).drop 24).take 24).all (fun c => isCode c || c.before args0 about1) = true := by decide +kernel
set_option maxRecDepth 65536 in
theorem w_t5 : (((((words1.drop 24).drop 24).drop 24).drop 24).take 24).all (fun c => isCode c || c.before args0 about1) = true := by decide +kernel
set_option maxRecDepth 65536 in
theorem w_t6 : ((((((words1.drop 24).drop 24).drop 24).drop 24).drop 24).take 24).all (fun c => isCode c || c.before args0 about1) = true := by decide +kernel
set_option maxRecDepth 65536 in
theorem w_t7 : (((((((words1.drop 24).drop 24).drop 24).drop 24).drop 24).drop 24).take 24).all (fun c => isCode c || c.before args0 about1) = true := by decide +kernel
set_option maxRecDepth 65536 in
theorem w_t8 : ((((((((words1.drop 24).drop 24).drop 24).drop 24).drop 24).drop 24).drop 24).take 24).all (fun c => isCode c || c.before args0 about1) = true := by decide +kernel
set_option maxRecDepth 65536 in
theorem w_t9 : ((((((((words1.drop 24).drop 24).drop 24).drop 24).drop 24).drop 24).drop 24).drop 24).all (fun c => isCode c || c.before args0 about1) = true := by decide +kernel
theorem w_tables : (allAtoms (Jvm.Cond.code x code maxLocals ret :: tables_1)).before args0 about1 = true := by
  rw [allAtoms_all]
  show words1.all (fun c => c.before args0 about1) = true
  refine all_split ?_ w_codes
  rw [← List.take_append_drop 24 words1, List.all_append, w_t1, ← List.take_append_drop 24 (words1.drop 24), List.all_append, w_t2, ← List.take_append_drop 24 ((words1.drop 24).drop 24), List.all_append, w_t3, ← List.take_append_drop 24 (((words1.drop 24).drop 24).drop 24), List.all_append, w_t4, ← List.take_append_drop 24 ((((words1.drop 24).drop 24).drop 24).drop 24), List.all_append, w_t5, ← List.take_append_drop 24 (((((words1.drop 24).drop 24).drop 24).drop 24).drop 24), List.all_append, w_t6, ← List.take_append_drop 24 ((((((words1.drop 24).drop 24).drop 24).drop 24).drop 24).drop 24), List.all_append, w_t7, ← List.take_append_drop 24 (((((((words1.drop 24).drop 24).drop 24).drop 24).drop 24).drop 24).drop 24), List.all_append, w_t8, w_t9]
  rfl
set_option maxRecDepth 65536 in
theorem w_rest : rest_1_c.before args0 about1 = true := by decide +kernel
set_option maxRecDepth 65536 in
theorem w_case : (Jvm.Cond.and given_1 narrow_1).before args0 about1 = true := by decide +kernel
set_option maxRecDepth 65536 in
theorem w_consts : constsHeld consts_1 about1 := Jvm.Lit.constsHeldB_iff.mp (by decide +kernel)
theorem w_applies : (headSpec (Jvm.Cond.code x code maxLocals ret :: tables_1) room_1).applies x e0.platform about1 = true :=
  (Spec.applies_iff w_frames).mpr ⟨w_running, w_runnable, w_alone, w_named, w_hears, w_ripe, w_room, w_tables⟩
theorem atStart : AtStart classFile x code maxLocals ret World_1 tables_1 room_1 Calls_1 rest_1 Pre_1 launch0 p0 e0 about1 theMethod args0 below0 :=
  ⟨lists_1, trivial, launch0.admits_env _ _ _, launch0.least_env, fairChoices_fair.cas, fairChoices_fair.clock, w_frames, w_args, w_heap, w_applies, ⟨w_consts, trivial⟩, w_rest, w_case⟩
end start1
theorem witness_1 : WitnessClaimed_1 := ⟨start1.p0, start1.e0, start1.about1, start1.theMethod, start1.args0, start1.below0, start1.atStart⟩
end Jvm.Pilot.@@N@@
