import JvmDerived
import JvmDerived.Pilot.@@N@@Statement
import JvmDerived.Pilot.@@N@@Code
set_option linter.unusedVariables false
set_option linter.unusedSimpArgs false
/- laws to paste: Road.backV (cut by pick.py; bodies as the Statement names them) -/
namespace Jvm.Pilot.@@N@@
namespace StrChars
open Jvm Sem ClassFile Op Lib Jvm.Stand Jvm.Free.XT Jvm.Free.ALB Jvm.Free.JM Jvm.Free
open Jvm.Lib.Cold (StaticIs)
/-- a char array whose places are chars -/
def Ch (a : Addr) (A : Cell) (U : State) : Prop := Arr .char a A U ∧ Typed .char A
theorem Ch.mv {a : Addr} {A : Cell} {U U' : State} (h : Ch a A U) (hal : U.vm.Alike U'.vm) (hh : U'.heap = U.heap) : Ch a A U' := ⟨h.1.mv hal hh, h.2⟩
theorem Ch.keep {a : Addr} {A : Cell} {U U' : State} (h : Ch a A U) (hal : U.vm.Alike U'.vm) (hk : U'.heap[a]? = some A) : Ch a A U' := ⟨h.1.keep hal hk, h.2⟩
/-- what place i of a char[]'s cell holds -/
def cv (A : Cell) (i : Nat) : Int32 := match A.slots[i]? with | some (.int x) => x | _ => 0
theorem Ch.get {a : Addr} {A : Cell} {U : State} (h : Ch a A U) {i : Nat} (hi : i < A.slots.size) : A.slots[i]? = some (.int (cv A i)) := by
  have e := Array.getElem?_eq_getElem hi
  have f := h.2 i _ e
  unfold cv; rw [e]
  generalize A.slots[i] = v at f
  cases v <;> simp [fits] at f ⊢
/-- the byte that i2b leaves of a char -/
def lo8 (x : Int32) : Int32 := x.toInt8.toInt32
theorem fits_lo8 (y : Int32) : fits .byte (.int (lo8 y)) = true := by
  have h1 := y.toInt8.le_toInt
  have h2 := y.toInt8.toInt_lt
  simp only [lo8, fits, Bool.and_eq_true, decide_eq_true_eq, Int32.le_iff_toInt_le, Int8.toInt_toInt32, show (-128 : Int32).toInt = -128 from by decide, show (127 : Int32).toInt = 127 from by decide]
  omega
/-- A' is A but that each place j of lo .. hi - 1 holds f j -/
def Laid (A A' : Cell) (lo hi : Nat) (f : Nat → Value) : Prop := A'.cls = A.cls ∧ A'.vm = A.vm ∧ A'.slots.size = A.slots.size ∧ ∀ i, A'.slots[i]? = if lo ≤ i ∧ i < hi then some (f i) else A.slots[i]?
theorem Laid.zero (A : Cell) (lo : Nat) (f : Nat → Value) : Laid A A lo (lo + 0) f := ⟨rfl, rfl, rfl, fun i => by rw [if_neg (by omega)]⟩
theorem Laid.step {A Ak : Cell} {lo k : Nat} {f : Nat → Value} {v : Value} (h : Laid A Ak lo k f) (hlo : lo ≤ k) (hk : k < Ak.slots.size) (hv : v = f k) : Laid A (Ak.setSlot k v) lo (k + 1) f := by
  refine ⟨h.1, h.2.1, by simpa [Cell.setSlot] using h.2.2.1, fun i => ?_⟩
  by_cases e : k = i
  · subst e; rw [Cell.slots_setSlot_self v hk, if_pos (by omega), hv]
  · rw [Cell.slots_setSlot_ne v e, h.2.2.2 i]
    by_cases q : lo ≤ i ∧ i < k
    · rw [if_pos q, if_pos (by omega)]
    · rw [if_neg q, if_neg (by omega)]
def U16 : String := "java/lang/StringUTF16"
namespace Cmp5
def yN : MethodName := ⟨"java/lang/StringUTF16", "compress", "([CI[BII)I"⟩
abbrev yB : ByteArray := jdk_52_method_21_code
theorem d0 : decode yB 0 = .ok (.iconst 0, 1) := by decide +kernel
theorem d1 : decode yB 1 = .ok (.istore 5, 2) := by decide +kernel
theorem d3 : decode yB 3 = .ok (.iload 5, 2) := by decide +kernel
theorem d5 : decode yB 5 = .ok (.iload 4, 2) := by decide +kernel
theorem d7 : decode yB 7 = .ok (.if_icmp (.ge) 37, 3) := by decide +kernel
theorem d10 : decode yB 10 = .ok (.aload_n 0, 1) := by decide +kernel
theorem d11 : decode yB 11 = .ok (.iload_n 1, 1) := by decide +kernel
theorem d12 : decode yB 12 = .ok (.caload, 1) := by decide +kernel
theorem d13 : decode yB 13 = .ok (.istore 6, 2) := by decide +kernel
theorem d15 : decode yB 15 = .ok (.iload 6, 2) := by decide +kernel
theorem d17 : decode yB 17 = .ok (.sipush 255, 3) := by decide +kernel
theorem d20 : decode yB 20 = .ok (.if_icmp (.le) 6, 3) := by decide +kernel
theorem d26 : decode yB 26 = .ok (.aload_n 2, 1) := by decide +kernel
theorem d27 : decode yB 27 = .ok (.iload_n 3, 1) := by decide +kernel
theorem d28 : decode yB 28 = .ok (.iload 6, 2) := by decide +kernel
theorem d30 : decode yB 30 = .ok (.i2b, 1) := by decide +kernel
theorem d31 : decode yB 31 = .ok (.bastore, 1) := by decide +kernel
theorem d32 : decode yB 32 = .ok (.iinc 1 1, 3) := by decide +kernel
theorem d35 : decode yB 35 = .ok (.iinc 3 1, 3) := by decide +kernel
theorem d38 : decode yB 38 = .ok (.iinc 5 1, 3) := by decide +kernel
theorem d41 : decode yB 41 = .ok (.goto (-38), 3) := by decide +kernel
theorem d44 : decode yB 44 = .ok (.iload 4, 2) := by decide +kernel
theorem d46 : decode yB 46 = .ok (.ireturn, 1) := by decide +kernel
def site : List Cond := []
def tab : Cond := tabOf yN yB 7 (some .int) site
def P (b : Addr) (A : Cell) (d : Addr) (B : Cell) (o q len : Nat) (args : Array Value) (s : State) : Prop := args = #[.ref b, .int (Int32.ofNat o), .ref d, .int (Int32.ofNat q), .int (Int32.ofNat len)] ∧ Ch b A s ∧ Arr .byte d B s ∧ b ≠ d ∧ o + len ≤ A.slots.size ∧ q + len ≤ B.slots.size ∧ ∀ i, i < len → ¬ 255 < cv A (o + i)
def E (b : Addr) (A : Cell) (d : Addr) (B : Cell) (o q len : Nat) (r : Option Value) (s u : State) : Prop := r = some (.int (Int32.ofNat len)) ∧ ∃ B', Put d B' s u ∧ Laid B B' q (q + len) (fun j => Value.int (lo8 (cv A (o + (j - q)))))
/-- no char of the range above 255: len; the places written hold each char's low byte -/
theorem law (l : Launch) (b : Addr) (A : Cell) (d : Addr) (B : Cell) (o q len : Nat) : Law l yN 5 5 0 0 yB 7 (some .int) site (P b A d B o q len) (E b A d B o q len) (copyLocs d q len) 0 0 := by
  refine Law.of_walk (plainFor_of_name (by decide +kernel)) (by decide +kernel) (by decide +kernel) (by decide) (fun _ _ h => by rw [h.1]; rfl) (fun _ U U' hal hh h => ⟨h.1, h.2.1.mv hal hh, h.2.2.1.mv hal hh, h.2.2.2⟩) (fun r U U' V V' h1 hal h2 h => ⟨h.1, h.2.elim fun B' q => ⟨B', q.1.mv h1 h2, q.2⟩⟩) ?_
  intro p e s m args below meth c s₁ X0 hexec hbytes hml hret hlk hnm hown hh0 W hP
  obtain ⟨rfl, hA, hB, hne, l1, l2, hp⟩ := hP
  have c1 : Steps p.tables e below (s₁.setTop (entryFrame m #[.ref b, .int (Int32.ofNat o), .ref d, .int (Int32.ofNat q), .int (Int32.ofNat len)] 7)) (s₁.setTop (mkF m 0 #[.val (.ref b), .val (.int (Int32.ofNat o)), .val (.ref d), .val (.int (Int32.ofNat q)), .val (.int (Int32.ofNat len)), .unset, .unset] [])) := entry rfl
  have hA0 := hA.1.mv X0.warmed.alike hh0
  have hB0 := hB.mv X0.warmed.alike hh0
  have a31 := hA.1.2.2.2
  have c2 : Steps p.tables e below (s₁.setTop (entryFrame m #[.ref b, .int (Int32.ofNat o), .ref d, .int (Int32.ofNat q), .int (Int32.ofNat len)] 7)) (s₁.setTop (mkF m 3 #[.val (.ref b), .val (.int (Int32.ofNat o)), .val (.ref d), .val (.int (Int32.ofNat q)), .val (.int (Int32.ofNat len)), .val (.int 0), .unset] [])) := c1.trans (by
    refine iconstV X0.here hexec rfl 0 (hb hbytes d0) (by decide) ?_
    refine XS.istore X0.here hexec rfl (hb hbytes d1) rfl rfl ?_
    exact Steps.refl _)
  have loop : ∀ (r i : Nat), i + r = len → ∀ (z : Slot), (z = .unset ∨ ∃ w, z = .val w ∧ w.category = 1) → ∀ (Tl : State) (Bk : Cell), Stand p l e { frames := 0, locals := 0, cells := 0, slots := 0 } s m #[.ref b, .int (Int32.ofNat o), .ref d, .int (Int32.ofNat q), .int (Int32.ofNat len)] below meth c Tl ([] ++ copyLocs d q i) 0 0 → Put d Bk s₁ Tl → Laid B Bk q (q + i) (fun j => Value.int (lo8 (cv A (o + (j - q))))) →
      Steps p.tables e below (s₁.setTop (entryFrame m #[.ref b, .int (Int32.ofNat o), .ref d, .int (Int32.ofNat q), .int (Int32.ofNat len)] 7)) (Tl.setTop (mkF m 3 #[.val (.ref b), .val (.int (Int32.ofNat (o + i))), .val (.ref d), .val (.int (Int32.ofNat (q + i))), .val (.int (Int32.ofNat len)), .val (.int (Int32.ofNat i)), z] [])) → ∃ (T' : State) (B' : Cell) (z' : Slot), Stand p l e { frames := 0, locals := 0, cells := 0, slots := 0 } s m #[.ref b, .int (Int32.ofNat o), .ref d, .int (Int32.ofNat q), .int (Int32.ofNat len)] below meth c T' ([] ++ copyLocs d q len) 0 0 ∧ Put d B' s₁ T' ∧ Laid B B' q (q + len) (fun j => Value.int (lo8 (cv A (o + (j - q))))) ∧
      Steps p.tables e below (s₁.setTop (entryFrame m #[.ref b, .int (Int32.ofNat o), .ref d, .int (Int32.ofNat q), .int (Int32.ofNat len)] 7)) (T'.setTop (mkF m 3 #[.val (.ref b), .val (.int (Int32.ofNat (o + len))), .val (.ref d), .val (.int (Int32.ofNat (q + len))), .val (.int (Int32.ofNat len)), .val (.int (Int32.ofNat len)), z'] [])) := by
    intro r
    induction r with
    | zero =>
      intro i hi z hz Tl Bk Xl pl fl cl
      have hil : i = len := by omega
      rw [hil] at Xl fl cl
      exact ⟨Tl, Bk, z, Xl, pl, fl, cl⟩
    | succ r ih =>
      intro i hi z hz Tl Bk Xl pl fl cl
      have all := X0.warmed.alike.symm.trans Xl.warmed.alike
      have hAl := hA0.keep all (pl.other hne hA0.1)
      have hBk := hB0.like all pl.1 fl.1 fl.2.1 fl.2.2.1
      have hlt : q + i < Bk.slots.size := by rw [fl.2.2.1]; omega
      have c3 : Steps p.tables e below (s₁.setTop (entryFrame m #[.ref b, .int (Int32.ofNat o), .ref d, .int (Int32.ofNat q), .int (Int32.ofNat len)] 7)) (Tl.setTop (mkF m 12 #[.val (.ref b), .val (.int (Int32.ofNat (o + i))), .val (.ref d), .val (.int (Int32.ofNat (q + i))), .val (.int (Int32.ofNat len)), .val (.int (Int32.ofNat i)), z] [.int (Int32.ofNat (o + i)), .ref b])) := cl.trans (by
        refine XS.iload Xl.here hexec rfl (hb hbytes d3) rfl ?_
        refine XS.iload Xl.here hexec rfl (hb hbytes d5) rfl ?_
        refine XS.icmpNo Xl.here hexec rfl (hb hbytes d7) rfl (ii_ge_f (lt32 (by omega) (by omega))) ?_
        refine XS.aloadN Xl.here hexec rfl (hb hbytes d10) rfl rfl ?_
        refine XS.iloadN Xl.here hexec rfl (hb hbytes d11) rfl ?_
        exact Steps.refl _)
      have c4 : Steps p.tables e below (s₁.setTop (entryFrame m #[.ref b, .int (Int32.ofNat o), .ref d, .int (Int32.ofNat q), .int (Int32.ofNat len)] 7)) (Tl.setTop (mkF m 13 #[.val (.ref b), .val (.int (Int32.ofNat (o + i))), .val (.ref d), .val (.int (Int32.ofNat (q + i))), .val (.int (Int32.ofNat len)), .val (.int (Int32.ofNat i)), z] [.int (cv A (o + i))])) := c3.trans (by
        refine Xl.aget hexec hAl rfl (hA.get (i := o + i) (by omega)) rfl rfl (hb hbytes d12) ?_
        exact Steps.refl _)
      have c5 : Steps p.tables e below (s₁.setTop (entryFrame m #[.ref b, .int (Int32.ofNat o), .ref d, .int (Int32.ofNat q), .int (Int32.ofNat len)] 7)) (Tl.setTop (mkF m 15 #[.val (.ref b), .val (.int (Int32.ofNat (o + i))), .val (.ref d), .val (.int (Int32.ofNat (q + i))), .val (.int (Int32.ofNat len)), .val (.int (Int32.ofNat i)), .val (.int (cv A (o + i)))] [])) := c4.trans (by
        refine XS.istoreS Xl.here hexec rfl (hb hbytes d13) rfl rfl hz ?_
        exact Steps.refl _)
      have c6 : Steps p.tables e below (s₁.setTop (entryFrame m #[.ref b, .int (Int32.ofNat o), .ref d, .int (Int32.ofNat q), .int (Int32.ofNat len)] 7)) (Tl.setTop (mkF m 31 #[.val (.ref b), .val (.int (Int32.ofNat (o + i))), .val (.ref d), .val (.int (Int32.ofNat (q + i))), .val (.int (Int32.ofNat len)), .val (.int (Int32.ofNat i)), .val (.int (cv A (o + i)))] [.int (lo8 (cv A (o + i))), .int (Int32.ofNat (q + i)), .ref d])) := c5.trans (by
        refine XS.iload Xl.here hexec rfl (hb hbytes d15) rfl ?_
        refine sipushV Xl.here hexec rfl 255 (hb hbytes d17) (by decide) ?_
        refine XS.icmpYes Xl.here hexec rfl (pc0 := 20) rfl (hb hbytes d20) rfl (ii_le_t (hp i (by omega))) (by decide) rfl ?_
        refine XS.aloadN Xl.here hexec rfl (hb hbytes d26) rfl rfl ?_
        refine XS.iloadN Xl.here hexec rfl (hb hbytes d27) rfl ?_
        refine XS.iload Xl.here hexec rfl (hb hbytes d28) rfl ?_
        refine i2b Xl.here hexec rfl (hb hbytes d30) rfl ?_
        exact Steps.refl _)
      obtain ⟨T7, X7, p7, st7⟩ := Xl.aput hexec hBk rfl hlt rfl (fits_lo8 (cv A (o + i))) (g := (mkF m 31 #[.val (.ref b), .val (.int (Int32.ofNat (o + i))), .val (.ref d), .val (.int (Int32.ofNat (q + i))), .val (.int (Int32.ofNat len)), .val (.int (Int32.ofNat i)), .val (.int (cv A (o + i)))] [.int (lo8 (cv A (o + i))), .int (Int32.ofNat (q + i)), .ref d])) rfl (rest := []) rfl (hb hbytes d31)
      have c8 : Steps p.tables e below (s₁.setTop (entryFrame m #[.ref b, .int (Int32.ofNat o), .ref d, .int (Int32.ofNat q), .int (Int32.ofNat len)] 7)) (T7.setTop (mkF m 32 #[.val (.ref b), .val (.int (Int32.ofNat (o + i))), .val (.ref d), .val (.int (Int32.ofNat (q + i))), .val (.int (Int32.ofNat len)), .val (.int (Int32.ofNat i)), .val (.int (cv A (o + i)))] [])) := c6.trans (st7 _ (Steps.refl _))
      have c9 : Steps p.tables e below (s₁.setTop (entryFrame m #[.ref b, .int (Int32.ofNat o), .ref d, .int (Int32.ofNat q), .int (Int32.ofNat len)] 7)) (T7.setTop (mkF m 3 #[.val (.ref b), .val (.int (Int32.ofNat (o + i) + 1)), .val (.ref d), .val (.int (Int32.ofNat (q + i) + 1)), .val (.int (Int32.ofNat len)), .val (.int (Int32.ofNat i + 1)), .val (.int (cv A (o + i)))] [])) := c8.trans (by
        refine iincV X7.here hexec rfl 1 (hb hbytes d32) (by decide) rfl rfl ?_
        refine iincV X7.here hexec rfl 1 (hb hbytes d35) (by decide) rfl rfl ?_
        refine iincV X7.here hexec rfl 1 (hb hbytes d38) (by decide) rfl rfl ?_
        refine XS.goto X7.here hexec rfl (pc0 := 41) rfl (hb hbytes d41) (by decide) rfl ?_
        exact Steps.refl _)
      have c10 : Steps p.tables e below (s₁.setTop (entryFrame m #[.ref b, .int (Int32.ofNat o), .ref d, .int (Int32.ofNat q), .int (Int32.ofNat len)] 7)) (T7.setTop (mkF m 3 #[.val (.ref b), .val (.int (Int32.ofNat (o + (i + 1)))), .val (.ref d), .val (.int (Int32.ofNat (q + (i + 1)))), .val (.int (Int32.ofNat len)), .val (.int (Int32.ofNat (i + 1))), .val (.int (cv A (o + i)))] [])) := by
        have := c9
        rw [succ32, succ32, succ32] at this
        exact this
      exact ih (i + 1) (by omega) _ (Or.inr ⟨_, rfl, rfl⟩) T7 _ (by rw [copyLocs_step, ← List.append_assoc]; exact X7) (pl.trans p7) (fl.step (by omega) hlt (by simp)) c10
  obtain ⟨T9, B9, z9, X9, p9, f9, g9⟩ := loop len 0 (by omega) .unset (Or.inl rfl) s₁ B (by simpa [copyLocs] using X0) ⟨hB0.1, fun _ _ => rfl, rfl⟩ (Laid.zero _ _ _) c2
  have c11 : Steps p.tables e below (s₁.setTop (entryFrame m #[.ref b, .int (Int32.ofNat o), .ref d, .int (Int32.ofNat q), .int (Int32.ofNat len)] 7)) (T9.setTop (mkF m 46 #[.val (.ref b), .val (.int (Int32.ofNat (o + len))), .val (.ref d), .val (.int (Int32.ofNat (q + len))), .val (.int (Int32.ofNat len)), .val (.int (Int32.ofNat len)), z9] [.int (Int32.ofNat len)])) := g9.trans (by
    refine XS.iload X9.here hexec rfl (hb hbytes d3) rfl ?_
    refine XS.iload X9.here hexec rfl (hb hbytes d5) rfl ?_
    refine XS.icmpYes X9.here hexec rfl (pc0 := 7) rfl (hb hbytes d7) rfl (ii_ge_t (nlt32 (by omega) (Nat.le_refl _))) (by decide) rfl ?_
    refine XS.iload X9.here hexec rfl (hb hbytes d44) rfl ?_
    exact Steps.refl _)
  exact ⟨T9, some (.int (Int32.ofNat len)), _, _, _, X9, by simp, rfl, rfl, (fun h => by cases h), ⟨rfl, B9, p9.from hh0, f9⟩, fun fs hl => c11.trans (X9.ireturnOut hexec hret rfl (Or.inl rfl) (hb hbytes d46) hl)⟩
end Cmp5
namespace Cmp3
def yN : MethodName := ⟨"java/lang/StringUTF16", "compress", "([CII)[B"⟩
abbrev yB : ByteArray := jdk_52_method_16_code
theorem d0 : decode yB 0 = .ok (.iload_n 2, 1) := by decide +kernel
theorem d1 : decode yB 1 = .ok (.newarray .byte, 2) := by decide +kernel
theorem d3 : decode yB 3 = .ok (.astore_n 3, 1) := by decide +kernel
theorem d4 : decode yB 4 = .ok (.aload_n 0, 1) := by decide +kernel
theorem d5 : decode yB 5 = .ok (.iload_n 1, 1) := by decide +kernel
theorem d6 : decode yB 6 = .ok (.aload_n 3, 1) := by decide +kernel
theorem d7 : decode yB 7 = .ok (.iconst 0, 1) := by decide +kernel
theorem d8 : decode yB 8 = .ok (.iload_n 2, 1) := by decide +kernel
theorem d9 : decode yB 9 = .ok (.invokestatic 115, 3) := by decide +kernel
theorem d12 : decode yB 12 = .ok (.istore 4, 2) := by decide +kernel
theorem d14 : decode yB 14 = .ok (.iload 4, 2) := by decide +kernel
theorem d16 : decode yB 16 = .ok (.iload_n 2, 1) := by decide +kernel
theorem d17 : decode yB 17 = .ok (.if_icmp (.eq) 40, 3) := by decide +kernel
theorem d57 : decode yB 57 = .ok (.aload_n 3, 1) := by decide +kernel
theorem d58 : decode yB 58 = .ok (.areturn, 1) := by decide +kernel
def site : List Cond := [.arrayClass .byte, Cmp5.tab] ++ staticW U16 115 Cmp5.yN
def tab : Cond := tabOf yN yB 6 (some (.array .byte)) site
def P (b : Addr) (A : Cell) (o len : Nat) (args : Array Value) (s : State) : Prop := args = #[.ref b, .int (Int32.ofNat o), .int (Int32.ofNat len)] ∧ Ch b A s ∧ o + len ≤ A.slots.size ∧ len ≤ 536870912 ∧ ∀ i, i < len → ¬ 255 < cv A (o + i)
def E (b : Addr) (A : Cell) (o len : Nat) (r : Option Value) (s u : State) : Prop := NewArr .byte "[B" len (fun j => .int (lo8 (cv A (o + j)))) r s u ∧ u.heap.size = s.heap.size + 1
/-- no char of the range above 255: a new byte[] of their low bytes -/
theorem law (l : Launch) (b : Addr) (A : Cell) (o len : Nat) : Law l yN 3 3 1 18 yB 6 (some (.array .byte)) site (P b A o len) (E b A o len) [] 1 len := by
  refine Law.of_walk (plainFor_of_name (by decide +kernel)) (by decide +kernel) (by decide +kernel) (by decide) (fun _ _ h => by rw [h.1]; rfl) (fun _ U U' hal hh h => ⟨h.1, h.2.1.mv hal hh, h.2.2⟩) (fun r U U' V V' h1 hal h2 h => ⟨NewArr.mv r U U' V V' h1 hal h2 h.1, by rw [h1, h2]; exact h.2⟩) ?_
  intro p e s m args below meth c s₁ X0 hexec hbytes hml hret hlk hnm hown hh0 W hP
  obtain ⟨rfl, hA, l1, l2, hp⟩ := hP
  have a31 := hA.1.2.2.2
  have c1 : Steps p.tables e below (s₁.setTop (entryFrame m #[.ref b, .int (Int32.ofNat o), .int (Int32.ofNat len)] 6)) (s₁.setTop (mkF m 0 #[.val (.ref b), .val (.int (Int32.ofNat o)), .val (.int (Int32.ofNat len)), .unset, .unset, .unset] [])) := entry rfl
  have c2 : Steps p.tables e below (s₁.setTop (entryFrame m #[.ref b, .int (Int32.ofNat o), .int (Int32.ofNat len)] 6)) (s₁.setTop (mkF m 1 #[.val (.ref b), .val (.int (Int32.ofNat o)), .val (.int (Int32.ofNat len)), .unset, .unset, .unset] [.int (Int32.ofNat len)])) := c1.trans (by
    refine XS.iloadN X0.here hexec rfl (hb hbytes d0) rfl ?_
    exact Steps.refl _)
  obtain ⟨T3, B3, X3, ba3, bs3, bv3, bh3, bf3, st3⟩ := X0.anew hexec (atype := .byte) (wk W (.arrayClass .byte)) rfl (by show len * 1 ≤ _; omega) (by omega) (g := (mkF m 1 #[.val (.ref b), .val (.int (Int32.ofNat o)), .val (.int (Int32.ofNat len)), .unset, .unset, .unset] [.int (Int32.ofNat len)])) rfl (hb hbytes d1) (rest := []) rfl (Nat.le_refl _) (by show 0 + len ≤ len; omega)
  rw [hh0] at ba3 st3
  have kp3 : XT.Kept s T3 := (XT.Kept.of_eq hh0).push bh3
  have hA3 := hA.keep X3.warmed.alike (kp3 _ _ hA.1.1)
  have hne : b ≠ s.heap.size := hA.1.ne
  have c4 : Steps p.tables e below (s₁.setTop (entryFrame m #[.ref b, .int (Int32.ofNat o), .int (Int32.ofNat len)] 6)) (T3.setTop (mkF m 3 #[.val (.ref b), .val (.int (Int32.ofNat o)), .val (.int (Int32.ofNat len)), .unset, .unset, .unset] [.ref s.heap.size])) := c2.trans (st3 _ (Steps.refl _))
  have c5 : Steps p.tables e below (s₁.setTop (entryFrame m #[.ref b, .int (Int32.ofNat o), .int (Int32.ofNat len)] 6)) (T3.setTop (mkF m 9 #[.val (.ref b), .val (.int (Int32.ofNat o)), .val (.int (Int32.ofNat len)), .val (.ref s.heap.size), .unset, .unset] [.int (Int32.ofNat len), .int 0, .ref s.heap.size, .int (Int32.ofNat o), .ref b])) := c4.trans (by
    refine XS.astoreN X3.here hexec rfl (hb hbytes d3) rfl rfl rfl ?_
    refine XS.aloadN X3.here hexec rfl (hb hbytes d4) rfl rfl ?_
    refine XS.iloadN X3.here hexec rfl (hb hbytes d5) rfl ?_
    refine XS.aloadN X3.here hexec rfl (hb hbytes d6) rfl rfl ?_
    refine iconstV X3.here hexec rfl 0 (hb hbytes d7) (by decide) ?_
    refine XS.iloadN X3.here hexec rfl (hb hbytes d8) rfl ?_
    exact Steps.refl _)
  obtain ⟨v6, T6, X6, E6, g6⟩ := X3.callS hexec (Cmp5.law l b A s.heap.size B3 o 0 len) hown (wks W (staticW U16 115 Cmp5.yN)) (wk W Cmp5.tab) (W := 0) (Nat.le_of_ble_eq_true rfl) (Nat.le_of_ble_eq_true rfl) (Nat.le_refl _) (by show 0 + len + 0 ≤ len; omega) (g := (mkF m 9 #[.val (.ref b), .val (.int (Int32.ofNat o)), .val (.int (Int32.ofNat len)), .val (.ref s.heap.size), .unset, .unset] [.int (Int32.ofNat len), .int (Int32.ofNat 0), .ref s.heap.size, .int (Int32.ofNat o), .ref b])) rfl (by rw [hml]; rfl) c5 (argsL := [.ref b, .int (Int32.ofNat o), .ref s.heap.size, .int (Int32.ofNat 0), .int (Int32.ofNat len)]) (rest := []) rfl rfl (by show 2 * 0 + 0 ≤ _; decide) (hb hbytes d9) (⟨rfl, hA3, ba3, hne, l1, by rw [bs3]; simp, hp⟩)
  obtain ⟨rfl, B6, p6, f6⟩ := E6
  have c7 : Steps p.tables e below (s₁.setTop (entryFrame m #[.ref b, .int (Int32.ofNat o), .int (Int32.ofNat len)] 6)) (T6.setTop (mkF m 12 #[.val (.ref b), .val (.int (Int32.ofNat o)), .val (.int (Int32.ofNat len)), .val (.ref s.heap.size), .unset, .unset] [.int (Int32.ofNat len)])) := g6
  have c8 : Steps p.tables e below (s₁.setTop (entryFrame m #[.ref b, .int (Int32.ofNat o), .int (Int32.ofNat len)] 6)) (T6.setTop (mkF m 58 #[.val (.ref b), .val (.int (Int32.ofNat o)), .val (.int (Int32.ofNat len)), .val (.ref s.heap.size), .val (.int (Int32.ofNat len)), .unset] [.ref s.heap.size])) := c7.trans (by
    refine XS.istore X6.here hexec rfl (hb hbytes d12) rfl rfl ?_
    refine XS.iload X6.here hexec rfl (hb hbytes d14) rfl ?_
    refine XS.iloadN X6.here hexec rfl (hb hbytes d16) rfl ?_
    refine XS.icmpYes X6.here hexec rfl (pc0 := 17) rfl (hb hbytes d17) rfl (ii_eq_t rfl) (by decide) rfl ?_
    refine XS.aloadN X6.here hexec rfl (hb hbytes d57) rfl rfl ?_
    exact Steps.refl _)
  have X8 := X6.wide (L' := []) (cells' := 1) (slots' := len) (fun x hx hlt => by
    simp only [List.nil_append, copyLocs, List.mem_map, List.mem_range] at hx
    obtain ⟨i, -, rfl⟩ := hx
    exact absurd hlt (Nat.lt_irrefl _)) (Nat.le_refl _) (by omega)
  exact ⟨T6, some (.ref s.heap.size), _, _, _, X8, rfl, rfl, rfl, (fun h => by cases h), ⟨⟨rfl, B6, ba3.like (X3.warmed.alike.symm.trans X6.warmed.alike) p6.1 f6.1 f6.2.1 f6.2.2.1, f6.2.1.trans bv3, by rw [X6.warmed.alike.findClass, f6.1]; exact bf3, by rw [f6.2.2.1, bs3]; simp, fun j hj => by rw [f6.2.2.2 j, if_pos (by omega)]; rfl, kp3.put p6 (Nat.le_refl _)⟩, by rw [p6.2.2, bh3, hh0]; simp⟩, fun fs hl => c8.trans (X8.areturnOut hexec rfl hret rfl (hb hbytes d58) hl)⟩
end Cmp3
namespace CodL
def yN : MethodName := ⟨"java/lang/StringUTF16", "coderFromArrayLen", "([BI)B"⟩
abbrev yB : ByteArray := jdk_52_method_15_code
theorem d0 : decode yB 0 = .ok (.iload_n 1, 1) := by decide +kernel
theorem d1 : decode yB 1 = .ok (.aload_n 0, 1) := by decide +kernel
theorem d2 : decode yB 2 = .ok (.arraylength, 1) := by decide +kernel
theorem d3 : decode yB 3 = .ok (.isub, 1) := by decide +kernel
theorem d4 : decode yB 4 = .ok (.bipush 31, 2) := by decide +kernel
theorem d6 : decode yB 6 = .ok (.iushr, 1) := by decide +kernel
theorem d7 : decode yB 7 = .ok (.i2b, 1) := by decide +kernel
theorem d8 : decode yB 8 = .ok (.ireturn, 1) := by decide +kernel
def site : List Cond := []
def tab : Cond := tabOf yN yB 2 (some .byte) site
def P (d : Addr) (B : Cell) (args : Array Value) (s : State) : Prop := args = #[.ref d, .int (Int32.ofNat B.slots.size)] ∧ Arr .byte d B s
def E (r : Option Value) (s u : State) : Prop := XT.PureE (some (.int 0)) r s u
/-- an array as long as the number of chars: LATIN1 -/
theorem law (l : Launch) (d : Addr) (B : Cell) : Law l yN 2 2 0 0 yB 2 (some .byte) site (P d B) E [] 0 0 := by
  refine Law.of_walk (plainFor_of_name (by decide +kernel)) (by decide +kernel) (by decide +kernel) (by decide) (fun _ _ h => by rw [h.1]; rfl) (fun _ U U' hal hh h => ⟨h.1, h.2.mv hal hh⟩) (fun r U U' V V' h1 hal h2 h => XT.PureE.mv r U U' V V' h1 hal h2 h) ?_
  intro p e s m args below meth c s₁ X0 hexec hbytes hml hret hlk hnm hown hh0 W hP
  obtain ⟨rfl, hB⟩ := hP
  have hB0 := hB.mv X0.warmed.alike hh0
  have c1 : Steps p.tables e below (s₁.setTop (entryFrame m #[.ref d, .int (Int32.ofNat B.slots.size)] 2)) (s₁.setTop (mkF m 0 #[.val (.ref d), .val (.int (Int32.ofNat B.slots.size))] [])) := entry rfl
  have c2 : Steps p.tables e below (s₁.setTop (entryFrame m #[.ref d, .int (Int32.ofNat B.slots.size)] 2)) (s₁.setTop (mkF m 2 #[.val (.ref d), .val (.int (Int32.ofNat B.slots.size))] [.ref d, .int (Int32.ofNat B.slots.size)])) := c1.trans (by
    refine XS.iloadN X0.here hexec rfl (hb hbytes d0) rfl ?_
    refine XS.aloadN X0.here hexec rfl (hb hbytes d1) rfl rfl ?_
    exact Steps.refl _)
  have c3 : Steps p.tables e below (s₁.setTop (entryFrame m #[.ref d, .int (Int32.ofNat B.slots.size)] 2)) (s₁.setTop (mkF m 8 #[.val (.ref d), .val (.int (Int32.ofNat B.slots.size))] [.int (lo8 (ushr (Int32.ofNat B.slots.size - Int32.ofNat B.slots.size) 31))])) := c2.trans (by
    refine X0.alen hexec hB0 rfl rfl (hb hbytes d2) ?_
    refine XS.isub X0.here hexec rfl (hb hbytes d3) rfl ?_
    refine bipushV X0.here hexec rfl 31 (hb hbytes d4) (by decide) ?_
    refine iushr X0.here hexec rfl (hb hbytes d6) rfl ?_
    refine i2b X0.here hexec rfl (hb hbytes d7) rfl ?_
    exact Steps.refl _)
  have e0 : lo8 (ushr (Int32.ofNat B.slots.size - Int32.ofNat B.slots.size) 31) = 0 := by rw [Int32.sub_self]; decide
  rw [e0] at c3
  exact ⟨s₁, some (.int 0), _, _, _, X0, rfl, rfl, rfl, (fun h => by cases h), ⟨rfl, hh0⟩, fun fs hl => c3.trans (X0.ireturnOut hexec hret rfl (Or.inr (Or.inr (Or.inl rfl))) (hb hbytes d8) hl)⟩
end CodL
/-- the String at a is Latin-1 over a new byte[] (the heap's one new cell): the low bytes of the len chars of A from o on; every cell but a is kept -/
def Got (a : Addr) (D : Cell) (fV fC : Field) (A : Cell) (o len : Nat) (r : Option Value) (s u : State) : Prop := r = none ∧ ∃ D' V : Cell, Blank "java/lang/String" a D' u ∧ Same D D' [fV.slot, fC.slot] ∧ D'.slots[fV.slot]? = some (.ref s.heap.size) ∧ D'.slots[fC.slot]? = some (.int 0) ∧ Arr .byte s.heap.size V u ∧ V.vm = .none ∧ u.vm.findClass "[B" = some V.cls ∧ V.slots.size = len ∧ (∀ j, j < len → V.slots[j]? = some (.int (lo8 (cv A (o + j))))) ∧ (∀ (y : Addr) (c : Cell), y ≠ a → s.heap[y]? = some c → u.heap[y]? = some c) ∧ u.heap.size = s.heap.size + 1
theorem Got.mv {a : Addr} {D A : Cell} {fV fC : Field} {o len : Nat} : ∀ r (U U' V V' : State), U'.heap = U.heap → V.vm.Alike V'.vm → V'.heap = V.heap → Got a D fV fC A o len r U V → Got a D fV fC A o len r U' V' :=
  fun r U U' V V' h1 hal h2 ⟨e0, D', X, a1, a2, a3, a4, a5, a6, a7, a8, a9, a10, a11⟩ => ⟨e0, D', X, a1.mv hal h2, a2, by rw [h1]; exact a3, a4, by rw [h1]; exact a5.mv hal h2, a6, by rw [hal.findClass]; exact a7, a8, a9, by rw [h1, h2]; exact a10, by rw [h1, h2]; exact a11⟩
namespace New4
def yN : MethodName := ⟨"java/lang/String", "<init>", "([CIILjava/lang/Void;)V"⟩
abbrev yB : ByteArray := jdk_42_method_149_code
theorem d0 : decode yB 0 = .ok (.aload_n 0, 1) := by decide +kernel
theorem d1 : decode yB 1 = .ok (.invokespecial 1, 3) := by decide +kernel
theorem d4 : decode yB 4 = .ok (.iload_n 3, 1) := by decide +kernel
theorem d5 : decode yB 5 = .ok (.ifCond (.ne) 22, 3) := by decide +kernel
theorem d27 : decode yB 27 = .ok (.getstatic 38, 3) := by decide +kernel
theorem d30 : decode yB 30 = .ok (.ifCond (.eq) 28, 3) := by decide +kernel
theorem d33 : decode yB 33 = .ok (.aload_n 1, 1) := by decide +kernel
theorem d34 : decode yB 34 = .ok (.iload_n 2, 1) := by decide +kernel
theorem d35 : decode yB 35 = .ok (.iload_n 3, 1) := by decide +kernel
theorem d36 : decode yB 36 = .ok (.invokestatic 177, 3) := by decide +kernel
theorem d39 : decode yB 39 = .ok (.astore 5, 2) := by decide +kernel
theorem d41 : decode yB 41 = .ok (.aload_n 0, 1) := by decide +kernel
theorem d42 : decode yB 42 = .ok (.aload 5, 2) := by decide +kernel
theorem d44 : decode yB 44 = .ok (.iload_n 3, 1) := by decide +kernel
theorem d45 : decode yB 45 = .ok (.invokestatic 47, 3) := by decide +kernel
theorem d48 : decode yB 48 = .ok (.putfield 15, 3) := by decide +kernel
theorem d51 : decode yB 51 = .ok (.aload_n 0, 1) := by decide +kernel
theorem d52 : decode yB 52 = .ok (.aload 5, 2) := by decide +kernel
theorem d54 : decode yB 54 = .ok (.putfield 9, 3) := by decide +kernel
theorem d57 : decode yB 57 = .ok (.return_, 1) := by decide +kernel
def site : List Cond := [.fieldLink "java/lang/String" 38 "java/lang/String" "COMPACT_STRINGS" "Z", Cmp3.tab, CodL.tab, .laysFinal "java/lang/String" "java/lang/String" "value" "[B", .fieldLink "java/lang/String" 9 "java/lang/String" "value" "[B", .laysFinal "java/lang/String" "java/lang/String" "coder" "B", .fieldLink "java/lang/String" 15 "java/lang/String" "coder" "B"] ++ objW "java/lang/String" 1 ++ staticW "java/lang/String" 177 Cmp3.yN ++ staticW "java/lang/String" 47 CodL.yN
def tab : Cond := tabOf yN yB 6 none site
def P (a : Addr) (D : Cell) (fV fC : Field) (b : Addr) (A : Cell) (z : Int32) (o len : Nat) (args : Array Value) (s : State) : Prop := args = #[.ref a, .ref b, .int (Int32.ofNat o), .int (Int32.ofNat len), .null] ∧ Blank "java/lang/String" a D s ∧ Found "java/lang/String" "value" "[B" fV s ∧ Found "java/lang/String" "coder" "B" fC s ∧ Ch b A s ∧ StaticIs s "java/lang/String" "COMPACT_STRINGS" "Z" (.int z) ∧ ¬ z = 0 ∧ 0 < len ∧ o + len ≤ A.slots.size ∧ len ≤ 536870912 ∧ ∀ i, i < len → ¬ 255 < cv A (o + i)
def E (a : Addr) (D : Cell) (fV fC : Field) (A : Cell) (o len : Nat) (r : Option Value) (s u : State) : Prop := Got a D fV fC A o len r s u
/-- len > 0, no char of the range above 255: a Latin-1 String of their low bytes -/
theorem law (l : Launch) (a : Addr) (D : Cell) (fV fC : Field) (b : Addr) (A : Cell) (z : Int32) (o len : Nat) : Law l yN 5 4 2 35 yB 6 none site (P a D fV fC b A z o len) (E a D fV fC A o len) [⟨a, fC.slot⟩, ⟨a, fV.slot⟩] 1 len := by
  refine Law.of_walk (plainFor_of_name (by decide +kernel)) (by decide +kernel) (by decide +kernel) (by decide) (fun _ _ h => by rw [h.1]; rfl) (fun _ U U' hal hh h => ⟨h.1, h.2.1.mv hal hh, h.2.2.1.al hal, h.2.2.2.1.al hal, h.2.2.2.2.1.mv hal hh, h.2.2.2.2.2.1.there hal hh, h.2.2.2.2.2.2⟩) (fun r U U' V V' h1 hal h2 h => Got.mv r U U' V V' h1 hal h2 h) ?_
  intro p e s m args below meth c s₁ X0 hexec hbytes hml hret hlk hnm hown hh0 W hP
  obtain ⟨rfl, hB, f1, f2, hA, s1, hz, l0, l1, l2, hp⟩ := hP
  have a31 := hA.1.2.2.2
  have c1 : Steps p.tables e below (s₁.setTop (entryFrame m #[.ref a, .ref b, .int (Int32.ofNat o), .int (Int32.ofNat len), .null] 6)) (s₁.setTop (mkF m 0 #[.val (.ref a), .val (.ref b), .val (.int (Int32.ofNat o)), .val (.int (Int32.ofNat len)), .val .null, .unset] [])) := entry rfl
  have c2 : Steps p.tables e below (s₁.setTop (entryFrame m #[.ref a, .ref b, .int (Int32.ofNat o), .int (Int32.ofNat len), .null] 6)) (s₁.setTop (mkF m 1 #[.val (.ref a), .val (.ref b), .val (.int (Int32.ofNat o)), .val (.int (Int32.ofNat len)), .val .null, .unset] [.ref a])) := c1.trans (by
    refine XS.aloadN X0.here hexec rfl (hb hbytes d0) rfl rfl ?_
    exact Steps.refl _)
  obtain ⟨T3, X3, q3, st3⟩ := X0.oinit hexec hown (wks W (objW "java/lang/String" 1)) (g := (mkF m 1 #[.val (.ref a), .val (.ref b), .val (.int (Int32.ofNat o)), .val (.int (Int32.ofNat len)), .val .null, .unset] [.ref a])) rfl (by rw [hml]; rfl) (rest := []) rfl (hb hbytes d1) (W := 0) (by show 2 * 0 + 0 ≤ _; decide) (Nat.le_of_ble_eq_true rfl) (Nat.le_of_ble_eq_true rfl)
  have hh3 := q3.trans hh0
  have c4 : Steps p.tables e below (s₁.setTop (entryFrame m #[.ref a, .ref b, .int (Int32.ofNat o), .int (Int32.ofNat len), .null] 6)) (T3.setTop (mkF m 27 #[.val (.ref a), .val (.ref b), .val (.int (Int32.ofNat o)), .val (.int (Int32.ofNat len)), .val .null, .unset] [])) := (c2.trans (st3 _ (Steps.refl _))).trans (by
    refine XS.iloadN X3.here hexec rfl (hb hbytes d4) rfl ?_
    refine XS.ifYes X3.here hexec rfl (pc0 := 5) rfl (hb hbytes d5) rfl (i0_ne_t (nz32 (by omega) l0)) (by decide) rfl ?_
    exact Steps.refl _)
  obtain ⟨T5, X5, q5, st5⟩ := X3.sget hexec hown (wk W (.fieldLink "java/lang/String" 38 "java/lang/String" "COMPACT_STRINGS" "Z")) s1 (fun _ _ h => by rw [hh3]; exact h) (g := (mkF m 27 #[.val (.ref a), .val (.ref b), .val (.int (Int32.ofNat o)), .val (.int (Int32.ofNat len)), .val .null, .unset] [])) rfl (hb hbytes d27)
  have hh5 := q5.trans hh3
  have c6 : Steps p.tables e below (s₁.setTop (entryFrame m #[.ref a, .ref b, .int (Int32.ofNat o), .int (Int32.ofNat len), .null] 6)) (T5.setTop (mkF m 30 #[.val (.ref a), .val (.ref b), .val (.int (Int32.ofNat o)), .val (.int (Int32.ofNat len)), .val .null, .unset] [.int z])) := c4.trans (st5 _ (Steps.refl _))
  have c7 : Steps p.tables e below (s₁.setTop (entryFrame m #[.ref a, .ref b, .int (Int32.ofNat o), .int (Int32.ofNat len), .null] 6)) (T5.setTop (mkF m 36 #[.val (.ref a), .val (.ref b), .val (.int (Int32.ofNat o)), .val (.int (Int32.ofNat len)), .val .null, .unset] [.int (Int32.ofNat len), .int (Int32.ofNat o), .ref b])) := c6.trans (by
    refine XS.ifNo X5.here hexec rfl (hb hbytes d30) rfl (i0_eq_f hz) ?_
    refine XS.aloadN X5.here hexec rfl (hb hbytes d33) rfl rfl ?_
    refine XS.iloadN X5.here hexec rfl (hb hbytes d34) rfl ?_
    refine XS.iloadN X5.here hexec rfl (hb hbytes d35) rfl ?_
    exact Steps.refl _)
  obtain ⟨v8, T8, X8, E8, g8⟩ := X5.callS hexec (Cmp3.law l b A o len) hown (wks W (staticW "java/lang/String" 177 Cmp3.yN)) (wk W Cmp3.tab) (W := 0) (Nat.le_of_ble_eq_true rfl) (Nat.le_of_ble_eq_true rfl) (Nat.le_refl _) (by show 0 + len ≤ len; omega) (g := (mkF m 36 #[.val (.ref a), .val (.ref b), .val (.int (Int32.ofNat o)), .val (.int (Int32.ofNat len)), .val .null, .unset] [.int (Int32.ofNat len), .int (Int32.ofNat o), .ref b])) rfl (by rw [hml]; rfl) c7 (argsL := [.ref b, .int (Int32.ofNat o), .int (Int32.ofNat len)]) (rest := []) rfl rfl (by show 2 * 0 + 0 ≤ _; decide) (hb hbytes d36) (⟨rfl, hA.mv X5.warmed.alike hh5, l1, l2, hp⟩)
  obtain ⟨e8, z8⟩ := E8
  obtain ⟨rfl, N, n1, n2, n3, n4, n5, n6⟩ := NewArr.mv _ T5 s _ _ hh5.symm (Vm.Alike.refl _) rfl e8
  rw [hh5] at z8
  have hB1 := hB.keep X8.warmed.alike (n6 _ _ hB.1)
  have hne : s.heap.size ≠ a := (Nat.ne_of_lt (Array.getElem?_eq_some_iff.mp hB.1).1).symm
  have c9 : Steps p.tables e below (s₁.setTop (entryFrame m #[.ref a, .ref b, .int (Int32.ofNat o), .int (Int32.ofNat len), .null] 6)) (T8.setTop (mkF m 39 #[.val (.ref a), .val (.ref b), .val (.int (Int32.ofNat o)), .val (.int (Int32.ofNat len)), .val .null, .unset] [.ref s.heap.size])) := g8
  have c10 : Steps p.tables e below (s₁.setTop (entryFrame m #[.ref a, .ref b, .int (Int32.ofNat o), .int (Int32.ofNat len), .null] 6)) (T8.setTop (mkF m 45 #[.val (.ref a), .val (.ref b), .val (.int (Int32.ofNat o)), .val (.int (Int32.ofNat len)), .val .null, .val (.ref s.heap.size)] [.int (Int32.ofNat N.slots.size), .ref s.heap.size, .ref a])) := by
    have hc : Steps p.tables e below (s₁.setTop (entryFrame m #[.ref a, .ref b, .int (Int32.ofNat o), .int (Int32.ofNat len), .null] 6)) (T8.setTop (mkF m 45 #[.val (.ref a), .val (.ref b), .val (.int (Int32.ofNat o)), .val (.int (Int32.ofNat len)), .val .null, .val (.ref s.heap.size)] [.int (Int32.ofNat len), .ref s.heap.size, .ref a])) := c9.trans (by
      refine XS.astore X8.here hexec rfl (hb hbytes d39) rfl rfl rfl ?_
      refine XS.aloadN X8.here hexec rfl (hb hbytes d41) rfl rfl ?_
      refine XS.aload X8.here hexec rfl (hb hbytes d42) rfl rfl ?_
      refine XS.iloadN X8.here hexec rfl (hb hbytes d44) rfl ?_
      exact Steps.refl _)
    rw [n4]; exact hc
  obtain ⟨v11, T11, X11, E11, g11⟩ := X8.callS hexec (CodL.law l s.heap.size N) hown (wks W (staticW "java/lang/String" 47 CodL.yN)) (wk W CodL.tab) (W := 1) (Nat.le_of_ble_eq_true rfl) (Nat.le_of_ble_eq_true rfl) (Nat.le_refl _) (by show 0 + len + 0 ≤ len; omega) (g := (mkF m 45 #[.val (.ref a), .val (.ref b), .val (.int (Int32.ofNat o)), .val (.int (Int32.ofNat len)), .val .null, .val (.ref s.heap.size)] [.int (Int32.ofNat N.slots.size), .ref s.heap.size, .ref a])) rfl (by rw [hml]; rfl) c10 (argsL := [.ref s.heap.size, .int (Int32.ofNat N.slots.size)]) (rest := [.ref a]) rfl rfl (by show 2 * 0 + (1 + 0) ≤ _; decide) (hb hbytes d45) (⟨rfl, n1⟩)
  obtain ⟨rfl, q11⟩ := E11
  have hB11 := hB1.mv (X8.warmed.alike.symm.trans X11.warmed.alike) q11
  have c12 : Steps p.tables e below (s₁.setTop (entryFrame m #[.ref a, .ref b, .int (Int32.ofNat o), .int (Int32.ofNat len), .null] 6)) (T11.setTop (mkF m 48 #[.val (.ref a), .val (.ref b), .val (.int (Int32.ofNat o)), .val (.int (Int32.ofNat len)), .val .null, .val (.ref s.heap.size)] [.int 0, .ref a])) := g11
  obtain ⟨T13, X13, p13, bl13, sl13, st13⟩ := X11.finit hexec hown (wk W (.fieldLink "java/lang/String" 15 "java/lang/String" "coder" "B")) (Or.inr ⟨_, (wk W (.laysFinal "java/lang/String" "java/lang/String" "coder" "B"))⟩) (Or.inl ⟨rfl, hnm⟩) f2 (Or.inl rfl) hB11 (t := .byte) (by decide +kernel) rfl (g := (mkF m 48 #[.val (.ref a), .val (.ref b), .val (.int (Int32.ofNat o)), .val (.int (Int32.ofNat len)), .val .null, .val (.ref s.heap.size)] [.int 0, .ref a])) rfl (rest := []) rfl (hb hbytes d48)
  have c14 : Steps p.tables e below (s₁.setTop (entryFrame m #[.ref a, .ref b, .int (Int32.ofNat o), .int (Int32.ofNat len), .null] 6)) (T13.setTop (mkF m 54 #[.val (.ref a), .val (.ref b), .val (.int (Int32.ofNat o)), .val (.int (Int32.ofNat len)), .val .null, .val (.ref s.heap.size)] [.ref s.heap.size, .ref a])) := (c12.trans (st13 _ (Steps.refl _))).trans (by
    refine XS.aloadN X13.here hexec rfl (hb hbytes d51) rfl rfl ?_
    refine XS.aload X13.here hexec rfl (hb hbytes d52) rfl rfl ?_
    exact Steps.refl _)
  obtain ⟨T15, X15, p15, bl15, sl15, st15⟩ := X13.finit hexec hown (wk W (.fieldLink "java/lang/String" 9 "java/lang/String" "value" "[B")) (Or.inr ⟨_, (wk W (.laysFinal "java/lang/String" "java/lang/String" "value" "[B"))⟩) (Or.inl ⟨rfl, hnm⟩) f1 (Or.inl rfl) bl13 (t := (.array .byte)) (by decide +kernel) rfl (g := (mkF m 54 #[.val (.ref a), .val (.ref b), .val (.int (Int32.ofNat o)), .val (.int (Int32.ofNat len)), .val .null, .val (.ref s.heap.size)] [.ref s.heap.size, .ref a])) rfl (rest := []) rfl (hb hbytes d54)
  have c16 : Steps p.tables e below (s₁.setTop (entryFrame m #[.ref a, .ref b, .int (Int32.ofNat o), .int (Int32.ofNat len), .null] 6)) (T15.setTop (mkF m 57 #[.val (.ref a), .val (.ref b), .val (.int (Int32.ofNat o)), .val (.int (Int32.ofNat len)), .val .null, .val (.ref s.heap.size)] [])) := c14.trans (st15 _ (Steps.refl _))
  have ap := apart (Or.inr ⟨_, (wk W (.laysFinal "java/lang/String" "java/lang/String" "value" "[B"))⟩) (Or.inr ⟨_, (wk W (.laysFinal "java/lang/String" "java/lang/String" "coder" "B"))⟩) f1 f2 (t₁ := .array .byte) (t₂ := .byte) (by decide +kernel) (by decide +kernel) (by decide)
  have al := X8.warmed.alike.symm.trans X15.warmed.alike
  have n7 : T11.heap[s.heap.size]? = some N := by rw [q11]; exact n1.1
  exact ⟨T15, none, _, _, _, X15, by simp, rfl, by omega, (fun _ => rfl), ⟨rfl, _, N, bl15, ((Same.refl D _).set _ (by simp)).set _ (by simp), sl15, (Cell.slots_setSlot_ne _ ap).trans sl13, n1.keep al (p15.other hne (p13.other hne n7)), n2, by rw [al.findClass]; exact n3, n4, n5, fun y c h1 h2 => p15.other h1 (p13.other h1 (by rw [q11]; exact n6 y c h2)), by rw [p15.2.2, p13.2.2, q11]; exact z8⟩, fun fs hl => c16.trans (X15.returnOut hexec hret (hb hbytes d57) hl)⟩
end New4
namespace New1
def yN : MethodName := ⟨"java/lang/String", "<init>", "([C)V"⟩
abbrev yB : ByteArray := jdk_42_method_3_code
theorem d0 : decode yB 0 = .ok (.aload_n 0, 1) := by decide +kernel
theorem d1 : decode yB 1 = .ok (.aload_n 1, 1) := by decide +kernel
theorem d2 : decode yB 2 = .ok (.iconst 0, 1) := by decide +kernel
theorem d3 : decode yB 3 = .ok (.aload_n 1, 1) := by decide +kernel
theorem d4 : decode yB 4 = .ok (.arraylength, 1) := by decide +kernel
theorem d5 : decode yB 5 = .ok (.aconst_null, 1) := by decide +kernel
theorem d6 : decode yB 6 = .ok (.invokespecial 27, 3) := by decide +kernel
theorem d9 : decode yB 9 = .ok (.return_, 1) := by decide +kernel
def site : List Cond := [New4.tab] ++ initW "java/lang/String" 27 New4.yN
def tab : Cond := tabOf yN yB 2 none site
def P (a : Addr) (D : Cell) (fV fC : Field) (b : Addr) (A : Cell) (z : Int32) (args : Array Value) (s : State) : Prop := args = #[.ref a, .ref b] ∧ Blank "java/lang/String" a D s ∧ Found "java/lang/String" "value" "[B" fV s ∧ Found "java/lang/String" "coder" "B" fC s ∧ Ch b A s ∧ StaticIs s "java/lang/String" "COMPACT_STRINGS" "Z" (.int z) ∧ ¬ z = 0 ∧ 0 < A.slots.size ∧ A.slots.size ≤ 536870912 ∧ ∀ i, i < A.slots.size → ¬ 255 < cv A i
def E (a : Addr) (D : Cell) (fV fC : Field) (A : Cell) (r : Option Value) (s u : State) : Prop := Got a D fV fC A 0 A.slots.size r s u
/-- new String(chars), not empty, no char above 255: a Latin-1 String of their low bytes -/
theorem law (l : Launch) (a : Addr) (D : Cell) (fV fC : Field) (b : Addr) (A : Cell) (z : Int32) : Law l yN 2 1 3 52 yB 2 none site (P a D fV fC b A z) (E a D fV fC A) [⟨a, fC.slot⟩, ⟨a, fV.slot⟩] 1 A.slots.size := by
  refine Law.of_walk (plainFor_of_name (by decide +kernel)) (by decide +kernel) (by decide +kernel) (by decide) (fun _ _ h => by rw [h.1]; rfl) (fun _ U U' hal hh h => ⟨h.1, h.2.1.mv hal hh, h.2.2.1.al hal, h.2.2.2.1.al hal, h.2.2.2.2.1.mv hal hh, h.2.2.2.2.2.1.there hal hh, h.2.2.2.2.2.2⟩) (fun r U U' V V' h1 hal h2 h => Got.mv r U U' V V' h1 hal h2 h) ?_
  intro p e s m args below meth c s₁ X0 hexec hbytes hml hret hlk hnm hown hh0 W hP
  obtain ⟨rfl, hB, f1, f2, hA, s1, hz, l0, l2, hp⟩ := hP
  have c1 : Steps p.tables e below (s₁.setTop (entryFrame m #[.ref a, .ref b] 2)) (s₁.setTop (mkF m 0 #[.val (.ref a), .val (.ref b)] [])) := entry rfl
  have c2 : Steps p.tables e below (s₁.setTop (entryFrame m #[.ref a, .ref b] 2)) (s₁.setTop (mkF m 6 #[.val (.ref a), .val (.ref b)] [.null, .int (Int32.ofNat A.slots.size), .int 0, .ref b, .ref a])) := c1.trans (by
    refine XS.aloadN X0.here hexec rfl (hb hbytes d0) rfl rfl ?_
    refine XS.aloadN X0.here hexec rfl (hb hbytes d1) rfl rfl ?_
    refine iconstV X0.here hexec rfl 0 (hb hbytes d2) (by decide) ?_
    refine XS.aloadN X0.here hexec rfl (hb hbytes d3) rfl rfl ?_
    refine X0.alen hexec (hA.1.mv X0.warmed.alike hh0) rfl rfl (hb hbytes d4) ?_
    refine XS.aconstNull X0.here hexec rfl (hb hbytes d5) ?_
    exact Steps.refl _)
  obtain ⟨v3, T3, X3, E3, g3⟩ := X0.callN hexec (New4.law l a D fV fC b A z 0 A.slots.size) rfl hown (wks W (initW "java/lang/String" 27 New4.yN)) (W New4.tab (by simp only [site, List.mem_cons, List.mem_append, true_or, or_true])) (W := 0) (Nat.le_of_ble_eq_true rfl) (Nat.le_of_ble_eq_true rfl) (Nat.le_refl _) (by show 0 + A.slots.size ≤ A.slots.size; omega) (g := (mkF m 6 #[.val (.ref a), .val (.ref b)] [.null, .int (Int32.ofNat A.slots.size), .int (Int32.ofNat 0), .ref b, .ref a])) rfl (by rw [hml]; rfl) c2 (argsL := [.ref b, .int (Int32.ofNat 0), .int (Int32.ofNat A.slots.size), .null]) (rest := []) rfl rfl (by show 2 * 0 + 0 ≤ _; decide) (hb hbytes d6) (⟨rfl, hB.mv X0.warmed.alike hh0, f1.al X0.warmed.alike, f2.al X0.warmed.alike, hA.mv X0.warmed.alike hh0, s1.there X0.warmed.alike hh0, hz, l0, by omega, l2, fun i hi => by rw [Nat.zero_add]; exact hp i hi⟩)
  have e0 := Got.mv _ s₁ s _ _ hh0.symm (Vm.Alike.refl _) rfl E3
  obtain rfl := e0.1
  have c4 : Steps p.tables e below (s₁.setTop (entryFrame m #[.ref a, .ref b] 2)) (T3.setTop (mkF m 9 #[.val (.ref a), .val (.ref b)] [])) := g3
  exact ⟨T3, none, _, _, _, X3, by simp, rfl, by omega, (fun _ => rfl), e0, fun fs hl => c4.trans (X3.returnOut hexec hret (hb hbytes d9) hl)⟩
theorem pays {l : Launch} {R : Room} {p : Program} {e : Env} {below : List Frame} {s : State} {sargs : Array Value} {len W : Nat} (a : Addr) (D : Cell) (fV fC : Field) (b : Addr) (A : Cell) (z : Int32) (htab : tab.before sargs s = true) (hfr : 4 ≤ R.frames) (hlo : W + 65 ≤ R.locals) :
    Back l R p e below s sargs yN len W (fun A₁ a₁ => A₁.cells + 1 ≤ R.cells ∧ A₁.slots + A.slots.size ≤ R.slots ∧ P a D fV fC b A z a₁ A₁.U) (fun A₁ _ v₁ B₁ => E a D fV fC A v₁ A₁.U B₁.U ∧ B₁.locs = A₁.locs ++ [⟨a, fC.slot⟩, ⟨a, fV.slot⟩] ∧ B₁.cells = A₁.cells + 1 ∧ B₁.slots = A₁.slots + A.slots.size) :=
  (law l a D fV fC b A z).pays htab hfr (by omega)
end New1
end StrChars
namespace StrChars.Road
open Jvm Sem ClassFile Op Lib Jvm.Stand Jvm.Free Jvm.Free.XT
open Jvm.Lib.Cold (StaticIs)
abbrev ST : String := "java/lang/String"
/-- every table word that New1's law asks, flat -/
abbrev words : List Jvm.Cond := [.code New1.yN New1.yB 2 none, .initialized ST, .methodLink ST 27 New4.yN, .instanceMethod New4.yN,
  .code New4.yN New4.yB 6 none, .fieldLink ST 38 ST "COMPACT_STRINGS" "Z", .laysFinal ST ST "value" "[B", .fieldLink ST 9 ST "value" "[B", .laysFinal ST ST "coder" "B", .fieldLink ST 15 ST "coder" "B",
  .methodLink ST 1 Lib.objectInit, .instanceMethod Lib.objectInit, .code Lib.objectInit ⟨#[0xb1]⟩ 1 none, .methodLink ST 177 Cmp3.yN, .static Cmp3.yN, .methodLink ST 47 CodL.yN, .static CodL.yN,
  .code Cmp3.yN Cmp3.yB 6 (some (.array .byte)), .initialized U16, .arrayClass .byte, .methodLink U16 115 Cmp5.yN, .static Cmp5.yN, .code Cmp5.yN Cmp5.yB 7 (some .int), .code CodL.yN CodL.yB 2 (some .byte)]
theorem tab_of {a : Array Value} {s : State} (h : ∀ w ∈ words, w.before a s = true) : New1.tab.before a s = true := by
  have h5 : Cmp5.tab.before a s = true := unparts (wk h (.code Cmp5.yN Cmp5.yB 7 (some .int))) (wks h (.initialized Cmp5.yN.cls :: Cmp5.site))
  have hc : CodL.tab.before a s = true := unparts (wk h (.code CodL.yN CodL.yB 2 (some .byte))) (wks h (.initialized CodL.yN.cls :: CodL.site))
  have q5 : ∀ w ∈ Cmp5.tab :: words, w.before a s = true := fun w hw => (List.mem_cons.mp hw).elim (fun e => e ▸ h5) (h w)
  have h3 : Cmp3.tab.before a s = true := unparts (wk q5 (.code Cmp3.yN Cmp3.yB 6 (some (.array .byte)))) (wks q5 (.initialized Cmp3.yN.cls :: Cmp3.site))
  have q3 : ∀ w ∈ Cmp3.tab :: CodL.tab :: words, w.before a s = true := fun w hw => (List.mem_cons.mp hw).elim (fun e => e ▸ h3) fun hw => (List.mem_cons.mp hw).elim (fun e => e ▸ hc) (h w)
  have h4 : New4.tab.before a s = true := unparts (wk q3 (.code New4.yN New4.yB 6 none)) (wks q3 (.initialized New4.yN.cls :: New4.site))
  have q4 : ∀ w ∈ New4.tab :: words, w.before a s = true := fun w hw => (List.mem_cons.mp hw).elim (fun e => e ▸ h4) (h w)
  exact unparts (wk q4 (.code New1.yN New1.yB 2 none)) (wks q4 (.initialized New1.yN.cls :: New1.site))
/-- the words ride from the start Z to the walk's own state -/
theorem moved {Z s : State} {a0 args : Array Value} (hZ : Z.Warmed39 s.vm) (hw : ∀ d ∈ words, d.before a0 Z = true) : ∀ d ∈ words, d.before args s = true := fun d hd => by
  have q := hw d hd
  have t : ∀ d ∈ words, d = .arrayClass .byte ∨ (d.onTables && d.keepsFace) = true := by decide +kernel
  rcases t d hd with rfl | t
  · exact RoadKit.mvA hZ q
  · exact RoadKit.mv hZ q t
/-- WHAT COMES BACK, over the tables of the start Z: h the heap at the call, h' behind it -/
def Q (Z : State) (x : Addr) (A : Cell) (h : Heap) (v : Option Value) (h' : Heap) (L : List Loc) : Prop := v = none ∧ (∀ y ∈ L, y.base = x) ∧ RoadKit.Keep h h' [x] ∧ h'.size = h.size + 1 ∧ RoadKit.Exa Z h' x ST ∧ RoadKit.Fld Z h' x ST "value" "[B" (.ref h.size) ∧ RoadKit.Fld Z h' x ST "coder" "B" (.int 0) ∧
  (∃ V : Cell, RoadKit.Arr Z h' h.size V .byte ∧ V.vm = .none ∧ Z.vm.findClass "[B" = some V.cls ∧ V.slots.size = A.slots.size ∧ ∀ j, j < A.slots.size → V.slots[j]? = some (.int (lo8 (cv A j)))) ∧
  ∀ (O n d : String) (w : Value), RoadKit.Fld Z h x O n d w → RoadKit.slotOf Z O n d ≠ RoadKit.slotOf Z ST "value" "[B" → RoadKit.slotOf Z O n d ≠ RoadKit.slotOf Z ST "coder" "B" → RoadKit.Fld Z h' x O n d w
/-- **new String(chars) AT A CALL, IN THE ROAD'S FORM**: for specialBack behind newO: x the fresh String, b the char[] with the cell A -/
theorem back {p : Program} {l : Launch} {e : Env} {R : Room} {s : State} {args : Array Value} {below : List Frame} {len W : Nat} {Z : State} {a0 : Array Value} {h : Heap} (hZ : Z.Warmed39 s.vm) (hw : ∀ d ∈ words, d.before a0 Z = true) {kI : Nat} (wi : (Jvm.Cond.instantiable ST kI).before a0 Z = true)
    {x b : Addr} {A : Cell} {z : Int32} {v0 c0 : Value} (E : RoadKit.Exa Z h x ST) (V : RoadKit.Fld Z h x ST "value" "[B" v0) (C : RoadKit.Fld Z h x ST "coder" "B" c0) (K : RoadKit.Arr Z h b A .char) (hty : Typed .char A) (S : RoadKit.Sta Z h ST "COMPACT_STRINGS" "Z" (.int z)) (hz : ¬ z = 0)
    (l0 : 0 < A.slots.size) (l2 : A.slots.size ≤ 536870912) (hp : ∀ i, i < A.slots.size → ¬ 255 < cv A i) (hfr : 4 ≤ R.frames) (hlo : W + 65 ≤ R.locals) :
    Back l R p e below s args New1.yN len W (fun P a => a = #[.ref x, .ref b] ∧ P.U.heap = h ∧ P.cells + 1 ≤ R.cells ∧ P.slots + A.slots.size ≤ R.slots)
      (fun P _ v B => ∃ L, Q Z x A h v B.U.heap L ∧ B.locs = P.locs ++ L ∧ B.cells = P.cells + 1 ∧ B.slots = P.slots + A.slots.size) := by
  intro m meth c P g ig mk a X hg hsize hdg hW hn hp'
  obtain ⟨rfl, rfl, r1, r2⟩ := hp'
  have al : Z.vm.Alike P.U.vm := hZ.alike.trans X.warmed.alike
  obtain ⟨D, cfV, kV, iV, fV, hD, gV, stV, knV, obV, asV, slV⟩ := id V
  obtain ⟨D', cfC, kC, iC, fC, hD', gC, stC, -, -, asC, slC⟩ := id C
  cases hD.symm.trans hD'
  obtain ⟨D2, kD, e1, e2, e3, e4, e5⟩ := id E
  cases hD.symm.trans e1
  obtain ⟨c2, k2, i1, i2, i3, -⟩ := Cond.instantiable_spec wi
  cases e2.symm.trans i1
  cases e3.symm.trans i2
  obtain ⟨kU, u1, u2⟩ := al.2.2 _ _ e3
  have hB : Blank ST x D P.U := ⟨hD, ⟨knV, fun q hq => by rw [hq] at obV; cases obV⟩, by rw [al.findClass]; exact e2, kU, u1, by rw [u2]; exact i3, by rw [u2]; exact e5 i3⟩
  have F1 : Found ST "value" "[B" fV P.U := ⟨SBG.found_only al ⟨cfV, kV, iV, gV⟩, stV⟩
  have F2 : Found ST "coder" "B" fC P.U := ⟨SBG.found_only al ⟨cfC, kC, iC, gC⟩, stC⟩
  have hA : Ch b A P.U := ⟨⟨K.1, State.isArrayOf_alike al K.2.1, K.2.2, by omega⟩, hty⟩
  have hS : StaticIs P.U ST "COMPACT_STRINGS" "Z" (.int z) := by
    obtain ⟨cfS, iS, kS, fS, st, cS, t1, t2, t3, t4, t5, t6, t7⟩ := S
    exact StaticIs.there (s := { Z with heap := P.U.heap }) ⟨cfS, iS, kS, fS, st, cS, t1, t2, t3, t4, t5, (fun q => by rw [q] at t6; cases t6), t7⟩ al rfl
  obtain ⟨v, B, X', ⟨⟨hv, E', V', q1, q2, q3, q4, q5, q6, q7, q8, q9, q10, q11⟩, hl, hc, hs⟩, st⟩ := New1.pays x D fV fC b A z (tab_of (moved hZ hw)) hfr hlo m meth c P g ig mk _ X hg hsize hdg hW hn ⟨r1, r2, rfl, hB, F1, F2, hA, hS, hz, l0, l2, hp⟩
  have al' : Z.vm.Alike B.U.vm := hZ.alike.trans X'.warmed.alike
  have hsz : E'.slots.size = D.slots.size := by
    obtain ⟨-, -, -, kB, w1, w2, w3⟩ := q1
    obtain ⟨kB', y1, y2⟩ := al'.2.2 _ _ e3
    rw [q2.2.1] at w1
    cases w1.symm.trans y1
    rw [w3, e5 i3, y2]
  refine ⟨v, B, X', ⟨_, ⟨hv, ?_, ⟨by omega, fun y cy hy hn' => q10 y cy (by simpa using hn') hy, fun y cy hy => ?_⟩, q11, ⟨E', _, q1.1, by rw [q2.2.1]; exact e2, by rw [q2.2.1]; exact e3, by rw [q2.1]; exact obV, fun _ => by rw [hsz]; exact e5 i3⟩,
    ⟨E', cfV, kV, iV, fV, q1.1, gV, stV, by rw [q2.1]; exact knV, by rw [q2.1]; exact obV, by rw [q2.2.1]; exact asV, q3⟩, ⟨E', cfC, kC, iC, fC, q1.1, gC, stC, by rw [q2.1]; exact knV, by rw [q2.1]; exact obV, by rw [q2.2.1]; exact asC, q4⟩,
    ⟨V', ⟨q5.1, State.isArrayOf_alike al'.symm q5.2.1, q5.2.2.1⟩, q6, by rw [← al'.findClass]; exact q7, q8, fun j hj => by have := q9 j hj; rwa [Nat.zero_add] at this⟩, fun O n d w F n1 n2 => ?_⟩, hl, hc, hs⟩, st⟩
  · intro y hy
    simp only [List.mem_cons, List.not_mem_nil, or_false] at hy
    rcases hy with rfl | rfl <;> rfl
  · by_cases q : y = x
    · subst q
      cases hD.symm.trans hy
      exact ⟨E', q1.1, q2.2.1, q2.1, hsz⟩
    · exact ⟨cy, q10 y cy q hy, rfl, rfl, rfl⟩
  · obtain ⟨D3, cf, k, i, f, g1, g2, g3, g4, g5, g6, g7⟩ := F
    cases hD.symm.trans g1
    simp only [RoadKit.slotOf, g2, gV, gC, Option.map_some, Option.getD_some] at n1 n2
    exact ⟨E', cf, k, i, f, q1.1, g2, g3, by rw [q2.1]; exact g4, by rw [q2.1]; exact g5, by rw [q2.2.1]; exact g6, by rw [q2.2.2 f.slot (by simp [n1, n2])]; exact g7⟩
end StrChars.Road
namespace StrChars.Road
open Jvm Sem ClassFile Op Lib Jvm.Stand Jvm.Free Jvm.Free.XT
/-- WHAT COMES BACK, the byte[] as a list of values -/
def QA (Z : State) (x : Addr) (zn : Int32) (cs : List Int32) (h : Heap) (v : Option Value) (h' : Heap) (L : List Loc) : Prop := v = none ∧ (∀ y ∈ L, y.base = x) ∧ RoadKit.Keep h h' [x] ∧ h'.size = h.size + 1 ∧ RoadKit.Exa Z h' x ST ∧ RoadKit.Fld Z h' x ST "value" "[B" (.ref h.size) ∧ RoadKit.Fld Z h' x ST "coder" "B" (.int 0) ∧
  (∃ kb, Z.vm.findClass "[B" = some kb ∧ RoadKit.Arv Z h' h.size kb .byte zn (cs.map fun c => .int (lo8 c)) (.int 0)) ∧
  ∀ (O n d : String) (w : Value), RoadKit.Fld Z h x O n d w → RoadKit.slotOf Z O n d ≠ RoadKit.slotOf Z ST "value" "[B" → RoadKit.slotOf Z O n d ≠ RoadKit.slotOf Z ST "coder" "B" → RoadKit.Fld Z h' x O n d w
/-- **new String(chars) AT A CALL, THE ARRAYS AS LISTS**: the char[] at b holds cs, not empty, no char above 255 -/
theorem backArv {p : Program} {l : Launch} {e : Env} {R : Room} {s : State} {args : Array Value} {below : List Frame} {len W : Nat} {Z : State} {a0 : Array Value} {h : Heap} (hZ : Z.Warmed39 s.vm) (hw : ∀ d ∈ words, d.before a0 Z = true) {kI : Nat} (wi : (Jvm.Cond.instantiable ST kI).before a0 Z = true)
    {x b : Addr} {k : ClassId} {zn z : Int32} {cs : List Int32} {dv v0 c0 : Value} (E : RoadKit.Exa Z h x ST) (V : RoadKit.Fld Z h x ST "value" "[B" v0) (C : RoadKit.Fld Z h x ST "coder" "B" c0) (K : RoadKit.Arv Z h b k .char zn (cs.map Value.int) dv) (S : RoadKit.Sta Z h ST "COMPACT_STRINGS" "Z" (.int z)) (hz : ¬ z = 0)
    (hlen : zn.toNatClampNeg = cs.length) (h0 : 0 < cs.length) (hbig : cs.length ≤ 536870912) (hall : ∀ c ∈ cs, ¬ 255 < c) (hfr : 4 ≤ R.frames) (hlo : W + 65 ≤ R.locals) :
    Back l R p e below s args New1.yN len W (fun P a => a = #[.ref x, .ref b] ∧ P.U.heap = h ∧ P.cells + 1 ≤ R.cells ∧ P.slots + cs.length ≤ R.slots)
      (fun P _ v B => ∃ L, QA Z x zn cs h v B.U.heap L ∧ B.locs = P.locs ++ L ∧ B.cells = P.cells + 1 ∧ B.slots = P.slots + cs.length) := by
  obtain ⟨A, K1, K2, K3, K4, K5, K6⟩ := K
  have e : A.slots.size = cs.length := K3.trans hlen
  have hat : ∀ (i : Nat) (hi : i < cs.length), A.slots[i]? = some (.int cs[i]) := fun i hi => by rw [K5 i (by omega)]; simp [List.getD_eq_getElem?_getD, hi]
  have hcv : ∀ (i : Nat) (hi : i < cs.length), cv A i = cs[i] := fun i hi => by unfold cv; rw [hat i hi]
  have hty : Typed .char A := fun i v hv => by
    have hi : i < A.slots.size := (Array.getElem?_eq_some_iff.mp hv).1
    have q := K5 i hi
    rw [hv] at q
    rw [Option.some.inj q]
    exact K6 i hi
  refine Back.mono (back hZ hw wi E V C K1 hty S hz (by omega) (by omega) (fun i hi => by rw [hcv i (by omega)]; exact hall _ (List.getElem_mem _)) hfr hlo) (fun P a hp => ⟨hp.1, hp.2.1, hp.2.2.1, by rw [e]; exact hp.2.2.2⟩) (fun P a v B hp hq => ?_)
  obtain ⟨L, ⟨q1, q2, q3, q4, q5, q6, q7, ⟨V', v1, v2, v3, v4, v5⟩, q9⟩, hl, hc, hs⟩ := hq
  refine ⟨L, ⟨q1, q2, q3, q4, q5, q6, q7, ⟨V'.cls, v3, V', v1, rfl, by rw [v4, e, hlen], K4, fun i hi => ?_, fun i hi => ?_⟩, q9⟩, hl, hc, by rw [hs, e]⟩
  · have hi' : i < cs.length := by omega
    rw [v5 i (by omega), hcv i hi']; simp [List.getD_eq_getElem?_getD, hi']
  · have hi' : i < cs.length := by omega
    simp only [List.getD_eq_getElem?_getD, List.getElem?_map, List.getElem?_eq_getElem hi', Option.map_some, Option.getD_some]
    exact fits_lo8 _
end StrChars.Road
namespace StrChars.Road
open Jvm Sem ClassFile Op Lib Jvm.Stand Jvm.Free Jvm.Free.XT
/-- WHAT COMES BACK, in the writer's own shape -/
def QV (Z : State) (x : Addr) (N : Int32) (bs : List Int32) (h : Heap) (n0 : Nat) (v : Option Value) (h' : Heap) (L : List Loc) : Prop := v = none ∧ RoadKit.Fr n0 L ∧ RoadKit.Keep h h' [x] ∧ RoadKit.Exa Z h' x ST ∧ RoadKit.Fld Z h' x ST "coder" "B" (.int 0) ∧
  ∃ (t : Addr) (kb : ClassId), n0 ≤ t ∧ h.size ≤ t ∧ ¬ t = x ∧ RoadKit.Fld Z h' x ST "value" "[B" (.ref t) ∧ RoadKit.Arv Z h' t kb .byte N (bs.map Value.int) (.int 0)
/-- **new String(chars) AT A CALL, FOR THE WRITER**: a char[] of n known ints, each 0 to 255 -/
theorem backV {p : Program} {l : Launch} {e : Env} {R : Room} {s : State} {args : Array Value} {below : List Frame} {len W : Nat} {Z : State} {a0 : Array Value} {h : Heap} (hZ : Z.Warmed39 s.vm) (hw : ∀ d ∈ words, d.before a0 Z = true) {kI : Nat} (wi : (Jvm.Cond.instantiable ST kI).before a0 Z = true)
    {x b : Addr} {kC : ClassId} {cs bs : List Int32} {d v0 c0 : Value} {z N : Int32} {n n0 : Nat} (hx0 : n0 ≤ x) (hh0 : n0 ≤ h.size) (E : RoadKit.Exa Z h x ST) (V : RoadKit.Fld Z h x ST "value" "[B" v0) (C : RoadKit.Fld Z h x ST "coder" "B" c0) (K : RoadKit.Arv Z h b kC .char N (cs.map Value.int) d) (S : RoadKit.Sta Z h ST "COMPACT_STRINGS" "Z" (.int z)) (hz : ¬ z = 0)
    (hn : cs.length = n) (hN : N = Int32.ofNat n) (l0 : 0 < n) (l2 : n ≤ 4000) (hp : ∀ c ∈ cs, ¬ c < 0 ∧ ¬ (255 : Int32) < c) (hb : bs = cs.map (fun c => c.toInt8.toInt32)) (hfr : 4 ≤ R.frames) (hlo : W + 65 ≤ R.locals) :
    Back l R p e below s args (⟨"java/lang/String", "<init>", "([C)V"⟩ : MethodName) len W (fun P a => a = #[.ref x, .ref b] ∧ P.U.heap = h ∧ P.cells + 1 ≤ R.cells ∧ P.slots + n ≤ R.slots)
      (fun P _ v B => ∃ L, QV Z x N bs h n0 v B.U.heap L ∧ B.locs = P.locs ++ L ∧ B.cells = P.cells + 1 ∧ B.slots = P.slots + n) := by
  subst hn hN hb
  refine Back.mono (backArv hZ hw wi E V C K S hz (n32 (by omega)) l0 (by omega) (fun c hc => (hp c hc).2) hfr hlo) (fun P a hp => hp) (fun P a v B hp hq => ?_)
  obtain ⟨L, ⟨q1, q2, q3, q4, q5, q6, q7, ⟨kb, v1, v2⟩, q9⟩, hl, hc, hs⟩ := hq
  exact ⟨L, ⟨q1, fun y hy => by rw [q2 y hy]; exact hx0, q3, q5, q7, h.size, kb, hh0, Nat.le_refl _, Nat.ne_of_gt E.lt, q6, by rw [List.map_map]; exact v2⟩, hl, hc, hs⟩
end StrChars.Road
end Jvm.Pilot.@@N@@
namespace Jvm.Pilot.@@N@@
open Jvm Jvm.ClassFile Sem Op Lib Jvm.Free Jvm.Stand Jvm.LawKit Jvm.RoadKit Bundle Jvm.Pilot.@@N@@.Jvm.D
def own_Go (tb : Tables) (e : Env) (below : List Frame) (P : State → Prop) (A : State) : Prop := ∃ t, Steps tb e below A t ∧ P t
theorem own_go {tb : Tables} {e : Env} {below : List Frame} {P : State → Prop} {A B : State} (h : ∀ t, Steps tb e below B t → Steps tb e below A t) (g : own_Go tb e below P B) : own_Go tb e below P A := by
  obtain ⟨t, h1, h2⟩ := g
  exact ⟨t, h t h1, h2⟩
theorem own_fin {tb : Tables} {e : Env} {below : List Frame} {A : State} {Qq : Outcome → State → Prop} (g : own_Go tb e below (fun t => ∃ o, t.status = .running ∧ Ended t below o ∧ Qq o t) A) : ∃ t o, Steps tb e below A t ∧ t.status = .running ∧ Ended t below o ∧ Qq o t := by
  obtain ⟨t, h1, o, h2, h3, h4⟩ := g
  exact ⟨t, o, h1, h2, h3, h4⟩
theorem own_ret {tb : Tables} {e : Env} {below : List Frame} {P : State → Prop} {A t : State} (h : Steps tb e below A t) (q : P t) : own_Go tb e below P A := ⟨t, h, q⟩
def own_M (l : Launch) (y : MethodName) (bytes : ByteArray) (maxL : Nat) (ret : Option FieldType) (ws : List Jvm.Cond) (rm : Room) (Z : State) (as : Array Value) (h0 : Heap) (Q : Option Value → Heap → List Loc → Prop) : Prop := MetFree l y (head1 (Jvm.Cond.code y bytes maxL ret :: ws) rm) (fun aR UR => aR = as ∧ Z.Warmed39 UR.vm ∧ UR.heap = h0) (fun _ _ _ _ _ => True) (fun _ UR oR UR' => ∃ vR LR, oR = .returned vR ∧ Q vR UR'.heap LR ∧ FrameEnd UR oR UR' LR rm.cells rm.slots)
theorem own_body {l : Launch} {y : MethodName} {bytes : ByteArray} {maxL : Nat} {ret : Option FieldType} {ws : List Jvm.Cond} {rm : Room} {Z : State} {as : Array Value} {h0 : Heap} {Q : Option Value → Heap → List Loc → Prop} {own : String} {f : MethodId → JFrame} (ho : y.cls = own) (hx : plainFor y = true) (ef : ∀ m, entryFrame m as maxL = f m) (k : ∀ (p : Program) (e : Env) (s : State) (m : MethodId) (below : List Frame) (meth : Method) (c : Code) (s₁ : State), BodyLoose p l y (head1 (Jvm.Cond.code y bytes maxL ret :: ws) rm) bytes maxL ret e s m as below meth c s₁ → c.maxLocals = maxL → Z.Warmed39 s.vm → s.heap = h0 → p.tables.exec = Jvm.exec → c.code = bytes → s.vm.findClass own = some m.cls → Stand p l e rm s m as below meth c s₁ [] 0 0 → s₁.heap = h0 → own_Go p.tables e below (fun t => ∃ o, t.status = .running ∧ Ended t below o ∧ ∃ vR LR, o = .returned vR ∧ Q vR t.heap LR ∧ FrameEnd s o t LR rm.cells rm.slots) (s₁.setTop (f m))) : own_M l y bytes maxL ret ws rm Z as h0 Q := by
  subst ho
  refine MetFree.of_bodySF hx hisR ?_
  intro p e s m args below meth c s₁ Bd hml hP hK
  obtain ⟨rfl, hZ, hh⟩ := hP
  exact own_fin (own_go (fun tT kK => castTop (ef m) kK) (k p e s m below meth c s₁ Bd hml hZ hh Bd.exec Bd.bytes (findClass_of_methodNamed Bd.named) (Stand.of_body Bd) (by rw [← hh, Bd.state]; rfl)))
def own_MH (l : Launch) (y : MethodName) (bytes : ByteArray) (maxL : Nat) (ret : Option FieldType) (ws : List Jvm.Cond) (rm : Room) (Z : State) (as : Array Value) (h0 : Heap) (Q : Option Value → Heap → List Loc → Prop) (EL : List (String × Nat)) : Prop := MetFree l y (head1 (Jvm.Cond.code y bytes maxL ret :: ws) rm) (fun aR UR => aR = as ∧ Z.Warmed39 UR.vm ∧ UR.heap = h0 ∧ CHv Z EL UR.vm h0) (fun _ _ _ _ _ => True) (fun _ UR oR UR' => ∃ vR LR, oR = .returned vR ∧ Q vR UR'.heap LR ∧ CHr Z EL UR.vm UR.heap UR'.vm UR'.heap ∧ ReturnedEndW UR oR UR' LR rm.cells rm.slots)
theorem own_bodyH {l : Launch} {y : MethodName} {bytes : ByteArray} {maxL : Nat} {ret : Option FieldType} {ws : List Jvm.Cond} {rm : Room} {Z : State} {as : Array Value} {h0 : Heap} {Q : Option Value → Heap → List Loc → Prop} {EL : List (String × Nat)} {own : String} {f : MethodId → JFrame} (ho : y.cls = own) (hx : plainFor y = true) (ef : ∀ m, entryFrame m as maxL = f m) (k : ∀ (p : Program) (e : Env) (s : State) (m : MethodId) (below : List Frame) (meth : Method) (c : Code) (s₁ : State), BodyLoose p l y (head1 (Jvm.Cond.code y bytes maxL ret :: ws) rm) bytes maxL ret e s m as below meth c s₁ → c.maxLocals = maxL → Z.Warmed39 s.vm → s.heap = h0 → p.tables.exec = Jvm.exec → c.code = bytes → s.vm.findClass own = some m.cls → Stand p l e rm s m as below meth c s₁ [] 0 0 → s₁.heap = h0 → s.Since s.vm h0.size → CHv Z EL s.vm h0 → own_Go p.tables e below (fun t => ∃ o, t.status = .running ∧ Ended t below o ∧ ∃ vR LR, o = .returned vR ∧ Q vR t.heap LR ∧ CHr Z EL s.vm s.heap t.vm t.heap ∧ ReturnedEndW s o t LR rm.cells rm.slots) (s₁.setTop (f m))) : own_MH l y bytes maxL ret ws rm Z as h0 Q EL := by
  subst ho
  refine MetFree.of_bodySF hx hisR ?_
  intro p e s m args below meth c s₁ Bd hml hP hK
  obtain ⟨rfl, hZ, hh, CH0⟩ := hP
  exact own_fin (own_go (fun tT kK => castTop (ef m) kK) (k p e s m below meth c s₁ Bd hml hZ hh Bd.exec Bd.bytes (findClass_of_methodNamed Bd.named) (Stand.of_body Bd) (by rw [← hh, Bd.state]; rfl) ((State.WarmedH.refl s).since _) CH0))
theorem own_sh {tb : Tables} {e : Env} {below : List Frame} {P : State → Prop} {T : State} {m : MethodId} (pc : Nat) (Ls : Array Slot) (st : List Value) (g : own_Go tb e below P (T.setTop (mkF m pc Ls st))) : own_Go tb e below P (T.setTop (mkF m pc Ls st)) := g
theorem own_nn {a b : Nat} (h : ¬ a = b) : a ≠ b := h
theorem own_ll {a b : Nat} (h : a < b) : a < b := h
theorem own_w {Z : State} {a0 : Array Value} {tab : List Jvm.Cond} (hw : ∀ d ∈ tab, d.before a0 Z = true) (i : Nat) {d : Jvm.Cond} (h : tab[i]? = some d) : d.before a0 Z = true := hw d (List.mem_of_getElem? h)
theorem own_iloadN {tb : Tables} [Ours tb] {e : Env} {below : List Frame} {T : State} {m : MethodId} {c : Code} {P : State → Prop} {pc : Nat} {Ls : Array Slot} {st : List Value} {bc : ByteArray} (h : At T m c below) (hx : tb.exec = Jvm.exec) (hby : c.code = bc) {k : Fin 4} {v : Int32} (hd : decode bc pc = .ok (.iload_n k, 1)) (hl : Ls[k.val]? = some (.val (.int v))) (g : own_Go tb e below P (T.setTop (mkF m (pc + 1) Ls ((.int v) :: st)))) : own_Go tb e below P (T.setTop (mkF m pc Ls (st))) := own_go (fun t k => XS.iloadN h hx rfl (hb hby hd) hl k) g
theorem own_iload {tb : Tables} [Ours tb] {e : Env} {below : List Frame} {T : State} {m : MethodId} {c : Code} {P : State → Prop} {pc : Nat} {Ls : Array Slot} {st : List Value} {bc : ByteArray} (h : At T m c below) (hx : tb.exec = Jvm.exec) (hby : c.code = bc) {k : Nat} {v : Int32} (hd : decode bc pc = .ok (.iload k, 2)) (hl : Ls[k]? = some (.val (.int v))) (g : own_Go tb e below P (T.setTop (mkF m (pc + 2) Ls ((.int v) :: st)))) : own_Go tb e below P (T.setTop (mkF m pc Ls (st))) := own_go (fun t k => XS.iload h hx rfl (hb hby hd) hl k) g
theorem own_aloadN {tb : Tables} [Ours tb] {e : Env} {below : List Frame} {T : State} {m : MethodId} {c : Code} {P : State → Prop} {pc : Nat} {Ls : Array Slot} {st : List Value} {bc : ByteArray} (h : At T m c below) (hx : tb.exec = Jvm.exec) (hby : c.code = bc) {k : Fin 4} {v : Value} (hd : decode bc pc = .ok (.aload_n k, 1)) (hl : Ls[k.val]? = some (.val v)) (hv : v.isRef = true) (g : own_Go tb e below P (T.setTop (mkF m (pc + 1) Ls (v :: st)))) : own_Go tb e below P (T.setTop (mkF m pc Ls (st))) := own_go (fun t k => XS.aloadN h hx rfl (hb hby hd) hl hv k) g
theorem own_aload {tb : Tables} [Ours tb] {e : Env} {below : List Frame} {T : State} {m : MethodId} {c : Code} {P : State → Prop} {pc : Nat} {Ls : Array Slot} {st : List Value} {bc : ByteArray} (h : At T m c below) (hx : tb.exec = Jvm.exec) (hby : c.code = bc) {k : Nat} {v : Value} (hd : decode bc pc = .ok (.aload k, 2)) (hl : Ls[k]? = some (.val v)) (hv : v.isRef = true) (g : own_Go tb e below P (T.setTop (mkF m (pc + 2) Ls (v :: st)))) : own_Go tb e below P (T.setTop (mkF m pc Ls (st))) := own_go (fun t k => XS.aload h hx rfl (hb hby hd) hl hv k) g
theorem own_istoreN {tb : Tables} [Ours tb] {e : Env} {below : List Frame} {T : State} {m : MethodId} {c : Code} {P : State → Prop} {pc : Nat} {Ls : Array Slot} {st : List Value} {bc : ByteArray} (h : At T m c below) (hx : tb.exec = Jvm.exec) (hby : c.code = bc) {k : Fin 4} {x : Int32} {l' : Array Slot} (hd : decode bc pc = .ok (.istore_n k, 1)) (hl : storeLocals Ls k.val (.int x) = some l') (g : own_Go tb e below P (T.setTop (mkF m (pc + 1) l' (st)))) : own_Go tb e below P (T.setTop (mkF m pc Ls ((.int x) :: st))) := own_go (fun t k => XS.istoreN h hx rfl (hb hby hd) rfl hl k) g
theorem own_istore {tb : Tables} [Ours tb] {e : Env} {below : List Frame} {T : State} {m : MethodId} {c : Code} {P : State → Prop} {pc : Nat} {Ls : Array Slot} {st : List Value} {bc : ByteArray} (h : At T m c below) (hx : tb.exec = Jvm.exec) (hby : c.code = bc) {k : Nat} {x : Int32} {l' : Array Slot} (hd : decode bc pc = .ok (.istore k, 2)) (hl : storeLocals Ls k (.int x) = some l') (g : own_Go tb e below P (T.setTop (mkF m (pc + 2) l' (st)))) : own_Go tb e below P (T.setTop (mkF m pc Ls ((.int x) :: st))) := own_go (fun t k => XS.istore h hx rfl (hb hby hd) rfl hl k) g
theorem own_astore {tb : Tables} [Ours tb] {e : Env} {below : List Frame} {T : State} {m : MethodId} {c : Code} {P : State → Prop} {pc : Nat} {Ls : Array Slot} {st : List Value} {bc : ByteArray} (h : At T m c below) (hx : tb.exec = Jvm.exec) (hby : c.code = bc) {k : Nat} {x : Value} {l' : Array Slot} (hd : decode bc pc = .ok (.astore k, 2)) (hv : x.isRef = true) (hl : storeLocals Ls k x = some l') (g : own_Go tb e below P (T.setTop (mkF m (pc + 2) l' (st)))) : own_Go tb e below P (T.setTop (mkF m pc Ls (x :: st))) := own_go (fun t k => XS.astore h hx rfl (hb hby hd) rfl hv hl k) g
theorem own_iconst {tb : Tables} [Ours tb] {e : Env} {below : List Frame} {T : State} {m : MethodId} {c : Code} {P : State → Prop} {pc : Nat} {Ls : Array Slot} {st : List Value} {bc : ByteArray} (h : At T m c below) (hx : tb.exec = Jvm.exec) (hby : c.code = bc) {i : Int} {v : Int32} (hd : decode bc pc = .ok (.iconst i, 1)) (hv : Int32.ofInt i = v) (g : own_Go tb e below P (T.setTop (mkF m (pc + 1) Ls ((.int v) :: st)))) : own_Go tb e below P (T.setTop (mkF m pc Ls st)) := by
  subst hv
  exact own_go (fun t k => XS.iconst h hx rfl (hb hby hd) k) g
theorem own_sipush {tb : Tables} [Ours tb] {e : Env} {below : List Frame} {T : State} {m : MethodId} {c : Code} {P : State → Prop} {pc : Nat} {Ls : Array Slot} {st : List Value} {bc : ByteArray} (h : At T m c below) (hx : tb.exec = Jvm.exec) (hby : c.code = bc) {i : Int} {v : Int32} (hd : decode bc pc = .ok (.sipush i, 3)) (hv : (Int16.ofInt i).toInt32 = v) (g : own_Go tb e below P (T.setTop (mkF m (pc + 3) Ls ((.int v) :: st)))) : own_Go tb e below P (T.setTop (mkF m pc Ls st)) := by
  subst hv
  exact own_go (fun t k => XS.sipush h hx rfl (hb hby hd) k) g
theorem own_aconstNull {tb : Tables} [Ours tb] {e : Env} {below : List Frame} {T : State} {m : MethodId} {c : Code} {P : State → Prop} {pc : Nat} {Ls : Array Slot} {st : List Value} {bc : ByteArray} (h : At T m c below) (hx : tb.exec = Jvm.exec) (hby : c.code = bc)  (hd : decode bc pc = .ok (.aconst_null, 1)) (g : own_Go tb e below P (T.setTop (mkF m (pc + 1) Ls (.null :: st)))) : own_Go tb e below P (T.setTop (mkF m pc Ls (st))) := own_go (fun t k => XS.aconstNull h hx rfl (hb hby hd)  k) g
theorem own_iand {tb : Tables} [Ours tb] {e : Env} {below : List Frame} {T : State} {m : MethodId} {c : Code} {P : State → Prop} {pc : Nat} {Ls : Array Slot} {st : List Value} {bc : ByteArray} (h : At T m c below) (hx : tb.exec = Jvm.exec) (hby : c.code = bc) {x y v : Int32} (hd : decode bc pc = .ok (.iand, 1)) (hv : (x &&& y) = v) (g : own_Go tb e below P (T.setTop (mkF m (pc + 1) Ls ((.int v) :: st)))) : own_Go tb e below P (T.setTop (mkF m pc Ls ((.int y) :: (.int x) :: st))) := by
  subst hv
  exact own_go (fun t k => XS.iand h hx rfl (hb hby hd) rfl k) g
theorem own_iushr {tb : Tables} [Ours tb] {e : Env} {below : List Frame} {T : State} {m : MethodId} {c : Code} {P : State → Prop} {pc : Nat} {Ls : Array Slot} {st : List Value} {bc : ByteArray} (h : At T m c below) (hx : tb.exec = Jvm.exec) (hby : c.code = bc) {x y v : Int32} (hd : decode bc pc = .ok (.iushr, 1)) (hv : ((x.toUInt32 >>> (y &&& 31).toUInt32).toInt32) = v) (g : own_Go tb e below P (T.setTop (mkF m (pc + 1) Ls ((.int v) :: st)))) : own_Go tb e below P (T.setTop (mkF m pc Ls ((.int y) :: (.int x) :: st))) := by
  subst hv
  exact own_go (fun t k => XS.iushr h hx rfl (hb hby hd) rfl k) g
theorem own_i2b {tb : Tables} [Ours tb] {e : Env} {below : List Frame} {T : State} {m : MethodId} {c : Code} {P : State → Prop} {pc : Nat} {Ls : Array Slot} {st : List Value} {bc : ByteArray} (h : At T m c below) (hx : tb.exec = Jvm.exec) (hby : c.code = bc) {x : Int32} {v : Int32} (hd : decode bc pc = .ok (.i2b, 1)) (hv : (x.toInt8.toInt32) = v) (g : own_Go tb e below P (T.setTop (mkF m (pc + 1) Ls ((.int v) :: st)))) : own_Go tb e below P (T.setTop (mkF m pc Ls ((.int x) :: st))) := by
  subst hv
  exact own_go (fun t k => XS.i2b h hx rfl (hb hby hd) rfl k) g
theorem own_i2c {tb : Tables} [Ours tb] {e : Env} {below : List Frame} {T : State} {m : MethodId} {c : Code} {P : State → Prop} {pc : Nat} {Ls : Array Slot} {st : List Value} {bc : ByteArray} (h : At T m c below) (hx : tb.exec = Jvm.exec) (hby : c.code = bc) {x : Int32} {v : Int32} (hd : decode bc pc = .ok (.i2c, 1)) (hv : (x.toUInt32.toUInt16.toUInt32.toInt32) = v) (g : own_Go tb e below P (T.setTop (mkF m (pc + 1) Ls ((.int v) :: st)))) : own_Go tb e below P (T.setTop (mkF m pc Ls ((.int x) :: st))) := by
  subst hv
  exact own_go (fun t k => XS.i2c h hx rfl (hb hby hd) rfl k) g
theorem own_dup {tb : Tables} [Ours tb] {e : Env} {below : List Frame} {T : State} {m : MethodId} {c : Code} {P : State → Prop} {pc : Nat} {Ls : Array Slot} {st : List Value} {bc : ByteArray} (h : At T m c below) (hx : tb.exec = Jvm.exec) (hby : c.code = bc) {x : Value} (hd : decode bc pc = .ok (.dup, 1)) (hc : x.category = 1) (g : own_Go tb e below P (T.setTop (mkF m (pc + 1) Ls (x :: x :: st)))) : own_Go tb e below P (T.setTop (mkF m pc Ls (x :: st))) := own_go (fun t k => XS.dup h hx rfl (hb hby hd) rfl hc k) g
theorem own_goto {tb : Tables} [Ours tb] {e : Env} {below : List Frame} {T : State} {m : MethodId} {c : Code} {P : State → Prop} {pc : Nat} {Ls : Array Slot} {st : List Value} {bc : ByteArray} (h : At T m c below) (hx : tb.exec = Jvm.exec) (hby : c.code = bc) {o : Int} {pc' : Nat} (hd : decode bc pc = .ok (.goto o, 3)) (ho : 0 ≤ (pc : Int) + o) (hp : ((pc : Int) + o).toNat = pc') (g : own_Go tb e below P (T.setTop (mkF m pc' Ls st))) : own_Go tb e below P (T.setTop (mkF m pc Ls st)) := own_go (fun t k => XS.goto h hx rfl (pc0 := pc) rfl (hb hby hd) ho hp k) g
theorem own_ifYes {tb : Tables} [Ours tb] {e : Env} {below : List Frame} {T : State} {m : MethodId} {c : Code} {P : State → Prop} {pc : Nat} {Ls : Array Slot} {st : List Value} {bc : ByteArray} (h : At T m c below) (hx : tb.exec = Jvm.exec) (hby : c.code = bc) {cd : ClassFile.Cond} {o : Int} {pc' : Nat} {x : Int32} (hd : decode bc pc = .ok (.ifCond cd o, 3)) (hc : ifCond.holds cd x = true) (ho : 0 ≤ (pc : Int) + o) (hp : ((pc : Int) + o).toNat = pc') (g : own_Go tb e below P (T.setTop (mkF m pc' Ls st))) : own_Go tb e below P (T.setTop (mkF m pc Ls ((.int x) :: st))) := own_go (fun t k => XS.ifYes h hx rfl (pc0 := pc) rfl (hb hby hd) rfl hc ho hp k) g
theorem own_ifNo {tb : Tables} [Ours tb] {e : Env} {below : List Frame} {T : State} {m : MethodId} {c : Code} {P : State → Prop} {pc : Nat} {Ls : Array Slot} {st : List Value} {bc : ByteArray} (h : At T m c below) (hx : tb.exec = Jvm.exec) (hby : c.code = bc) {cd : ClassFile.Cond} {o : Int} {x : Int32} (hd : decode bc pc = .ok (.ifCond cd o, 3)) (hc : ifCond.holds cd x = false) (g : own_Go tb e below P (T.setTop (mkF m (pc + 3) Ls st))) : own_Go tb e below P (T.setTop (mkF m pc Ls ((.int x) :: st))) := own_go (fun t k => XS.ifNo h hx rfl (hb hby hd) rfl hc k) g
theorem own_icmpYes {tb : Tables} [Ours tb] {e : Env} {below : List Frame} {T : State} {m : MethodId} {c : Code} {P : State → Prop} {pc : Nat} {Ls : Array Slot} {st : List Value} {bc : ByteArray} (h : At T m c below) (hx : tb.exec = Jvm.exec) (hby : c.code = bc) {cd : ClassFile.Cond} {o : Int} {pc' : Nat} {x y : Int32} (hd : decode bc pc = .ok (.if_icmp cd o, 3)) (hc : if_icmp.holds cd x y = true) (ho : 0 ≤ (pc : Int) + o) (hp : ((pc : Int) + o).toNat = pc') (g : own_Go tb e below P (T.setTop (mkF m pc' Ls st))) : own_Go tb e below P (T.setTop (mkF m pc Ls ((.int y) :: (.int x) :: st))) := own_go (fun t k => XS.icmpYes h hx rfl (pc0 := pc) rfl (hb hby hd) rfl hc ho hp k) g
theorem own_icmpNo {tb : Tables} [Ours tb] {e : Env} {below : List Frame} {T : State} {m : MethodId} {c : Code} {P : State → Prop} {pc : Nat} {Ls : Array Slot} {st : List Value} {bc : ByteArray} (h : At T m c below) (hx : tb.exec = Jvm.exec) (hby : c.code = bc) {cd : ClassFile.Cond} {o : Int} {x y : Int32} (hd : decode bc pc = .ok (.if_icmp cd o, 3)) (hc : if_icmp.holds cd x y = false) (g : own_Go tb e below P (T.setTop (mkF m (pc + 3) Ls st))) : own_Go tb e below P (T.setTop (mkF m pc Ls ((.int y) :: (.int x) :: st))) := own_go (fun t k => XS.icmpNo h hx rfl (hb hby hd) rfl hc k) g
theorem own_ifnonnullYes {tb : Tables} [Ours tb] {e : Env} {below : List Frame} {T : State} {m : MethodId} {c : Code} {P : State → Prop} {pc : Nat} {Ls : Array Slot} {st : List Value} {bc : ByteArray} (h : At T m c below) (hx : tb.exec = Jvm.exec) (hby : c.code = bc) {o : Int} {pc' : Nat} {b : Addr} (hd : decode bc pc = .ok (.ifnonnull o, 3)) (ho : 0 ≤ (pc : Int) + o) (hp : ((pc : Int) + o).toNat = pc') (g : own_Go tb e below P (T.setTop (mkF m pc' Ls st))) : own_Go tb e below P (T.setTop (mkF m pc Ls ((.ref b) :: st))) := own_go (fun t k => XS.ifnonnullYes h hx rfl (pc0 := pc) rfl (hb hby hd) rfl ho hp k) g
section OwnGo
variable {p : Program} {l : Launch} {e : Env} {R : Room} {s : State} {m : MethodId} {args : Array Value} {below : List Frame} {meth : Method} {c : Code} {T : State} {locs : List Loc} {cells slots : Nat} {Z : State} {a0 : Array Value} {h : Heap} {P : State → Prop} {pc : Nat} {Ls : Array Slot} {st : List Value} {bc : ByteArray} {n0 : Nat}
theorem own_getF (X : Stand p l e R s m args below meth c T locs cells slots) (hx : p.tables.exec = Jvm.exec) (hZ : Z.Warmed39 s.vm) {own R0 O n d host : String} {index : Nat} (hown : s.vm.findClass own = some m.cls) (w : (Cond.fieldLink own index R0 n d).before a0 Z = true ∨ (Cond.fieldLinkNest own index R0 n d host).before a0 Z = true) (via : Via Z R0 O n d) (eT : T.heap = h) {a : Addr} {v : Value} (F : Fld Z h a O n d v) (hby : c.code = bc) (hd : decode bc pc = .ok (.getfield index, 3)) (k : ∀ T', Stand p l e R s m args below meth c T' locs cells slots → T'.heap = h → own_Go p.tables e below P (T'.setTop (mkF m (pc + 3) Ls (v :: st)))) : own_Go p.tables e below P (T.setTop (mkF m pc Ls ((.ref a) :: st))) := by
  obtain ⟨T', X', e', sp⟩ := getF X hx hZ hown w via eT F (g := mkF m pc Ls ((.ref a) :: st)) rfl rfl (hb hby hd)
  exact own_go sp (k T' X' e')
theorem own_getS (X : Stand p l e R s m args below meth c T locs cells slots) (hx : p.tables.exec = Jvm.exec) (hZ : Z.Warmed39 s.vm) {own R0 O n d host : String} {index : Nat} (hown : s.vm.findClass own = some m.cls) (w : (Cond.fieldLink own index R0 n d).before a0 Z = true ∨ (Cond.fieldLinkNest own index R0 n d host).before a0 Z = true) (via : Via Z R0 O n d) (eT : T.heap = h) {v : Value} (F : Sta Z h O n d v) (hby : c.code = bc) (hd : decode bc pc = .ok (.getstatic index, 3)) (k : ∀ T', Stand p l e R s m args below meth c T' locs cells slots → T'.heap = h → own_Go p.tables e below P (T'.setTop (mkF m (pc + 3) Ls (v :: st)))) : own_Go p.tables e below P (T.setTop (mkF m pc Ls st)) := by
  obtain ⟨T', X', e', sp⟩ := getS2 X hx hZ hown w via eT F (g := mkF m pc Ls st) rfl (hb hby hd)
  exact own_go sp (k T' X' e')
theorem own_putF (X : Stand p l e R s m args below meth c T locs cells slots) (hx : p.tables.exec = Jvm.exec) (hZ : Z.Warmed39 s.vm) {C : String} {kk : Nat} {ty : FieldType} {own R0 O n d host : String} {index : Nat} (hown : s.vm.findClass own = some m.cls) (w : (Cond.fieldLink own index R0 n d).before a0 Z = true ∨ (Cond.fieldLinkNest own index R0 n d host).before a0 Z = true) (via : Via Z R0 O n d) (eT : T.heap = h) {a : Addr} {v old : Value} (F : Fld Z h a O n d old) (E : Exa Z h a C) (L : (Cond.lays C O n d).before a0 Z = true ∨ ((Cond.laysFinal C O n d).before a0 Z = true ∧ own = O ∧ meth.name = "<init>")) (wi : (Cond.instantiable C kk).before a0 Z = true) (hty : parseFieldDescriptor d = some ty) (hn : narrow ty v = v) (hf : fits ty v = true) (hby : c.code = bc) (hd : decode bc pc = .ok (.putfield index, 3)) (N : Fr n0 locs) (ge : n0 ≤ a) (k : ∀ T' h' locs', Stand p l e R s m args below meth c T' locs' cells slots → T'.heap = h' → Fr n0 locs' → Wr h h' a (Jvm.RoadKit.slotOf Z O n d) v → Fld Z h' a O n d v → h.size ≤ h'.size → own_Go p.tables e below P (T'.setTop (mkF m (pc + 3) Ls st))) : own_Go p.tables e below P (T.setTop (mkF m pc Ls (v :: (.ref a) :: st))) := by
  obtain ⟨T', h', X', e', W, sp⟩ := putF X hx hZ hown w via eT F E L wi hty hn hf (g := mkF m pc Ls (v :: (.ref a) :: st)) rfl rfl (hb hby hd)
  exact own_go sp (k T' h' _ X' e' (Fr.snoc X' N ge) W (F.same W) (Keep.of_wr W).1)
theorem own_putFN (X : Stand p l e R s m args below meth c T locs cells slots) (hx : p.tables.exec = Jvm.exec) (hZ : Z.Warmed39 s.vm) {own R0 O n d C : String} {index kk : Nat} {ty : FieldType} (hown : s.vm.findClass own = some m.cls) (w : (Cond.fieldLink own index R0 n d).before a0 Z = true) (via : Via Z R0 O n d) (eT : T.heap = h) {a : Addr} {v v' old : Value} (F : Fld Z h a O n d old) (E : Exa Z h a C) (L : (Cond.lays C O n d).before a0 Z = true ∨ ((Cond.laysFinal C O n d).before a0 Z = true ∧ own = O ∧ meth.name = "<init>")) (wi : (Cond.instantiable C kk).before a0 Z = true) (hty : parseFieldDescriptor d = some ty) (hn : narrow ty v = v') (hf : fits ty v' = true) (hby : c.code = bc) (hd : decode bc pc = .ok (.putfield index, 3)) (N : Fr n0 locs) (ge : n0 ≤ a) (k : ∀ T' h' locs', Stand p l e R s m args below meth c T' locs' cells slots → T'.heap = h' → Fr n0 locs' → Wr h h' a (Jvm.RoadKit.slotOf Z O n d) v' → Fld Z h' a O n d v' → h.size ≤ h'.size → own_Go p.tables e below P (T'.setTop (mkF m (pc + 3) Ls st))) : own_Go p.tables e below P (T.setTop (mkF m pc Ls (v :: (.ref a) :: st))) := by
  obtain ⟨T', h', X', e', W, sp⟩ := putFN X hx hZ hown w via eT F E L wi hty hn hf (g := mkF m pc Ls (v :: (.ref a) :: st)) rfl rfl (hb hby hd)
  exact own_go sp (k T' h' _ X' e' (Fr.snoc X' N ge) W (F.same W) (Keep.of_wr W).1)
theorem own_newO (X : Stand p l e R s m args below meth c T locs cells slots) (hx : p.tables.exec = Jvm.exec) (hZ : Z.Warmed39 s.vm) {own C : String} {index n : Nat} (hown : s.vm.findClass own = some m.cls) (w : (Cond.classLink own index C).before a0 Z = true) (wi : (Cond.instantiable C n).before a0 Z = true) (wz : (Cond.initialized C).before a0 Z = true) (eT : T.heap = h) (hby : c.code = bc) (hd : decode bc pc = .ok (.new index, 3)) (hc : cells + 1 ≤ R.cells) (hl : slots + n ≤ R.slots) (k : ∀ T' h' b, Stand p l e R s m args below meth c T' locs (cells + 1) (slots + n) → T'.heap = h' → Ext h h' → b = h.size → Exa Z h' b C → (∀ {O nm d : String} {ty : FieldType}, Laid Z a0 C O nm d → parseFieldDescriptor d = some ty → Fld Z h' b O nm d (defaultValue ty)) → b < h'.size → own_Go p.tables e below P (T'.setTop (mkF m (pc + 3) Ls ((.ref b) :: st)))) : own_Go p.tables e below P (T.setTop (mkF m pc Ls st)) := by
  obtain ⟨T', h', X', e', E, A, D, -, sp⟩ := newO X hx hZ hown w wi wz eT (g := mkF m pc Ls st) rfl (hb hby hd) hc hl
  exact own_go sp (k T' h' _ X' e' E rfl A D A.lt)
theorem own_newP (X : Stand p l e R s m args below meth c T locs cells slots) (hx : p.tables.exec = Jvm.exec) (hZ : Z.Warmed39 s.vm) {aty : ArrayType} (w : (Cond.arrayClass (newarray.typeOf aty)).before a0 Z = true) (eT : T.heap = h) (hby : c.code = bc) (hd : decode bc pc = .ok (.newarray aty, 2)) {n : Int32} (hn : ¬ n < 0) (cap : Nat) (hcap : n.toNatClampNeg ≤ cap) (hb8 : cap * 8 ≤ 536870912) (hc : cells + 1 ≤ R.cells) (hl : slots + cap ≤ R.slots) {ad : String} (had : "[" ++ (newarray.typeOf aty).toString = ad) (k : ∀ T' h' cA b, Stand p l e R s m args below meth c T' locs (cells + 1) (slots + cap) → T'.heap = h' → Ext h h' → b = h.size → Arv Z h' b cA (newarray.typeOf aty) n [] (defaultValue (newarray.typeOf aty)) → Exa Z h' b ad → b < h'.size → own_Go p.tables e below P (T'.setTop (mkF m (pc + 2) Ls ((.ref b) :: st)))) : own_Go p.tables e below P (T.setTop (mkF m pc Ls ((.int n) :: st))) := by
  obtain ⟨T', h', cA, X', e', E, A, C, sp⟩ := newPE X hx hZ w eT (g := mkF m pc Ls ((.int n) :: st)) rfl (hb hby hd) rfl hn (cap := cap) hcap hb8 hc hl had
  exact own_go sp (k T' h' cA _ X' e' E rfl (Arv.new A hn) C C.lt)
theorem own_castore (X : Stand p l e R s m args below meth c T locs cells slots) (hx : p.tables.exec = Jvm.exec) (hZ : Z.Warmed39 s.vm) (eT : T.heap = h) {a : Addr} {kc : ClassId} {z j : Int32} {x : Int32} {w : Value} {vs : List Value} {dv : Value} (V : Arv Z h a kc .char z vs dv) (hj : ¬ j < 0 ∧ j < z) (i : Nat) (hi : j.toNatClampNeg = i) (hl : i < vs.length) (hv : (.int (nar .char x)) = w) (hby : c.code = bc) (hd : decode bc pc = .ok (.castore, 1)) (N : Fr n0 locs) (ge : n0 ≤ a) (k : ∀ T' h' locs', Stand p l e R s m args below meth c T' locs' cells slots → T'.heap = h' → Fr n0 locs' → Wr h h' a i w → Arv Z h' a kc .char z (vs.set i w) dv → h.size ≤ h'.size → own_Go p.tables e below P (T'.setTop (mkF m (pc + 1) Ls st))) : own_Go p.tables e below P (T.setTop (mkF m pc Ls ((.int x) :: (.int j) :: (.ref a) :: st))) := by
  subst hv hi
  obtain ⟨cl, A, q, S, M, H, G⟩ := V
  obtain ⟨T', h', X', e', W, sp⟩ := stC X hx hZ eT A (j := j) (inb_of S hj) (g := mkF m pc Ls ((.int x) :: (.int j) :: (.ref a) :: st)) rfl rfl (hb hby hd)
  exact own_go sp (k T' h' _ X' e' (Fr.snoc X' N ge) W (Arv.set A q S M H G (fits_nar_char _) W _ rfl hl) (Keep.of_wr W).1)
theorem own_bastore (X : Stand p l e R s m args below meth c T locs cells slots) (hx : p.tables.exec = Jvm.exec) (hZ : Z.Warmed39 s.vm) (eT : T.heap = h) {a : Addr} {kc : ClassId} {z j : Int32} {x : Int32} {w : Value} {vs : List Value} {dv : Value} (V : Arv Z h a kc .byte z vs dv) (hj : ¬ j < 0 ∧ j < z) (i : Nat) (hi : j.toNatClampNeg = i) (hl : i < vs.length) (hv : (.int (nar .byte x)) = w) (hby : c.code = bc) (hd : decode bc pc = .ok (.bastore, 1)) (N : Fr n0 locs) (ge : n0 ≤ a) (k : ∀ T' h' locs', Stand p l e R s m args below meth c T' locs' cells slots → T'.heap = h' → Fr n0 locs' → Wr h h' a i w → Arv Z h' a kc .byte z (vs.set i w) dv → h.size ≤ h'.size → own_Go p.tables e below P (T'.setTop (mkF m (pc + 1) Ls st))) : own_Go p.tables e below P (T.setTop (mkF m pc Ls ((.int x) :: (.int j) :: (.ref a) :: st))) := by
  subst hv hi
  obtain ⟨cl, A, q, S, M, H, G⟩ := V
  obtain ⟨T', h', X', e', W, sp⟩ := stB X hx hZ eT A (j := j) (inb_of S hj) (g := mkF m pc Ls ((.int x) :: (.int j) :: (.ref a) :: st)) rfl rfl (hb hby hd)
  exact own_go sp (k T' h' _ X' e' (Fr.snoc X' N ge) W (Arv.set A q S M H G (fits_nar_byte _) W _ rfl hl) (Keep.of_wr W).1)
theorem own_alen (X : Stand p l e R s m args below meth c T locs cells slots) (hx : p.tables.exec = Jvm.exec) (hZ : Z.Warmed39 s.vm) (eT : T.heap = h) {a : Addr} {kc : ClassId} {ty : FieldType} {z : Int32} {vs : List Value} {dv : Value} (V : Arv Z h a kc ty z vs dv) (hby : c.code = bc) (hd : decode bc pc = .ok (.arraylength, 1)) (k : own_Go p.tables e below P (T.setTop (mkF m (pc + 1) Ls ((.int z) :: st)))) : own_Go p.tables e below P (T.setTop (mkF m pc Ls ((.ref a) :: st))) := by
  obtain ⟨cl, A, q, S, M, H, G⟩ := V
  refine own_go (fun t q => X.arraylength hx (by rw [eT]; exact A.1) (State.isArrayOf_alike hZ.alike A.2.1) (g := mkF m pc Ls ((.ref a) :: st)) rfl rfl (hb hby hd) t q) ?_
  rw [len_of S M]; exact k
theorem own_initO (X : Stand p l e R s m args below meth c T locs cells slots) (hx : p.tables.exec = Jvm.exec) (hZ : Z.Warmed39 s.vm) {own : String} {idx : Nat} (hown : s.vm.findClass own = some m.cls) (w1 : (Cond.methodLink own idx Lib.objectInit).before a0 Z = true) (w2 : (Cond.instanceMethod Lib.objectInit).before a0 Z = true) (w3 : (Cond.code Lib.objectInit ⟨#[0xb1]⟩ 1 none).before a0 Z = true) (eT : T.heap = h) (hsize : Ls.size = c.maxLocals) {a : Addr} (hby : c.code = bc) (hd : decode bc pc = .ok (.invokespecial idx, 3)) (hf : 1 ≤ R.frames) (W : Nat) (hW : 2 * 0 + (st.map fun v => v.category).sum ≤ W) (hl : W + 12 ≤ R.locals) (k : ∀ T', Stand p l e R s m args below meth c T' locs cells slots → T'.heap = h → own_Go p.tables e below P (T'.setTop (mkF m (pc + 3) Ls st))) : own_Go p.tables e below P (T.setTop (mkF m pc Ls ((.ref a) :: st))) := by
  obtain ⟨T', X', e', sp⟩ := initO X hx hZ hown w1 w2 w3 eT (g := mkF m pc Ls ((.ref a) :: st)) rfl hsize rfl (hb hby hd) hf (W := W) hW hl
  exact own_go sp (k T' X' e')
theorem own_callS (X : Stand p l e R s m args below meth c T locs cells slots) (hx : p.tables.exec = Jvm.exec) (hZ : Z.Warmed39 s.vm) {own : String} {index : Nat} {y : MethodName} {bytes : ByteArray} {maxL : Nat} {ret : Option FieldType} {rm : Room} {Qc : Option Value → Heap → List Loc → Prop} {as' : Array Value} (hown : s.vm.findClass own = some m.cls) (w1 : (Cond.methodLink own index y).before a0 Z = true) (w2 : (Cond.static y).before a0 Z = true) (w3 : (Cond.initialized y.cls).before a0 Z = true) (w4 : (Cond.code y bytes maxL ret).before a0 Z = true) (hy : y.cls ≠ "java/lang/invoke/MethodHandle" ∧ y.cls ≠ "java/lang/invoke/VarHandle") (hM : MetFree l y (head1 [Cond.code y bytes maxL ret] rm) (fun a U => a = as' ∧ Z.Warmed39 U.vm ∧ U.heap = h) (fun _ _ _ _ _ => True) (fun _ U o U' => ∃ v L, o = .returned v ∧ Qc v U'.heap L ∧ FrameEnd U o U' L rm.cells rm.slots)) (W : Nat) (hW : 2 * 0 + (st.map fun v => v.category).sum ≤ W) (hf : rm.frames + 1 ≤ R.frames) (hl : W + (maxL + 11) + rm.locals ≤ R.locals) (hsize : Ls.size = c.maxLocals) {argsL stk : List Value} (hlen : ∀ sig, parseMethodDescriptor y.desc = some sig → argsL.length = sig.parameters.length) (hstk : stk = argsL.reverse ++ st) (has : argsL.toArray = as') (hc : cells + rm.cells ≤ R.cells) (hs : slots + rm.slots ≤ R.slots) (eT : T.heap = h) (hby : c.code = bc) (hd : decode bc pc = .ok (.invokestatic index, 3)) (k : ∀ T' v L, Stand p l e R s m args below meth c T' (locs ++ L) (cells + rm.cells) (slots + rm.slots) → Qc v T'.heap L → own_Go p.tables e below P (T'.setTop (mkF m (pc + 3) Ls (v.toList ++ st)))) : own_Go p.tables e below P (T.setTop (mkF m pc Ls stk)) := by
  subst hstk
  obtain ⟨v, _, ⟨T', L', k', n'⟩, -, X', ⟨L, hQ, hl', hy', hz'⟩, sp⟩ := Jvm.LawKit.callS X hx hown (mvT hZ w1) (mvT hZ w2) (mvT hZ w3) (mvT hZ w4) hy (backOf (W := W) hM hZ w4 w3 hf hl) (g := mkF m pc Ls (argsL.reverse ++ st)) rfl hsize (argsL := argsL) (rest := st) hlen rfl hW (hb hby hd) (fun _ _ => ⟨has, eT, hc, hs⟩)
  dsimp only [Pt.U, Pt.locs, Pt.cells, Pt.slots] at X' hl' hy' hz' sp hQ
  subst hl' hy' hz'
  exact own_go sp (k T' v L X' hQ)
theorem own_special (X : Stand p l e R s m args below meth c T locs cells slots) (hx : p.tables.exec = Jvm.exec) (hZ : Z.Warmed39 s.vm) {own : String} {index : Nat} {y : MethodName} {bytes : ByteArray} {maxL : Nat} {rm : Room} {Qc : Option Value → Heap → List Loc → Prop} {as' : Array Value} (hy1 : y.name = "<init>") (hown : s.vm.findClass own = some m.cls) (w1 : (Cond.methodLink own index y).before a0 Z = true) (w2 : (Cond.instanceMethod y).before a0 Z = true) (w3 : (Cond.initialized y.cls).before a0 Z = true) (w4 : (Cond.code y bytes maxL none).before a0 Z = true) (hy : y.cls ≠ "java/lang/invoke/MethodHandle" ∧ y.cls ≠ "java/lang/invoke/VarHandle") (hM : MetFree l y (head1 [Cond.code y bytes maxL none] rm) (fun a U => a = as' ∧ Z.Warmed39 U.vm ∧ U.heap = h) (fun _ _ _ _ _ => True) (fun _ U o U' => ∃ v L, o = .returned v ∧ Qc v U'.heap L ∧ FrameEnd U o U' L rm.cells rm.slots)) (W : Nat) (hW : 2 * 0 + (st.map fun v => v.category).sum ≤ W) (hf : rm.frames + 1 ≤ R.frames) (hl : W + (maxL + 11) + rm.locals ≤ R.locals) (hsize : Ls.size = c.maxLocals) {argsL stk : List Value} {a : Addr} (hlen : ∀ sig, parseMethodDescriptor y.desc = some sig → argsL.length = sig.parameters.length) (hstk : stk = argsL.reverse ++ (.ref a) :: st) (has : ((.ref a) :: argsL).toArray = as') (hc : cells + rm.cells ≤ R.cells) (hs : slots + rm.slots ≤ R.slots) (eT : T.heap = h) (hby : c.code = bc) (hd : decode bc pc = .ok (.invokespecial index, 3)) (k : ∀ T' v L, Stand p l e R s m args below meth c T' (locs ++ L) (cells + rm.cells) (slots + rm.slots) → Qc v T'.heap L → own_Go p.tables e below P (T'.setTop (mkF m (pc + 3) Ls (v.toList ++ st)))) : own_Go p.tables e below P (T.setTop (mkF m pc Ls stk)) := by
  subst hstk
  obtain ⟨v, _, ⟨T', L', k', n'⟩, -, X', ⟨L, hQ, hl', hy', hz'⟩, sp⟩ := X.specialBack hx hy1 hown (mvT hZ w1) (mvT hZ w2) (mvT hZ w4) hy (backOf (W := W) hM hZ w4 w3 hf hl) (g := mkF m pc Ls (argsL.reverse ++ (.ref a) :: st)) rfl hsize (Steps.refl _) (a := a) (argsL := argsL) (rest := st) hlen rfl hW (hb hby hd) (fun _ _ => ⟨has, eT, hc, hs⟩)
  dsimp only [Pt.U, Pt.locs, Pt.cells, Pt.slots] at X' hl' hy' hz' sp hQ
  subst hl' hy' hz'
  exact own_go (fun t q => sp.trans q) (k T' v L X' hQ)
theorem own_specialB (X : Stand p l e R s m args below meth c T locs cells slots) (hx : p.tables.exec = Jvm.exec) (hZ : Z.Warmed39 s.vm) {own : String} {index : Nat} {y : MethodName} {bytes : ByteArray} {maxL W : Nat} (hy1 : y.name = "<init>") (hown : s.vm.findClass own = some m.cls) (w1 : (Cond.methodLink own index y).before a0 Z = true) (w2 : (Cond.instanceMethod y).before a0 Z = true) (w4 : (Cond.code y bytes maxL none).before a0 Z = true) (hy : y.cls ≠ "java/lang/invoke/MethodHandle" ∧ y.cls ≠ "java/lang/invoke/VarHandle") {Qc : Option Value → Heap → List Loc → Prop} {as' : Array Value} {kc ks : Nat} (hK : Back l R p e below s args y 3 W (fun A a => a = as' ∧ A.U.heap = h ∧ A.cells + kc ≤ R.cells ∧ A.slots + ks ≤ R.slots) (fun A _ v B => ∃ L, Qc v B.U.heap L ∧ B.locs = A.locs ++ L ∧ B.cells = A.cells + kc ∧ B.slots = A.slots + ks)) (hW : 2 * 0 + (st.map fun v => v.category).sum ≤ W) (hsize : Ls.size = c.maxLocals) {argsL stk : List Value} {a : Addr} (hlen : ∀ sig, parseMethodDescriptor y.desc = some sig → argsL.length = sig.parameters.length) (hstk : stk = argsL.reverse ++ (.ref a) :: st) (has : ((.ref a) :: argsL).toArray = as') (hc : cells + kc ≤ R.cells) (hs : slots + ks ≤ R.slots) (eT : T.heap = h) (hby : c.code = bc) (hd : decode bc pc = .ok (.invokespecial index, 3)) (k : ∀ T' v L, Stand p l e R s m args below meth c T' (locs ++ L) (cells + kc) (slots + ks) → Qc v T'.heap L → own_Go p.tables e below P (T'.setTop (mkF m (pc + 3) Ls (v.toList ++ st)))) : own_Go p.tables e below P (T.setTop (mkF m pc Ls stk)) := by
  subst hstk
  obtain ⟨v, _, ⟨T', L', k', n'⟩, -, X', ⟨L, hQ, hl', hy', hz'⟩, sp⟩ := X.specialBack hx hy1 hown (mvT hZ w1) (mvT hZ w2) (mvT hZ w4) hy hK (g := mkF m pc Ls (argsL.reverse ++ (.ref a) :: st)) rfl hsize (Steps.refl _) (a := a) (argsL := argsL) (rest := st) hlen rfl hW (hb hby hd) (fun _ _ => ⟨has, eT, hc, hs⟩)
  dsimp only [Pt.U, Pt.locs, Pt.cells, Pt.slots] at X' hl' hy' hz' sp hQ
  subst hl' hy' hz'
  exact own_go (fun t q => sp.trans q) (k T' v L X' hQ)
theorem own_ldcCH {vm0 : Vm} (X : Stand p l e R (s.setVm vm0) m args below meth c T locs cells slots) (hx : p.tables.exec = Jvm.exec) (hZ : Z.Warmed39 vm0) {own text : String} {index : Nat} {EL : List (String × Nat)} (hEL : EW Z a0 EL) (hown : vm0.findClass own = some m.cls) (w : (Cond.stringLink own index text).before a0 Z = true) (wS : ∀ a ∈ Bundle.stringAtoms, a.before a0 Z = true) (eT : T.heap = h) {k0 : Nat} (hS : s.Since vm0 k0) (hk : k0 ≤ h.size) (H : CHv Z EL vm0 h) (hmem : (own, index) ∈ EL) {vs : List Value} {z : Int32} (ht : (∀ c ∈ text.toList, c.toNat < 256) ∧ text.toList.map (fun c => Value.int (Jvm.Lit.byteI c.toNat.toUInt16)) = vs) (hz : ¬ z < 0) (hl : z.toNatClampNeg = vs.length) (hby : c.code = bc) (hd : decode bc pc = .ok (.ldc index, 2)) (n : Nat) (hn : 4 * text.toList.length ≤ n) (hbig : n ≤ 536870912) (hc : cells + 2 ≤ R.cells) (hl' : slots + (n + 4) ≤ R.slots) (k : ∀ a T' h' k1 vm1 b kb, Stand p l e R (s.setVm vm1) m args below meth c T' locs (cells + 2) (slots + (n + 4)) → T'.heap = h' → Ext h h' → s.Since vm1 k1 → k1 ≤ h'.size → Z.Warmed39 vm1 → vm1.findClass own = some m.cls → Exa Z h' a "java/lang/String" → Fld Z h' a "java/lang/String" "coder" "B" (.int 0) → Fld Z h' a "java/lang/String" "value" "[B" (.ref b) → Arv Z h' b kb .byte z vs (.int 0) → a < h'.size → b < h'.size → CHr Z EL vm0 h vm1 h' → (∀ x, Safe Z EL vm1 h' x → x ≠ a ∧ x ≠ b) → own_Go p.tables e below P (T'.setTop (mkF m (pc + 2) Ls ((.ref a) :: st)))) : own_Go p.tables e below P (T.setTop (mkF m pc Ls st)) := by
  obtain ⟨a, T', h', k1, b, kb, X', e', E, hS', hk', hZ', hown', q1, q2, q3, q4, q5, q6, q7, -, q8, sp⟩ := ldcCH X hx hZ hown w wS eT hS hk hEL hmem H ht hz hl (g := mkF m pc Ls st) rfl (hb hby hd) hn hbig hc hl'
  exact own_go sp (k a T' h' k1 T'.vm b kb X' e' E hS' hk' hZ' hown' q1 q2 q3 q4 q5 q6 q7 q8)
theorem own_specialH {vm0 : Vm} (X : Stand p l e R (s.setVm vm0) m args below meth c T locs cells slots) (hx : p.tables.exec = Jvm.exec) (hZ : Z.Warmed39 vm0) {EL : List (String × Nat)} (hEL : EW Z a0 EL) {own : String} {index : Nat} {y : MethodName} {bytes : ByteArray} {maxL : Nat} {rm : Room} {Qc : Option Value → Heap → List Loc → Prop} {as' : Array Value} (hy1 : y.name = "<init>") (hown : vm0.findClass own = some m.cls) (w1 : (Cond.methodLink own index y).before a0 Z = true) (w2 : (Cond.instanceMethod y).before a0 Z = true) (w3 : (Cond.initialized y.cls).before a0 Z = true) (w4 : (Cond.code y bytes maxL none).before a0 Z = true) (hy : y.cls ≠ "java/lang/invoke/MethodHandle" ∧ y.cls ≠ "java/lang/invoke/VarHandle") (hM : MetFree l y (head1 [Cond.code y bytes maxL none] rm) (fun a U => a = as' ∧ Z.Warmed39 U.vm ∧ U.heap = h ∧ CHv Z EL U.vm h) (fun _ _ _ _ _ => True) (fun _ U o U' => ∃ v L, o = .returned v ∧ Qc v U'.heap L ∧ CHr Z EL U.vm U.heap U'.vm U'.heap ∧ ReturnedEndW U o U' L rm.cells rm.slots)) (W : Nat) (hW : 2 * 0 + (st.map fun v => v.category).sum ≤ W) (hf : rm.frames + 1 ≤ R.frames) (hl : W + (maxL + 11) + rm.locals ≤ R.locals) (hsize : Ls.size = c.maxLocals) {argsL stk : List Value} {a : Addr} (hlen : ∀ sig, parseMethodDescriptor y.desc = some sig → argsL.length = sig.parameters.length) (hstk : stk = argsL.reverse ++ (.ref a) :: st) (has : ((.ref a) :: argsL).toArray = as') (hc : cells + rm.cells ≤ R.cells) (hs : slots + rm.slots ≤ R.slots) (eT : T.heap = h) (hby : c.code = bc) (H : CHv Z EL vm0 h) {k0 : Nat} (hS : s.Since vm0 k0) (hk : k0 ≤ h.size) (hd : decode bc pc = .ok (.invokespecial index, 3)) (k : ∀ T' v L vm1, Stand p l e R (s.setVm vm1) m args below meth c T' (locs ++ L) (cells + rm.cells) (slots + rm.slots) → s.Since vm1 T'.heap.size → Z.Warmed39 vm1 → vm1.findClass own = some m.cls → h.size ≤ T'.heap.size → CHr Z EL vm0 h vm1 T'.heap → Qc v T'.heap L → own_Go p.tables e below P (T'.setTop (mkF m (pc + 3) Ls (v.toList ++ st)))) : own_Go p.tables e below P (T.setTop (mkF m pc Ls stk)) := by
  subst hstk
  obtain ⟨v, _, ⟨T', L', k', n'⟩, -, X', h2', hg', ⟨L, hQ, hl', hy', hz', hC'⟩, sp⟩ := X.specialBackS hx hy1 hown (mvT (s := s.setVm vm0) hZ w1) (mvT (s := s.setVm vm0) hZ w2) (mvT (s := s.setVm vm0) hZ w4) hy (backOfSH (s := s) (W := W) hM hZ w4 w3 hf hl hEL H) (g := mkF m pc Ls (argsL.reverse ++ (.ref a) :: st)) rfl hsize (Steps.refl _) (a := a) (argsL := argsL) (rest := st) hlen rfl hW (hb hby hd) (fun _ _ => ⟨has, eT, hc, hs⟩)
  dsimp only [Pt.U, Pt.locs, Pt.cells, Pt.slots] at X' h2' hg' hl' hy' hz' hC' sp hQ
  subst hl' hy' hz'
  obtain ⟨r1, r2, r3, r4⟩ := rebS (Z := Z) (own := own) hS hk X' h2' (by rw [← eT]; exact hg') hZ hown
  exact own_go (fun t q => sp.trans q) (k T' v L _ r1 r2 r3 r4 (by rw [← eT]; exact hg') hC' hQ)
end OwnGo
theorem own_safe_null {Z : State} {EL : List (String × Nat)} {vm : Vm} {h : Heap} {x : Addr} (hal : Z.vm.Alike vm) (E : Exa Z h x "java/lang/String") (F : Fld Z h x "java/lang/String" "value" "[B" .null) : Safe Z EL vm h x := fun B => by
  obtain ⟨cell, k, e1, e2, e3, -, -⟩ := E
  have nm : ∀ {n : String} {c : ClassId}, vm.findClass n = some c → c = cell.cls → n = "java/lang/String" := fun {n c} f e => by
    subst e
    rw [hal.findClass] at f
    obtain ⟨k1, q1, q2⟩ := Vm.findClass_spec f
    obtain ⟨k2, q3, q4⟩ := Vm.findClass_spec e2
    cases q1.symm.trans q3
    exact q2.symm.trans q4
  obtain ⟨cl, c', k', i', f', g1, g2, -, -, -, -, g7⟩ := F
  obtain ⟨p, -, u, a, -, q, -, G, rfl | rfl⟩ := B
  · cases (show h[q.sa]? = some q.sC from G.ha).symm.trans g1
    obtain ⟨cS, ⟨⟨-, -, -, ⟨c1, k1, i1, f1, -⟩, -, -, -, v1, -⟩, -⟩, -⟩ := G
    obtain ⟨k3, h3, -⟩ := State.fieldFound?_setVm (s := Z) hal g2
    have e4 := (show (Wst Z vm h).fieldFound? _ _ _ = _ from h3).symm.trans f1
    simp only [Option.some.injEq, Prod.mk.injEq] at e4
    rw [← e4.2.2.2, g7] at v1
    simp at v1
  · cases (show h[q.sd]? = some q.SA from G.hd).symm.trans e1
    obtain ⟨cS, -, -, f, -⟩ := G
    exact absurd (nm f rfl) (by decide)
theorem own_narc (y : Int32) : nar .char ((y &&& (255 : Int32)).toUInt32.toUInt16.toUInt32.toInt32) = (y &&& (255 : Int32)) := by
  rw [i2c_mask]
  exact i2c_mask y
theorem own_c255 (y : Int32) : ¬ (y &&& (255 : Int32)) < 0 ∧ ¬ (255 : Int32) < (y &&& (255 : Int32)) := by
  have h := c_and y (255 : Int32) (by decide)
  have a : (255 : Int32).toInt = 255 := by decide
  have b : (0 : Int32).toInt = 0 := by decide
  rw [Int32.lt_iff_toInt_lt, Int32.lt_iff_toInt_lt, b]
  omega
theorem own_l0 {P : Int32 → Prop} : ∀ c ∈ ([] : List Int32), P c := fun _ h => nomatch h
theorem own_lS {P : Int32 → Prop} {y : Int32} {L : List Int32} (q : P y) (r : ∀ c ∈ L, P c) : ∀ c ∈ y :: L, P c := fun c h => (List.mem_cons.mp h).elim (fun e => e ▸ q) (r c)
theorem own_i2bb (c : Int32) : nar .byte (c.toInt8.toInt32) = (c.toInt8.toInt32) := by
  show c.toInt8.toInt32.toInt8.toInt32 = c.toInt8.toInt32
  rw [Int8.toInt8_toInt32]
theorem own_low8 (c : Int32) (h0 : ¬ (c < (0 : Int32))) (h1 : ¬ ((255 : Int32) < c)) : ((c.toInt8.toInt32) &&& (255 : Int32)) = c := by
  have a : (255 : Int32).toInt = 255 := by decide
  have b : (0 : Int32).toInt = 0 := by decide
  rw [Int32.lt_iff_toInt_lt, b] at h0
  rw [Int32.lt_iff_toInt_lt, a] at h1
  have h2 := c_mask (c.toInt8.toInt32) 255 8 (by decide) (by decide)
  have h3 := c_i2b c
  have h4 : ((2 ^ 8 : Nat) : Int) = 256 := by decide
  rw [h4] at h2
  apply Int32.toInt_inj.mp
  omega
theorem own_nar8 (c : Int32) (h0 : ¬ (c < (0 : Int32))) (h1 : ¬ ((255 : Int32) < c)) : nar .char c = c := by
  have e := own_low8 c h0 h1
  have q := i2c_mask (c.toInt8.toInt32)
  rw [e] at q
  exact q
theorem own_chr8 (c : Int32) (h0 : ¬ (c < (0 : Int32))) (h1 : ¬ ((255 : Int32) < c)) : nar .char ((((c.toInt8.toInt32)) &&& (255 : Int32)).toUInt32.toUInt16.toUInt32.toInt32) = c := by
  rw [i2c_mask, own_low8 c h0 h1]
  exact own_nar8 c h0 h1
theorem ef_canEnc (m : MethodId) (x0 : Int32) : entryFrame m #[(.int x0)] 1 = mkF m 0 #[.val (.int x0)] [] := by first | (simp [entryFrame, mkF, argsToLocals, Value.category]; done) | rfl
theorem pn_6 : plainName "java/lang/StringLatin1" = true := by first | (simp [plainName, overriddenIn]; done) | decide +kernel
theorem d6_0 : decode jdk_43_method_3_code 0 = .ok (.iload_n 0, 1) := by decide +kernel
theorem d6_1 : decode jdk_43_method_3_code 1 = .ok (.sipush 255, 3) := by decide +kernel
theorem d6_4 : decode jdk_43_method_3_code 4 = .ok (.if_icmp .gt 7, 3) := by decide +kernel
theorem d6_7 : decode jdk_43_method_3_code 7 = .ok (.iconst 1, 1) := by decide +kernel
theorem d6_8 : decode jdk_43_method_3_code 8 = .ok (.goto 4, 3) := by decide +kernel
theorem d6_12 : decode jdk_43_method_3_code 12 = .ok (.ireturn, 1) := by decide +kernel
def Q_canEnc (Z : State) (ch : Int32) (h0 : Heap) (n0 : Nat) (vR : Option Value) (hR : Heap) (LR : List Loc) : Prop := vR = some (.int 1) ∧ Fr n0 LR ∧ hR = h0
set_option maxRecDepth 65536 in
set_option maxHeartbeats 40000000 in
theorem canEnc (l : Launch) (Z : State) (a0 : Array Value) (hw : ∀ d ∈ tables_1, d.before a0 Z = true) (ws : List Jvm.Cond) (ch : Int32) (h0 : Heap) (n0 : Nat) (Z0 : n0 ≤ h0.size) (hc : ¬ ((255 : Int32) < ch)) :
    own_M l (⟨"java/lang/StringLatin1", "canEncode", "(C)Z"⟩ : MethodName) jdk_43_method_3_code 1 (some .boolean) ws ({ frames := 0, cells := 0, slots := 0, locals := 0 } : Room) Z #[(.int ch)] h0 (Q_canEnc Z ch h0 n0) := by
  refine own_body (own := "java/lang/StringLatin1") rfl (plainFor_of_name pn_6) (fun m => ef_canEnc m ch) ?_
  intro p e s m below meth c s₁ Bd hml hZ hh hx hby hown X0 e0
  have N0 := Fr.nil n0
  refine own_iloadN X0.here hx hby d6_0 rfl ?_
  refine own_sipush X0.here hx hby d6_1 (v := (255 : Int32)) (by decide) ?_
  refine own_icmpNo X0.here hx hby d6_4 (flt hc).2.2.1 ?_
  refine own_iconst X0.here hx hby d6_7 (v := (1 : Int32)) (by decide) ?_
  refine own_goto X0.here hx hby (pc' := 12) d6_8 (by decide) (by decide) ?_
  obtain ⟨fs, hr, hrun, hended, hW, hsame⟩ := X0.leave (v := some (.int 1)) (fun h => by rw [Bd.returns] at h; cases h)
  refine own_ret (t := s₁.setFrames fs) ?_ ⟨_, hrun, hended, _, _, rfl, ?_, ⟨_, rfl⟩, hW, hsame.mono (by decide) (by decide)⟩
  · exact retN X0 hx (t := .boolean) Bd.returns (by simp) (hb hby d6_12) hr
  · show Q_canEnc Z ch h0 n0 _ s₁.heap _
    rw [e0]
    exact ⟨rfl, N0, rfl⟩
theorem ef_toBy1 (m : MethodId) (x0 : Int32) : entryFrame m #[(.int x0)] 1 = mkF m 0 #[.val (.int x0)] [] := by first | (simp [entryFrame, mkF, argsToLocals, Value.category]; done) | rfl
theorem pn_7 : plainName "java/lang/StringLatin1" = true := by first | (simp [plainName, overriddenIn]; done) | decide +kernel
theorem d7_0 : decode jdk_43_method_46_code 0 = .ok (.iconst 1, 1) := by decide +kernel
theorem d7_1 : decode jdk_43_method_46_code 1 = .ok (.newarray .byte, 2) := by decide +kernel
theorem d7_3 : decode jdk_43_method_46_code 3 = .ok (.dup, 1) := by decide +kernel
theorem d7_4 : decode jdk_43_method_46_code 4 = .ok (.iconst 0, 1) := by decide +kernel
theorem d7_5 : decode jdk_43_method_46_code 5 = .ok (.iload_n 0, 1) := by decide +kernel
theorem d7_6 : decode jdk_43_method_46_code 6 = .ok (.i2b, 1) := by decide +kernel
theorem d7_7 : decode jdk_43_method_46_code 7 = .ok (.bastore, 1) := by decide +kernel
theorem d7_8 : decode jdk_43_method_46_code 8 = .ok (.areturn, 1) := by decide +kernel
def Q_toBy1 (Z : State) (ch : Int32) (h0 : Heap) (n0 : Nat) (vR : Option Value) (hR : Heap) (LR : List Loc) : Prop := ∃ (t : Nat) (kb : ClassId), vR = some (.ref t) ∧ Fr n0 LR ∧ Keep h0 hR [] ∧ h0.size ≤ t ∧ (Arv Z hR t kb .byte (1 : Int32) [(.int (ch.toInt8.toInt32))] (.int 0))
set_option maxRecDepth 65536 in
set_option maxHeartbeats 40000000 in
theorem toBy1 (l : Launch) (Z : State) (a0 : Array Value) (hw : ∀ d ∈ tables_1, d.before a0 Z = true) (ws : List Jvm.Cond) (ch : Int32) (h0 : Heap) (n0 : Nat) (Z0 : n0 ≤ h0.size)  :
    own_M l (⟨"java/lang/StringLatin1", "toBytes", "(C)[B"⟩ : MethodName) jdk_43_method_46_code 1 (some (.array .byte)) ws ({ frames := 0, cells := 1, slots := 1, locals := 0 } : Room) Z #[(.int ch)] h0 (Q_toBy1 Z ch h0 n0) := by
  refine own_body (own := "java/lang/StringLatin1") rfl (plainFor_of_name pn_7) (fun m => ef_toBy1 m ch) ?_
  intro p e s m below meth c s₁ Bd hml hZ hh hx hby hown X0 e0
  have N0 := Fr.nil n0
  refine own_iconst X0.here hx hby d7_0 (v := (1 : Int32)) (by decide) ?_
  refine own_newP X0 hx hZ (aty := .byte) (own_w hw 15 rfl) e0 hby d7_1 (by decide) 1 (by decide) (by decide) (by decide) (by decide) (ad := "[B") (by decide) ?_
  intro T1 h1 k1 b1 X1 e1 E1 g1 V1 C1 lt1
  have z2 : h0.size ≤ h1.size := E1.1
  have V3 : Arv Z h1 b1 k1 .byte (1 : Int32) [(.int 0)] (.int 0) := V1.pad (pad_rep [] (.int 0) 1)
  refine own_dup X1.here hx hby d7_3 rfl ?_
  refine own_iconst X1.here hx hby d7_4 (v := (0 : Int32)) (by decide) ?_
  refine own_iloadN X1.here hx hby d7_5 rfl ?_
  refine own_i2b X1.here hx hby d7_6 rfl ?_
  refine own_bastore X1 hx hZ e1 V3 ⟨by decide, by decide⟩ 0 (by decide) (Nat.le_of_ble_eq_true rfl) (w := (.int (ch.toInt8.toInt32))) (congrArg Value.int (own_i2bb ch)) hby d7_7 N0 (by omega) ?_
  intro T4 h4 lo4 X4 e4 N4 W4 V4 z4
  have V5 : Arv Z h4 b1 k1 .byte (1 : Int32) [(.int (ch.toInt8.toInt32))] (.int 0) := V4
  have K6 : Keep h0 h4 [] := (((Keep.refl h0 []).ext E1).wr W4 (Or.inr (by omega)))
  obtain ⟨fs, hr, hrun, hended, hW, hsame⟩ := X4.leave (v := some (.ref b1)) (fun h => by rw [Bd.returns] at h; cases h)
  refine own_ret (t := T4.setFrames fs) ?_ ⟨_, hrun, hended, _, _, rfl, ?_, ⟨_, rfl⟩, hW, hsame.mono (by decide) (by decide)⟩
  · exact retOut X4 hx Bd.returns rfl (Or.inr (Or.inr (Or.inr (Or.inr ⟨rfl, rfl, rfl⟩)))) (hb hby d7_8) hr
  · show Q_toBy1 Z ch h0 n0 _ T4.heap _
    rw [e4]
    exact ⟨b1, k1, rfl, N4, K6, (by omega), V5⟩
theorem ef_bbInit (m : MethodId) (x0 : Nat) (x1 : Nat) (x2 : Int32) : entryFrame m #[(.ref x0), (.ref x1), (.int x2)] 3 = mkF m 0 #[.val (.ref x0), .val (.ref x1), .val (.int x2)] [] := by first | (simp [entryFrame, mkF, argsToLocals, Value.category]; done) | rfl
theorem pn_8 : plainName "java/lang/String" = true := by first | (simp [plainName, overriddenIn]; done) | decide +kernel
theorem d8_0 : decode jdk_42_method_151_code 0 = .ok (.aload_n 0, 1) := by decide +kernel
theorem d8_1 : decode jdk_42_method_151_code 1 = .ok (.invokespecial 1, 3) := by decide +kernel
theorem d8_4 : decode jdk_42_method_151_code 4 = .ok (.aload_n 0, 1) := by decide +kernel
theorem d8_5 : decode jdk_42_method_151_code 5 = .ok (.aload_n 1, 1) := by decide +kernel
theorem d8_6 : decode jdk_42_method_151_code 6 = .ok (.putfield 9, 3) := by decide +kernel
theorem d8_9 : decode jdk_42_method_151_code 9 = .ok (.aload_n 0, 1) := by decide +kernel
theorem d8_10 : decode jdk_42_method_151_code 10 = .ok (.iload_n 2, 1) := by decide +kernel
theorem d8_11 : decode jdk_42_method_151_code 11 = .ok (.putfield 15, 3) := by decide +kernel
theorem d8_14 : decode jdk_42_method_151_code 14 = .ok (.return_, 1) := by decide +kernel
def Q_bbInit (Z : State) (x : Nat) (t : Nat) (h0 : Heap) (n0 : Nat) (vR : Option Value) (hR : Heap) (LR : List Loc) : Prop := vR = none ∧ Fr n0 LR ∧ Keep h0 hR [x] ∧ (Exa Z hR x "java/lang/String") ∧ (Fld Z hR x "java/lang/String" "value" "[B" (.ref t)) ∧ (Fld Z hR x "java/lang/String" "coder" "B" (.int 0))
set_option maxRecDepth 65536 in
set_option maxHeartbeats 40000000 in
theorem bbInit (l : Launch) (Z : State) (a0 : Array Value) (hw : ∀ d ∈ tables_1, d.before a0 Z = true) (ws : List Jvm.Cond) (x : Nat) (t : Nat) (h0 : Heap) (n0 : Nat) (Z0 : n0 ≤ h0.size) (E_x : Exa Z h0 x "java/lang/String") (F_value_x : Fld Z h0 x "java/lang/String" "value" "[B" .null) (F_coder_x : Fld Z h0 x "java/lang/String" "coder" "B" (.int 0)) (g_x : n0 ≤ x) :
    own_M l (⟨"java/lang/String", "<init>", "([BB)V"⟩ : MethodName) jdk_42_method_151_code 3 none ws ({ frames := 1, cells := 0, slots := 0, locals := 12 } : Room) Z #[(.ref x), (.ref t), (.int 0)] h0 (Q_bbInit Z x t h0 n0) := by
  refine own_body (own := "java/lang/String") rfl (plainFor_of_name pn_8) (fun m => ef_bbInit m x t (0 : Int32)) ?_
  intro p e s m below meth c s₁ Bd hml hZ hh hx hby hown X0 e0
  have N0 := Fr.nil n0
  have lt1 : h0.size > x := E_x.lt
  refine own_aloadN X0.here hx hby d8_0 rfl rfl ?_
  refine own_initO X0 hx hZ hown (own_w hw 11 rfl) (own_w hw 12 rfl) (own_w hw 13 rfl) e0 (by rw [hml]; rfl) hby d8_1 (by decide) 0 (Nat.le_of_eq rfl) (by decide) ?_
  intro T2 X2 e2
  refine own_aloadN X2.here hx hby d8_4 rfl rfl ?_
  refine own_aloadN X2.here hx hby d8_5 rfl rfl ?_
  refine own_putF X2 hx hZ (ty := (.array .byte)) hown (host := "") (Or.inl (own_w hw 20 rfl)) Via.refl e2 F_value_x E_x (Or.inr ⟨(own_w hw 16 rfl), rfl, (name_of_methodNamed Bd.named Bd.method).1⟩) (own_w hw 1 rfl) (by decide) rfl rfl hby d8_6 N0 g_x ?_
  intro T3 h3 lo3 X3 e3 N3 W3 F3 z3
  refine own_aloadN X3.here hx hby d8_9 rfl rfl ?_
  refine own_iloadN X3.here hx hby d8_10 rfl ?_
  have f4 : Exa Z h3 x "java/lang/String" := (E_x.wr W3)
  have f5 : Fld Z h3 x "java/lang/String" "coder" "B" (.int 0) := (F_coder_x.other W3 (Or.inr (slot_ne (Or.inr (own_w hw 17 rfl)) (Or.inr (own_w hw 16 rfl)) (by decide) (t := .byte) (t' := (.array .byte)) (by decide) (by decide))))
  refine own_putFN X3 hx hZ (ty := .byte) (v' := (.int 0)) hown (own_w hw 21 rfl) Via.refl e3 f5 f4 (Or.inr ⟨(own_w hw 17 rfl), rfl, (name_of_methodNamed Bd.named Bd.method).1⟩) (own_w hw 1 rfl) (by decide) rfl rfl hby d8_11 N3 g_x ?_
  intro T6 h6 lo6 X6 e6 N6 W6 F6 z6
  have K7 : Keep h0 h6 [x] := (((Keep.refl h0 [x]).wr W3 (Or.inl (List.mem_of_getElem? (i := 0) rfl))).wr W6 (Or.inl (List.mem_of_getElem? (i := 0) rfl)))
  have f8 : Exa Z h6 x "java/lang/String" := (f4.wr W6)
  have f9 : Fld Z h6 x "java/lang/String" "value" "[B" (.ref t) := (F3.other W6 (Or.inr (slot_ne (Or.inr (own_w hw 16 rfl)) (Or.inr (own_w hw 17 rfl)) (by decide) (t := (.array .byte)) (t' := .byte) (by decide) (by decide))))
  obtain ⟨fs, hr, hrun, hended, hW, hsame⟩ := X6.leave (v := none) (fun _ => rfl)
  refine own_ret (t := T6.setFrames fs) ?_ ⟨_, hrun, hended, _, _, rfl, ?_, ⟨_, rfl⟩, hW, hsame.mono (by decide) (by decide)⟩
  · exact X6.returnOut hx Bd.returns (hb hby d8_14) hr
  · show Q_bbInit Z x t h0 n0 _ T6.heap _
    rw [e6]
    exact ⟨rfl, N6, K7, f8, f9, F6⟩
theorem ef_valOf (m : MethodId) (x0 : Int32) : entryFrame m #[(.int x0)] 1 = mkF m 0 #[.val (.int x0)] [] := by first | (simp [entryFrame, mkF, argsToLocals, Value.category]; done) | rfl
theorem pn_5 : plainName "java/lang/String" = true := by first | (simp [plainName, overriddenIn]; done) | decide +kernel
theorem d5_0 : decode jdk_42_method_139_code 0 = .ok (.getstatic 38, 3) := by decide +kernel
theorem d5_3 : decode jdk_42_method_139_code 3 = .ok (.ifCond .eq 23, 3) := by decide +kernel
theorem d5_6 : decode jdk_42_method_139_code 6 = .ok (.iload_n 0, 1) := by decide +kernel
theorem d5_7 : decode jdk_42_method_139_code 7 = .ok (.invokestatic 1015, 3) := by decide +kernel
theorem pd_0 : parseMethodDescriptor "(C)Z" = some ⟨[.char], some .boolean⟩ := by decide +kernel
theorem d5_10 : decode jdk_42_method_139_code 10 = .ok (.ifCond .eq 16, 3) := by decide +kernel
theorem d5_13 : decode jdk_42_method_139_code 13 = .ok (.new 10, 3) := by decide +kernel
theorem d5_16 : decode jdk_42_method_139_code 16 = .ok (.dup, 1) := by decide +kernel
theorem d5_17 : decode jdk_42_method_139_code 17 = .ok (.iload_n 0, 1) := by decide +kernel
theorem d5_18 : decode jdk_42_method_139_code 18 = .ok (.invokestatic 1018, 3) := by decide +kernel
theorem pd_1 : parseMethodDescriptor "(C)[B" = some ⟨[.char], some (.array .byte)⟩ := by decide +kernel
theorem d5_21 : decode jdk_42_method_139_code 21 = .ok (.iconst 0, 1) := by decide +kernel
theorem d5_22 : decode jdk_42_method_139_code 22 = .ok (.invokespecial 209, 3) := by decide +kernel
theorem pd_2 : parseMethodDescriptor "([BB)V" = some ⟨[(.array .byte), .byte], none⟩ := by decide +kernel
theorem d5_25 : decode jdk_42_method_139_code 25 = .ok (.areturn, 1) := by decide +kernel
def Q_valOf (Z : State) (ch : Int32) (zc : Int32) (h0 : Heap) (n0 : Nat) (vR : Option Value) (hR : Heap) (LR : List Loc) : Prop := ∃ (x : Nat) (t : Nat) (kb : ClassId), vR = some (.ref x) ∧ Fr n0 LR ∧ Keep h0 hR [] ∧ h0.size ≤ x ∧ h0.size ≤ t ∧ (x < t) ∧ (Exa Z hR x "java/lang/String") ∧ (Fld Z hR x "java/lang/String" "coder" "B" (.int 0)) ∧ (Fld Z hR x "java/lang/String" "value" "[B" (.ref t)) ∧ (Arv Z hR t kb .byte (1 : Int32) [(.int (ch.toInt8.toInt32))] (.int 0))
set_option maxRecDepth 65536 in
set_option maxHeartbeats 40000000 in
theorem valOf (l : Launch) (Z : State) (a0 : Array Value) (hw : ∀ d ∈ tables_1, d.before a0 Z = true) (ws : List Jvm.Cond) (ch : Int32) (zc : Int32) (h0 : Heap) (n0 : Nat) (Z0 : n0 ≤ h0.size) (S_COMPACT : Sta Z h0 "java/lang/String" "COMPACT_STRINGS" "Z" (.int zc)) (hz : ¬ (zc = (0 : Int32))) (hc : ¬ ((255 : Int32) < ch)) :
    own_M l (⟨"java/lang/String", "valueOf", "(C)Ljava/lang/String;"⟩ : MethodName) jdk_42_method_139_code 1 (some (.object "java/lang/String")) ws ({ frames := 2, cells := 2, slots := 5, locals := 27 } : Room) Z #[(.int ch)] h0 (Q_valOf Z ch zc h0 n0) := by
  refine own_body (own := "java/lang/String") rfl (plainFor_of_name pn_5) (fun m => ef_valOf m ch) ?_
  intro p e s m below meth c s₁ Bd hml hZ hh hx hby hown X0 e0
  have N0 := Fr.nil n0
  refine own_getS X0 hx hZ hown (host := "") (Or.inl (own_w hw 29 rfl)) Via.refl e0 S_COMPACT hby d5_0 ?_
  intro T1 X1 e1
  refine own_ifNo X1.here hx hby d5_3 ((if0 _ _).trans (feq hz).1) ?_
  refine own_iloadN X1.here hx hby d5_6 rfl ?_
  refine own_callS X1 hx hZ hown (own_w hw 30 rfl) (own_w hw 31 rfl) (own_w hw 32 rfl) (own_w hw 33 rfl) (by decide) (canEnc l Z a0 hw [] ch h0 n0 Z0 hc) 0 (Nat.le_of_eq rfl) (by decide) (by decide) (by rw [hml]; rfl) (argsL := [(.int ch)]) (st := []) (lenOf pd_0 rfl) rfl rfl (by decide) (by decide) e1 hby d5_7 ?_
  intro T2 v2 L2 X2 hQ2
  obtain ⟨rfl, Nq2, eh2⟩ := hQ2
  have N2 := Fr.app N0 Nq2
  refine own_sh (T := T2) 10 #[.val (.int ch)] [(.int 1)] ?_
  refine own_ifNo X2.here hx hby d5_10 ((if0 _ _).trans (feq (show ¬ ((1 : Int32) = (0 : Int32)) from (by decide))).1) ?_
  refine own_newO X2 hx hZ hown (own_w hw 34 rfl) (own_w hw 1 rfl) (own_w hw 2 rfl) eh2 hby d5_13 (by decide) (by decide) ?_
  intro T3 h3 b3 X3 e3 E3 g3 A3 D3 lt3
  have z4 : h0.size ≤ h3.size := E3.1
  have F5 : Fld Z h3 b3 "java/lang/String" "value" "[B" .null := D3 (Or.inr (own_w hw 16 rfl)) (ty := (.array .byte)) (by decide)
  have F6 : Fld Z h3 b3 "java/lang/String" "coder" "B" (.int 0) := D3 (Or.inr (own_w hw 17 rfl)) (ty := .byte) (by decide)
  refine own_dup X3.here hx hby d5_16 rfl ?_
  refine own_iloadN X3.here hx hby d5_17 rfl ?_
  have z8 : n0 ≤ h3.size := by omega
  refine own_callS X3 hx hZ hown (own_w hw 35 rfl) (own_w hw 36 rfl) (own_w hw 32 rfl) (own_w hw 37 rfl) (by decide) (toBy1 l Z a0 hw [] ch h3 n0 z8 ) 2 (Nat.le_of_eq rfl) (by decide) (by decide) (by rw [hml]; rfl) (argsL := [(.int ch)]) (st := [(.ref b3), (.ref b3)]) (lenOf pd_1 rfl) rfl rfl (by decide) (by decide) e3 hby d5_18 ?_
  intro T7 v7 L7 X7 hQ7
  obtain ⟨t_7, kb_7, rfl, Nq7, K7, P7_0, P7_1⟩ := hQ7
  have N7 := Fr.app N2 Nq7
  have z9 : h3.size ≤ T7.heap.size := K7.1
  have lt10 : T7.heap.size > t_7 := P7_1.lt
  refine own_sh (T := T7) 21 #[.val (.int ch)] [(.ref t_7), (.ref b3), (.ref b3)] ?_
  refine own_iconst X7.here hx hby d5_21 (v := (0 : Int32)) (by decide) ?_
  have f11 : Exa Z T7.heap b3 "java/lang/String" := (A3.keep K7)
  have f12 : Fld Z T7.heap b3 "java/lang/String" "value" "[B" .null := (F5.keep K7 nin0)
  have f13 : Fld Z T7.heap b3 "java/lang/String" "coder" "B" (.int 0) := (F6.keep K7 nin0)
  have z15 : n0 ≤ T7.heap.size := by omega
  refine own_special X7 hx hZ rfl hown (own_w hw 38 rfl) (own_w hw 39 rfl) (own_w hw 2 rfl) (own_w hw 40 rfl) (by decide) (bbInit l Z a0 hw [] b3 t_7 T7.heap n0 z15 f11 f12 f13 (by omega)) 1 (Nat.le_of_eq rfl) (by decide) (by decide) (by rw [hml]; rfl) (argsL := [(.ref t_7), (.int 0)]) (st := [(.ref b3)]) (a := b3) (lenOf pd_2 rfl) rfl rfl (by decide) (by decide) rfl hby d5_22 ?_
  intro T14 v14 L14 X14 hQ14
  obtain ⟨rfl, Nq14, K14, P14_0, P14_1, P14_2⟩ := hQ14
  have N14 := Fr.app N7 Nq14
  have z16 : T7.heap.size ≤ T14.heap.size := K14.1
  have lt17 : T14.heap.size > b3 := P14_0.lt
  refine own_sh (T := T14) 25 #[.val (.int ch)] [(.ref b3)] ?_
  have K18 : Keep h0 T14.heap [] := ((((Keep.refl h0 []).ext E3).trans K7 all0).trans K14 (allS (P := fun xq_ => xq_ ∈ [] ∨ h0.size ≤ xq_) (Or.inr (by omega)) all0))
  have f19 : Arv Z T14.heap t_7 kb_7 .byte (1 : Int32) [(.int (ch.toInt8.toInt32))] (.int 0) := (P7_1.keep K14 (ninS (own_nn (by omega)) nin0))
  obtain ⟨fs, hr, hrun, hended, hW, hsame⟩ := X14.leave (v := some (.ref b3)) (fun h => by rw [Bd.returns] at h; cases h)
  refine own_ret (t := T14.setFrames fs) ?_ ⟨_, hrun, hended, _, _, rfl, ?_, ⟨_, rfl⟩, hW, hsame.mono (by decide) (by decide)⟩
  · exact retOut X14 hx Bd.returns rfl (Or.inr (Or.inr (Or.inr (Or.inr ⟨rfl, rfl, rfl⟩)))) (hb hby d5_25) hr
  · show Q_valOf Z ch zc h0 n0 _ T14.heap _
    exact ⟨b3, t_7, kb_7, rfl, N14, K18, (by omega), (by omega), (by first | decide | omega | assumption), P14_0, P14_2, P14_1, f19⟩
theorem ef_strE4 (m : MethodId) (x0 : Nat) (x1 : Nat) (x2 : Int32) (x3 : Int32) : entryFrame m #[(.ref x0), (.ref x1), (.int x2), (.int x3), .null] 6 = mkF m 0 #[.val (.ref x0), .val (.ref x1), .val (.int x2), .val (.int x3), .val .null, .unset] [] := by first | (simp [entryFrame, mkF, argsToLocals, Value.category]; done) | rfl
theorem pn_2 : plainName "java/lang/String" = true := by first | (simp [plainName, overriddenIn]; done) | decide +kernel
theorem own_EW {Z : State} {a0 : Array Value} (hw : ∀ d ∈ tables_1, d.before a0 Z = true) : EW Z a0 consts_1 := (EW.cons (own_w hw 14 rfl) (by decide) EW.nil)
theorem d2_0 : decode jdk_42_method_149_code 0 = .ok (.aload_n 0, 1) := by decide +kernel
theorem d2_1 : decode jdk_42_method_149_code 1 = .ok (.invokespecial 1, 3) := by decide +kernel
theorem d2_4 : decode jdk_42_method_149_code 4 = .ok (.iload_n 3, 1) := by decide +kernel
theorem d2_5 : decode jdk_42_method_149_code 5 = .ok (.ifCond .ne 22, 3) := by decide +kernel
theorem d2_8 : decode jdk_42_method_149_code 8 = .ok (.aload_n 0, 1) := by decide +kernel
theorem d2_9 : decode jdk_42_method_149_code 9 = .ok (.ldc 7, 2) := by decide +kernel
theorem own_wS {Z : State} {a0 : Array Value} (hw : ∀ d ∈ tables_1, d.before a0 Z = true) : ∀ a ∈ Bundle.stringAtoms, a.before a0 Z = true := by
  intro a ha
  simp only [Bundle.stringAtoms, Bundle.sN, List.mem_cons, List.not_mem_nil, or_false] at ha
  rcases ha with rfl | rfl | rfl | rfl | rfl | rfl | rfl
  · exact own_w hw 2 rfl
  · exact own_w hw 1 rfl
  · exact own_w hw 15 rfl
  · exact own_w hw 16 rfl
  · exact own_w hw 17 rfl
  · exact own_w hw 18 rfl
  · exact own_w hw 19 rfl
theorem d2_11 : decode jdk_42_method_149_code 11 = .ok (.getfield 9, 3) := by decide +kernel
theorem d2_14 : decode jdk_42_method_149_code 14 = .ok (.putfield 9, 3) := by decide +kernel
theorem d2_17 : decode jdk_42_method_149_code 17 = .ok (.aload_n 0, 1) := by decide +kernel
theorem d2_18 : decode jdk_42_method_149_code 18 = .ok (.ldc 7, 2) := by decide +kernel
theorem d2_20 : decode jdk_42_method_149_code 20 = .ok (.getfield 15, 3) := by decide +kernel
theorem d2_23 : decode jdk_42_method_149_code 23 = .ok (.putfield 15, 3) := by decide +kernel
theorem d2_26 : decode jdk_42_method_149_code 26 = .ok (.return_, 1) := by decide +kernel
def Q_strE4 (Z : State) (x : Nat) (b : Nat) (h0 : Heap) (n0 : Nat) (vR : Option Value) (hR : Heap) (LR : List Loc) : Prop := ∃ (t : Nat) (kb : ClassId), vR = none ∧ Fr n0 LR ∧ Keep h0 hR [x] ∧ (Exa Z hR x "java/lang/String") ∧ (Fld Z hR x "java/lang/String" "coder" "B" (.int 0)) ∧ (Fld Z hR x "java/lang/String" "value" "[B" (.ref t)) ∧ (Arv Z hR t kb .byte (0 : Int32) [] (.int 0))
set_option maxRecDepth 65536 in
set_option maxHeartbeats 40000000 in
theorem strE4 (l : Launch) (Z : State) (a0 : Array Value) (hw : ∀ d ∈ tables_1, d.before a0 Z = true) (ws : List Jvm.Cond) (x : Nat) (b : Nat) (h0 : Heap) (n0 : Nat) (Z0 : n0 ≤ h0.size) (E_x : Exa Z h0 x "java/lang/String") (F_value_x : Fld Z h0 x "java/lang/String" "value" "[B" .null) (F_coder_x : Fld Z h0 x "java/lang/String" "coder" "B" (.int 0)) (g_x : n0 ≤ x) :
    own_MH l (⟨"java/lang/String", "<init>", "([CIILjava/lang/Void;)V"⟩ : MethodName) jdk_42_method_149_code 6 none ws ({ frames := 1, cells := 4, slots := 8, locals := 12 } : Room) Z #[(.ref x), (.ref b), (.int 0), (.int 0), .null] h0 (Q_strE4 Z x b h0 n0) consts_1 := by
  refine own_bodyH (own := "java/lang/String") rfl (plainFor_of_name pn_2) (fun m => ef_strE4 m x b (0 : Int32) (0 : Int32)) ?_
  intro p e s m below meth c s₁ Bd hml hZ hh hx hby hown X0 e0 hS0 CH0
  have N0 := Fr.nil n0
  have hk0 : h0.size ≤ h0.size := Nat.le_refl _
  have Y0 : Stand p l e ({ frames := 1, cells := 4, slots := 8, locals := 12 } : Room) (s.setVm s.vm) m #[(.ref x), (.ref b), (.int 0), (.int 0), .null] below meth c s₁ [] 0 0 := X0
  have hEL := own_EW hw
  have C0 := CHr.refl CH0
  have lt1 : h0.size > x := E_x.lt
  refine own_aloadN Y0.here hx hby d2_0 rfl rfl ?_
  refine own_initO Y0 hx hZ hown (own_w hw 11 rfl) (own_w hw 12 rfl) (own_w hw 13 rfl) e0 (by rw [hml]; rfl) hby d2_1 (by decide) 0 (Nat.le_of_eq rfl) (by decide) ?_
  intro T2 X2 e2
  refine own_iloadN X2.here hx hby d2_4 rfl ?_
  refine own_ifNo X2.here hx hby d2_5 ((if0 _ _).trans (teq (show (0 : Int32) = (0 : Int32) from (by decide))).2) ?_
  refine own_aloadN X2.here hx hby d2_8 rfl rfl ?_
  have own_wS0 : ∀ a ∈ Bundle.stringAtoms, a.before a0 Z = true := own_wS hw
  refine own_ldcCH X2 hx hZ hEL hown (own_w hw 14 rfl) own_wS0 e2 hS0 (by omega) C0.1 (List.mem_of_getElem? (i := 0) rfl) (vs := []) (z := (0 : Int32)) ⟨by decide, by decide⟩ (by decide) (by decide) hby d2_9 0 (by decide) (by decide) (by decide) (by decide) ?_
  intro a3 T3 h3 kk3 vm3 b3 kb3 X3 e3 E3 hS3 hk3 hZ3 hown3 Ea3 Fc3 Fv3 Va3 la3 lb3 Cn3 ns3
  have z4 : h0.size ≤ h3.size := E3.1
  have C5 := C0.trans Cn3
  have f6 : Exa Z h3 x "java/lang/String" := (E_x.ext E3)
  have f7 : Fld Z h3 x "java/lang/String" "value" "[B" .null := (F_value_x.ext E3)
  have nl3_x := ns3 x (own_safe_null hZ3.alike f6 f7)
  refine own_getF X3 hx hZ3 hown3 (host := "") (Or.inl (own_w hw 20 rfl)) Via.refl e3 Fv3 hby d2_11 ?_
  intro T8 X8 e8
  refine own_putF X8 hx hZ3 (ty := (.array .byte)) hown3 (host := "") (Or.inl (own_w hw 20 rfl)) Via.refl e8 f7 f6 (Or.inr ⟨(own_w hw 16 rfl), rfl, (name_of_methodNamed Bd.named Bd.method).1⟩) (own_w hw 1 rfl) (by decide) rfl rfl hby d2_14 N0 g_x ?_
  intro T9 h9 lo9 X9 e9 N9 W9 F9 z9
  have C10 := C5.trans (CHr.wr W9 (own_safe_null hZ3.alike f6 f7) C5.1)
  refine own_aloadN X9.here hx hby d2_17 rfl rfl ?_
  refine own_ldcCH X9 hx hZ3 hEL hown3 (own_w hw 14 rfl) own_wS0 e9 hS3 (by omega) C10.1 (List.mem_of_getElem? (i := 0) rfl) (vs := []) (z := (0 : Int32)) ⟨by decide, by decide⟩ (by decide) (by decide) hby d2_18 0 (by decide) (by decide) (by decide) (by decide) ?_
  intro a11 T11 h11 kk11 vm11 b11 kb11 X11 e11 E11 hS11 hk11 hZ11 hown11 Ea11 Fc11 Fv11 Va11 la11 lb11 Cn11 ns11
  have z12 : h9.size ≤ h11.size := E11.1
  have C13 := C10.trans Cn11
  have sf14 := (Cn11.safe (own_ll (by omega)) (Safe.wr W9 (own_safe_null hZ3.alike f6 f7) C5.1 (own_safe_null hZ3.alike f6 f7)))
  have nl11_x := ns11 x sf14
  refine own_getF X11 hx hZ11 hown11 (host := "") (Or.inl (own_w hw 21 rfl)) Via.refl e11 Fc11 hby d2_20 ?_
  intro T15 X15 e15
  have f16 : Exa Z h11 x "java/lang/String" := ((f6.wr W9).ext E11)
  have f17 : Fld Z h11 x "java/lang/String" "coder" "B" (.int 0) := (((F_coder_x.ext E3).other W9 (Or.inr (slot_ne (Or.inr (own_w hw 17 rfl)) (Or.inr (own_w hw 16 rfl)) (by decide) (t := .byte) (t' := (.array .byte)) (by decide) (by decide)))).ext E11)
  refine own_putFN X15 hx hZ11 (ty := .byte) (v' := (.int 0)) hown11 (own_w hw 21 rfl) Via.refl e15 f17 f16 (Or.inr ⟨(own_w hw 17 rfl), rfl, (name_of_methodNamed Bd.named Bd.method).1⟩) (own_w hw 1 rfl) (by decide) rfl rfl hby d2_23 N9 g_x ?_
  intro T18 h18 lo18 X18 e18 N18 W18 F18 z18
  have C19 := C13.trans (CHr.wr W18 sf14 C13.1)
  have K20 : Keep h0 h18 [x] := (((((Keep.refl h0 [x]).ext E3).wr W9 (Or.inl (List.mem_of_getElem? (i := 0) rfl))).ext E11).wr W18 (Or.inl (List.mem_of_getElem? (i := 0) rfl)))
  have f21 : Exa Z h18 x "java/lang/String" := (f16.wr W18)
  have f22 : Fld Z h18 x "java/lang/String" "value" "[B" (.ref b3) := ((F9.ext E11).other W18 (Or.inr (slot_ne (Or.inr (own_w hw 16 rfl)) (Or.inr (own_w hw 17 rfl)) (by decide) (t := (.array .byte)) (t' := .byte) (by decide) (by decide))))
  have f23 : Arv Z h18 b3 kb3 .byte (0 : Int32) [] (.int 0) := (((Va3.other W9 (Ne.symm nl3_x.2)).ext E11).other W18 (Ne.symm nl3_x.2))
  obtain ⟨fs, hr, hrun, hended, hRW⟩ := X18.leaveW hS11 (by rw [e18]; omega) (v := none) (fun _ => rfl)
  have hCf : CHr Z consts_1 s.vm s.heap T18.vm T18.heap := by
    rw [hh, e18]
    exact C19.trans (CHv.at X18 hZ11 hEL C19.1)
  refine own_ret (t := T18.setFrames fs) ?_ ⟨_, hrun, hended, _, _, rfl, ?_, hCf, hRW.1, hRW.2.1, hRW.2.2.1, hRW.2.2.2.mono (by decide) (by decide)⟩
  · exact X18.returnOut hx Bd.returns (hb hby d2_26) hr
  · show Q_strE4 Z x b h0 n0 _ T18.heap _
    rw [e18]
    exact ⟨b3, kb3, rfl, N18, K20, f21, F18, f22, f23⟩
theorem ef_strE1 (m : MethodId) (x0 : Nat) (x1 : Nat) : entryFrame m #[(.ref x0), (.ref x1)] 2 = mkF m 0 #[.val (.ref x0), .val (.ref x1)] [] := by first | (simp [entryFrame, mkF, argsToLocals, Value.category]; done) | rfl
theorem pn_1 : plainName "java/lang/String" = true := by first | (simp [plainName, overriddenIn]; done) | decide +kernel
theorem d1_0 : decode jdk_42_method_3_code 0 = .ok (.aload_n 0, 1) := by decide +kernel
theorem d1_1 : decode jdk_42_method_3_code 1 = .ok (.aload_n 1, 1) := by decide +kernel
theorem d1_2 : decode jdk_42_method_3_code 2 = .ok (.iconst 0, 1) := by decide +kernel
theorem d1_3 : decode jdk_42_method_3_code 3 = .ok (.aload_n 1, 1) := by decide +kernel
theorem d1_4 : decode jdk_42_method_3_code 4 = .ok (.arraylength, 1) := by decide +kernel
theorem d1_5 : decode jdk_42_method_3_code 5 = .ok (.aconst_null, 1) := by decide +kernel
theorem d1_6 : decode jdk_42_method_3_code 6 = .ok (.invokespecial 27, 3) := by decide +kernel
theorem pd_3 : parseMethodDescriptor "([CIILjava/lang/Void;)V" = some ⟨[(.array .char), .int, .int, (.object "java/lang/Void")], none⟩ := by decide +kernel
theorem d1_9 : decode jdk_42_method_3_code 9 = .ok (.return_, 1) := by decide +kernel
def Q_strE1 (Z : State) (x : Nat) (b : Nat) (kC : ClassId) (h0 : Heap) (n0 : Nat) (vR : Option Value) (hR : Heap) (LR : List Loc) : Prop := ∃ (t : Nat) (kb : ClassId), vR = none ∧ Fr n0 LR ∧ Keep h0 hR [x] ∧ (Exa Z hR x "java/lang/String") ∧ (Fld Z hR x "java/lang/String" "coder" "B" (.int 0)) ∧ (Fld Z hR x "java/lang/String" "value" "[B" (.ref t)) ∧ (Arv Z hR t kb .byte (0 : Int32) [] (.int 0))
set_option maxRecDepth 65536 in
set_option maxHeartbeats 40000000 in
theorem strE1 (l : Launch) (Z : State) (a0 : Array Value) (hw : ∀ d ∈ tables_1, d.before a0 Z = true) (ws : List Jvm.Cond) (x : Nat) (b : Nat) (kC : ClassId) (h0 : Heap) (n0 : Nat) (Z0 : n0 ≤ h0.size) (E_x : Exa Z h0 x "java/lang/String") (F_value_x : Fld Z h0 x "java/lang/String" "value" "[B" .null) (F_coder_x : Fld Z h0 x "java/lang/String" "coder" "B" (.int 0)) (g_x : n0 ≤ x) (V_b : Arv Z h0 b kC .char (0 : Int32) [] (.int 0)) :
    own_MH l (⟨"java/lang/String", "<init>", "([C)V"⟩ : MethodName) jdk_42_method_3_code 2 none ws ({ frames := 2, cells := 4, slots := 8, locals := 29 } : Room) Z #[(.ref x), (.ref b)] h0 (Q_strE1 Z x b kC h0 n0) consts_1 := by
  refine own_bodyH (own := "java/lang/String") rfl (plainFor_of_name pn_1) (fun m => ef_strE1 m x b) ?_
  intro p e s m below meth c s₁ Bd hml hZ hh hx hby hown X0 e0 hS0 CH0
  have N0 := Fr.nil n0
  have hk0 : h0.size ≤ h0.size := Nat.le_refl _
  have Y0 : Stand p l e ({ frames := 2, cells := 4, slots := 8, locals := 29 } : Room) (s.setVm s.vm) m #[(.ref x), (.ref b)] below meth c s₁ [] 0 0 := X0
  have hEL := own_EW hw
  have C0 := CHr.refl CH0
  have lt1 : h0.size > x := E_x.lt
  have lt2 : h0.size > b := V_b.lt
  refine own_aloadN Y0.here hx hby d1_0 rfl rfl ?_
  refine own_aloadN Y0.here hx hby d1_1 rfl rfl ?_
  refine own_iconst Y0.here hx hby d1_2 (v := (0 : Int32)) (by decide) ?_
  refine own_aloadN Y0.here hx hby d1_3 rfl rfl ?_
  refine own_alen Y0 hx hZ e0 V_b hby d1_4 ?_
  refine own_aconstNull Y0.here hx hby d1_5 ?_
  refine own_specialH Y0 hx hZ hEL rfl hown (own_w hw 7 rfl) (own_w hw 8 rfl) (own_w hw 2 rfl) (own_w hw 10 rfl) (by decide) (strE4 l Z a0 hw [] x b h0 n0 Z0 E_x F_value_x F_coder_x g_x) 0 (Nat.le_of_eq rfl) (by decide) (by decide) (by rw [hml]; rfl) (argsL := [(.ref b), (.int 0), (.int 0), .null]) (st := []) (a := x) (lenOf pd_3 rfl) rfl rfl (by decide) (by decide) e0 hby C0.1 hS0 (by omega) d1_6 ?_
  intro T3 v3 L3 vm3 X3 hS3 hZ3 hown3 hg3 Cn3 hQ3
  obtain ⟨t_3, kb_3, rfl, Nq3, K3, P3_0, P3_1, P3_2, P3_3⟩ := hQ3
  have N3 := Fr.app N0 Nq3
  have z4 : h0.size ≤ T3.heap.size := K3.1
  have C5 := C0.trans Cn3
  have lt6 : T3.heap.size > x := P3_0.lt
  have lt7 : T3.heap.size > t_3 := P3_3.lt
  refine own_sh (T := T3) 9 #[.val (.ref x), .val (.ref b)] [] ?_
  have K8 : Keep h0 T3.heap [x] := ((Keep.refl h0 [x]).trans K3 (allS (P := fun xq_ => xq_ ∈ [x] ∨ h0.size ≤ xq_) (Or.inl (List.mem_of_getElem? (i := 0) rfl)) all0))
  obtain ⟨fs, hr, hrun, hended, hRW⟩ := X3.leaveW hS3 (by omega) (v := none) (fun _ => rfl)
  have hCf : CHr Z consts_1 s.vm s.heap T3.vm T3.heap := by
    rw [hh]
    exact C5.trans (CHv.at X3 hZ3 hEL C5.1)
  refine own_ret (t := T3.setFrames fs) ?_ ⟨_, hrun, hended, _, _, rfl, ?_, hCf, hRW.1, hRW.2.1, hRW.2.2.1, hRW.2.2.2.mono (by decide) (by decide)⟩
  · exact X3.returnOut hx Bd.returns (hb hby d1_9) hr
  · show Q_strE1 Z x b kC h0 n0 _ T3.heap _
    exact ⟨t_3, kb_3, rfl, N3, K8, P3_0, P3_1, P3_2, P3_3⟩
theorem ef_ref_n0 (m : MethodId) (x1 : Int32) : entryFrame m #[.null, (.int x1)] 2 = mkF m 0 #[.val .null, .val (.int x1)] [] := by first | (simp [entryFrame, mkF, argsToLocals, Value.category]; done) | rfl
theorem pn_4 : plainName "com/example/voucher_engine/voucherengine/model/CodeStanding" = true := by first | (simp [plainName, overriddenIn]; done) | decide +kernel
theorem d4_0 : decode prog_5_method_2_code 0 = .ok (.iload_n 1, 1) := by decide +kernel
theorem d4_1 : decode prog_5_method_2_code 1 = .ok (.ifCond .eq 17, 3) := by decide +kernel
theorem d4_18 : decode prog_5_method_2_code 18 = .ok (.return_, 1) := by decide +kernel
def Q_ref_n0 (Z : State)  (h0 : Heap) (n0 : Nat) (vR : Option Value) (hR : Heap) (LR : List Loc) : Prop := vR = none ∧ Fr n0 LR ∧ hR = h0
set_option maxRecDepth 65536 in
set_option maxHeartbeats 40000000 in
theorem ref_n0 (l : Launch) (Z : State) (a0 : Array Value) (hw : ∀ d ∈ tables_1, d.before a0 Z = true) (ws : List Jvm.Cond)  (h0 : Heap) (n0 : Nat) (Z0 : n0 ≤ h0.size)  :
    own_M l (⟨"com/example/voucher_engine/voucherengine/model/CodeStanding", "refuseRedeemedOutsideASet", "(Ljava/lang/String;Z)V"⟩ : MethodName) prog_5_method_2_code 2 none ws ({ frames := 0, cells := 0, slots := 0, locals := 0 } : Room) Z #[.null, (.int 0)] h0 (Q_ref_n0 Z  h0 n0) := by
  refine own_body (own := "com/example/voucher_engine/voucherengine/model/CodeStanding") rfl (plainFor_of_name pn_4) (fun m => ef_ref_n0 m (0 : Int32)) ?_
  intro p e s m below meth c s₁ Bd hml hZ hh hx hby hown X0 e0
  have N0 := Fr.nil n0
  refine own_iloadN X0.here hx hby d4_0 rfl ?_
  refine own_ifYes X0.here hx hby (pc' := 18) d4_1 ((if0 _ _).trans (teq (show (0 : Int32) = (0 : Int32) from (by decide))).1) (by decide) (by decide) ?_
  obtain ⟨fs, hr, hrun, hended, hW, hsame⟩ := X0.leave (v := none) (fun _ => rfl)
  refine own_ret (t := s₁.setFrames fs) ?_ ⟨_, hrun, hended, _, _, rfl, ?_, ⟨_, rfl⟩, hW, hsame.mono (by decide) (by decide)⟩
  · exact X0.returnOut hx Bd.returns (hb hby d4_18) hr
  · show Q_ref_n0 Z  h0 n0 _ s₁.heap _
    rw [e0]
    exact ⟨rfl, N0, rfl⟩
theorem ef_ref_s0 (m : MethodId) (x0 : Nat) (x1 : Int32) : entryFrame m #[(.ref x0), (.int x1)] 2 = mkF m 0 #[.val (.ref x0), .val (.int x1)] [] := by first | (simp [entryFrame, mkF, argsToLocals, Value.category]; done) | rfl
def Q_ref_s0 (Z : State) (a1 : Nat) (h0 : Heap) (n0 : Nat) (vR : Option Value) (hR : Heap) (LR : List Loc) : Prop := vR = none ∧ Fr n0 LR ∧ hR = h0
set_option maxRecDepth 65536 in
set_option maxHeartbeats 40000000 in
theorem ref_s0 (l : Launch) (Z : State) (a0 : Array Value) (hw : ∀ d ∈ tables_1, d.before a0 Z = true) (ws : List Jvm.Cond) (a1 : Nat) (h0 : Heap) (n0 : Nat) (Z0 : n0 ≤ h0.size)  :
    own_M l (⟨"com/example/voucher_engine/voucherengine/model/CodeStanding", "refuseRedeemedOutsideASet", "(Ljava/lang/String;Z)V"⟩ : MethodName) prog_5_method_2_code 2 none ws ({ frames := 0, cells := 0, slots := 0, locals := 0 } : Room) Z #[(.ref a1), (.int 0)] h0 (Q_ref_s0 Z a1 h0 n0) := by
  refine own_body (own := "com/example/voucher_engine/voucherengine/model/CodeStanding") rfl (plainFor_of_name pn_4) (fun m => ef_ref_s0 m a1 (0 : Int32)) ?_
  intro p e s m below meth c s₁ Bd hml hZ hh hx hby hown X0 e0
  have N0 := Fr.nil n0
  refine own_iloadN X0.here hx hby d4_0 rfl ?_
  refine own_ifYes X0.here hx hby (pc' := 18) d4_1 ((if0 _ _).trans (teq (show (0 : Int32) = (0 : Int32) from (by decide))).1) (by decide) (by decide) ?_
  obtain ⟨fs, hr, hrun, hended, hW, hsame⟩ := X0.leave (v := none) (fun _ => rfl)
  refine own_ret (t := s₁.setFrames fs) ?_ ⟨_, hrun, hended, _, _, rfl, ?_, ⟨_, rfl⟩, hW, hsame.mono (by decide) (by decide)⟩
  · exact X0.returnOut hx Bd.returns (hb hby d4_18) hr
  · show Q_ref_s0 Z a1 h0 n0 _ s₁.heap _
    rw [e0]
    exact ⟨rfl, N0, rfl⟩
theorem d4_4 : decode prog_5_method_2_code 4 = .ok (.aload_n 0, 1) := by decide +kernel
theorem d4_5 : decode prog_5_method_2_code 5 = .ok (.ifnonnull 13, 3) := by decide +kernel
def Q_ref_s1 (Z : State) (a1 : Nat) (h0 : Heap) (n0 : Nat) (vR : Option Value) (hR : Heap) (LR : List Loc) : Prop := vR = none ∧ Fr n0 LR ∧ hR = h0
set_option maxRecDepth 65536 in
set_option maxHeartbeats 40000000 in
theorem ref_s1 (l : Launch) (Z : State) (a0 : Array Value) (hw : ∀ d ∈ tables_1, d.before a0 Z = true) (ws : List Jvm.Cond) (a1 : Nat) (h0 : Heap) (n0 : Nat) (Z0 : n0 ≤ h0.size)  :
    own_M l (⟨"com/example/voucher_engine/voucherengine/model/CodeStanding", "refuseRedeemedOutsideASet", "(Ljava/lang/String;Z)V"⟩ : MethodName) prog_5_method_2_code 2 none ws ({ frames := 0, cells := 0, slots := 0, locals := 0 } : Room) Z #[(.ref a1), (.int 1)] h0 (Q_ref_s1 Z a1 h0 n0) := by
  refine own_body (own := "com/example/voucher_engine/voucherengine/model/CodeStanding") rfl (plainFor_of_name pn_4) (fun m => ef_ref_s0 m a1 (1 : Int32)) ?_
  intro p e s m below meth c s₁ Bd hml hZ hh hx hby hown X0 e0
  have N0 := Fr.nil n0
  refine own_iloadN X0.here hx hby d4_0 rfl ?_
  refine own_ifNo X0.here hx hby d4_1 ((if0 _ _).trans (feq (show ¬ ((1 : Int32) = (0 : Int32)) from (by decide))).1) ?_
  refine own_aloadN X0.here hx hby d4_4 rfl rfl ?_
  refine own_ifnonnullYes X0.here hx hby (pc' := 18) d4_5 (by decide) (by decide) ?_
  obtain ⟨fs, hr, hrun, hended, hW, hsame⟩ := X0.leave (v := none) (fun _ => rfl)
  refine own_ret (t := s₁.setFrames fs) ?_ ⟨_, hrun, hended, _, _, rfl, ?_, ⟨_, rfl⟩, hW, hsame.mono (by decide) (by decide)⟩
  · exact X0.returnOut hx Bd.returns (hb hby d4_18) hr
  · show Q_ref_s1 Z a1 h0 n0 _ s₁.heap _
    rw [e0]
    exact ⟨rfl, N0, rfl⟩
theorem ef_rm0 (m : MethodId) (x0 : Int32) (x1 : Int32) (x2 : Int32) : entryFrame m #[(.int x0), (.int x1), (.int x2)] maxLocals = mkF m 0 #[.val (.int x0), .val (.int x1), .val (.int x2), .unset, .unset, .unset, .unset, .unset, .unset] [] := by first | (simp [entryFrame, mkF, argsToLocals, Value.category, maxLocals]; done) | rfl
theorem pn_0 : plainName "com/example/voucher_engine/voucherengine/model/CodeStandingRefuseRedeemedOutsideASetPinLaw" = true := by first | (simp [plainName, overriddenIn]; done) | decide +kernel
theorem pd_4 : parseMethodDescriptor "([C)V" = some ⟨[(.array .char)], none⟩ := by decide +kernel
theorem pd_5 : parseMethodDescriptor "(Ljava/lang/String;Z)V" = some ⟨[(.object "java/lang/String"), .boolean], none⟩ := by decide +kernel
theorem pd_6 : parseMethodDescriptor "(C)Ljava/lang/String;" = some ⟨[.char], some (.object "java/lang/String")⟩ := by decide +kernel
def Q_rm0 (Z : State) (p1 : Int32) (p2 : Int32) (p3 : Int32) (zc : Int32) (h0 : Heap) (n0 : Nat) (vR : Option Value) (hR : Heap) (LR : List Loc) : Prop := vR = some (.int 1) ∧ Fr n0 LR ∧ True
set_option maxRecDepth 65536 in
set_option maxHeartbeats 40000000 in
theorem rm0 (l : Launch) (Z : State) (a0 : Array Value) (hw : ∀ d ∈ tables_1, d.before a0 Z = true) (ws : List Jvm.Cond) (p1 : Int32) (p2 : Int32) (p3 : Int32) (zc : Int32) (h0 : Heap) (n0 : Nat) (Z0 : n0 ≤ h0.size) (S_COMPACT : Sta Z h0 "java/lang/String" "COMPACT_STRINGS" "Z" (.int zc)) (hz : ¬ (zc = (0 : Int32))) :
    own_MH l x code maxLocals ret ws room_1 Z #[(.int p1), (.int p2), (.int p3)] h0 (Q_rm0 Z p1 p2 p3 zc h0 n0) consts_1 := by
  refine own_bodyH (own := "com/example/voucher_engine/voucherengine/model/CodeStandingRefuseRedeemedOutsideASetPinLaw") rfl (plainFor_of_name pn_0) (fun m => ef_rm0 m p1 p2 p3) ?_
  intro p e s m below meth c s₁ Bd hml hZ hh hx hby hown X0 e0 hS0 CH0
  have N0 := Fr.nil n0
  have hk0 : h0.size ≤ h0.size := Nat.le_refl _
  have Y0 : Stand p l e room_1 (s.setVm s.vm) m #[(.int p1), (.int p2), (.int p3)] below meth c s₁ [] 0 0 := X0
  have hEL := own_EW hw
  have C0 := CHr.refl CH0
  refine own_iloadN Y0.here hx hby at_0 rfl ?_
  refine own_iconst Y0.here hx hby at_1 (v := (1 : Int32)) (by decide) ?_
  refine own_iand Y0.here hx hby at_2 rfl ?_
  by_cases hc3_4 : (p1 &&& (1 : Int32)) = (0 : Int32)
  · refine own_ifYes Y0.here hx hby (pc' := 10) at_3 ((if0 _ _).trans (teq hc3_4).1) (by decide) (by decide) ?_
    refine own_iconst Y0.here hx hby at_10 (v := (0 : Int32)) (by decide) ?_
    refine own_istoreN Y0.here hx hby at_11 (l' := #[.val (.int p1), .val (.int p2), .val (.int p3), .val (.int 0), .unset, .unset, .unset, .unset, .unset]) rfl ?_
    refine own_iloadN Y0.here hx hby at_12 rfl ?_
    refine own_iconst Y0.here hx hby at_13 (v := (2 : Int32)) (by decide) ?_
    refine own_iand Y0.here hx hby at_14 rfl ?_
    by_cases hc15_5 : (p1 &&& (2 : Int32)) = (0 : Int32)
    · refine own_ifYes Y0.here hx hby (pc' := 26) at_15 ((if0 _ _).trans (teq hc15_5).1) (by decide) (by decide) ?_
      refine own_iconst Y0.here hx hby at_26 (v := (0 : Int32)) (by decide) ?_
      refine own_istore Y0.here hx hby at_27 (l' := #[.val (.int p1), .val (.int p2), .val (.int p3), .val (.int 0), .val (.int 0), .unset, .unset, .unset, .unset]) rfl ?_
      refine own_iloadN Y0.here hx hby at_29 rfl ?_
      refine own_sipush Y0.here hx hby at_30 (v := (255 : Int32)) (by decide) ?_
      refine own_iand Y0.here hx hby at_33 rfl ?_
      refine own_i2c Y0.here hx hby at_34 rfl ?_
      refine own_sh (T := s₁) 35 #[.val (.int p1), .val (.int p2), .val (.int p3), .val (.int 0), .val (.int 0), .unset, .unset, .unset, .unset] [(.int ((p2 &&& (255 : Int32)).toUInt32.toUInt16.toUInt32.toInt32))] ?_
      rw [show ((p2 &&& (255 : Int32)).toUInt32.toUInt16.toUInt32.toInt32) = (p2 &&& (255 : Int32)) from (i2c_mask p2)]
      refine own_istore Y0.here hx hby at_35 (l' := #[.val (.int p1), .val (.int p2), .val (.int p3), .val (.int 0), .val (.int 0), .val (.int (p2 &&& (255 : Int32))), .unset, .unset, .unset]) rfl ?_
      refine own_iloadN Y0.here hx hby at_37 rfl ?_
      refine own_sipush Y0.here hx hby at_38 (v := (255 : Int32)) (by decide) ?_
      refine own_iand Y0.here hx hby at_41 rfl ?_
      refine own_i2c Y0.here hx hby at_42 rfl ?_
      refine own_sh (T := s₁) 43 #[.val (.int p1), .val (.int p2), .val (.int p3), .val (.int 0), .val (.int 0), .val (.int (p2 &&& (255 : Int32))), .unset, .unset, .unset] [(.int ((p3 &&& (255 : Int32)).toUInt32.toUInt16.toUInt32.toInt32))] ?_
      rw [show ((p3 &&& (255 : Int32)).toUInt32.toUInt16.toUInt32.toInt32) = (p3 &&& (255 : Int32)) from (i2c_mask p3)]
      refine own_istore Y0.here hx hby at_43 (l' := #[.val (.int p1), .val (.int p2), .val (.int p3), .val (.int 0), .val (.int 0), .val (.int (p2 &&& (255 : Int32))), .val (.int (p3 &&& (255 : Int32))), .unset, .unset]) rfl ?_
      refine own_iloadN Y0.here hx hby at_45 rfl ?_
      refine own_iconst Y0.here hx hby at_46 (v := (2 : Int32)) (by decide) ?_
      refine own_iushr Y0.here hx hby at_47 rfl ?_
      refine own_iconst Y0.here hx hby at_48 (v := (3 : Int32)) (by decide) ?_
      refine own_iand Y0.here hx hby at_49 rfl ?_
      refine own_istore Y0.here hx hby at_50 (l' := #[.val (.int p1), .val (.int p2), .val (.int p3), .val (.int 0), .val (.int 0), .val (.int (p2 &&& (255 : Int32))), .val (.int (p3 &&& (255 : Int32))), .val (.int (((p1.toUInt32 >>> ((2 : Int32) &&& 31).toUInt32).toInt32) &&& (3 : Int32))), .unset]) rfl ?_
      refine own_iloadN Y0.here hx hby at_52 rfl ?_
      refine own_ifYes Y0.here hx hby (pc' := 62) at_53 ((if0 _ _).trans (teq (show (0 : Int32) = (0 : Int32) from (by decide))).1) (by decide) (by decide) ?_
      refine own_iload Y0.here hx hby at_62 rfl ?_
      by_cases hc64_6 : (((p1.toUInt32 >>> ((2 : Int32) &&& 31).toUInt32).toInt32) &&& (3 : Int32)) = (0 : Int32)
      · refine own_ifNo Y0.here hx hby at_64 ((if0 _ _).trans (teq hc64_6).2) ?_
        refine own_newO Y0 hx hZ hown (own_w hw 0 rfl) (own_w hw 1 rfl) (own_w hw 2 rfl) e0 hby at_67 (by decide) (by decide) ?_
        intro T7 h7 b7 X7 e7 E7 g7 A7 D7 lt7
        have z8 : h0.size ≤ h7.size := E7.1
        have C9 := C0.trans (CHr.ext E7 C0.1)
        have F10 : Fld Z h7 b7 "java/lang/String" "value" "[B" .null := D7 (Or.inr (own_w hw 16 rfl)) (ty := (.array .byte)) (by decide)
        have F11 : Fld Z h7 b7 "java/lang/String" "coder" "B" (.int 0) := D7 (Or.inr (own_w hw 17 rfl)) (ty := .byte) (by decide)
        refine own_dup X7.here hx hby at_70 rfl ?_
        refine own_iconst X7.here hx hby at_71 (v := (0 : Int32)) (by decide) ?_
        refine own_newP X7 hx hZ (aty := .char) (own_w hw 3 rfl) e7 hby at_72 (by decide) 0 (by decide) (by decide) (by decide) (by decide) (ad := "[C") (by decide) ?_
        intro T12 h12 k12 b12 X12 e12 E12 g12 V12 C12 lt12
        have z13 : h7.size ≤ h12.size := E12.1
        have C14 := C9.trans (CHr.ext E12 C9.1)
        have V15 : Arv Z h12 b12 k12 .char (0 : Int32) [] (.int 0) := V12
        have f16 : Exa Z h12 b7 "java/lang/String" := (A7.ext E12)
        have f17 : Fld Z h12 b7 "java/lang/String" "value" "[B" .null := (F10.ext E12)
        have f18 : Fld Z h12 b7 "java/lang/String" "coder" "B" (.int 0) := (F11.ext E12)
        have z20 : n0 ≤ h12.size := by omega
        refine own_specialH X12 hx hZ hEL rfl hown (own_w hw 4 rfl) (own_w hw 5 rfl) (own_w hw 2 rfl) (own_w hw 6 rfl) (by decide) (strE1 l Z a0 hw [] b7 b12 k12 h12 n0 z20 f16 f17 f18 (by omega) V15) 1 (Nat.le_of_eq rfl) (by decide) (by decide) (by rw [hml]; rfl) (argsL := [(.ref b12)]) (st := [(.ref b7)]) (a := b7) (lenOf pd_4 rfl) rfl rfl (by decide) (by decide) e12 hby C14.1 hS0 (by omega) at_74 ?_
        intro T19 v19 L19 vm19 X19 hS19 hZ19 hown19 hg19 Cn19 hQ19
        obtain ⟨t_19, kb_19, rfl, Nq19, K19, P19_0, P19_1, P19_2, P19_3⟩ := hQ19
        have N19 := Fr.app N0 Nq19
        have z21 : h12.size ≤ T19.heap.size := K19.1
        have C22 := C14.trans Cn19
        have lt23 : T19.heap.size > b7 := P19_0.lt
        have lt24 : T19.heap.size > t_19 := P19_3.lt
        refine own_sh (T := T19) 77 #[.val (.int p1), .val (.int p2), .val (.int p3), .val (.int 0), .val (.int 0), .val (.int (p2 &&& (255 : Int32))), .val (.int (p3 &&& (255 : Int32))), .val (.int (((p1.toUInt32 >>> ((2 : Int32) &&& 31).toUInt32).toInt32) &&& (3 : Int32))), .unset] [(.ref b7)] ?_
        refine own_astore X19.here hx hby at_77 rfl (l' := #[.val (.int p1), .val (.int p2), .val (.int p3), .val (.int 0), .val (.int 0), .val (.int (p2 &&& (255 : Int32))), .val (.int (p3 &&& (255 : Int32))), .val (.int (((p1.toUInt32 >>> ((2 : Int32) &&& 31).toUInt32).toInt32) &&& (3 : Int32))), .val (.ref b7)]) rfl ?_
        refine own_goto X19.here hx hby (pc' := 120) at_79 (by decide) (by decide) ?_
        refine own_aload X19.here hx hby at_120 rfl rfl ?_
        refine own_iload X19.here hx hby at_122 rfl ?_
        have z26 : n0 ≤ T19.heap.size := by omega
        refine own_callS X19 hx hZ19 hown19 (own_w hw 22 rfl) (own_w hw 23 rfl) (own_w hw 24 rfl) (own_w hw 25 rfl) (by decide) (ref_s0 l Z a0 hw [] b7 T19.heap n0 z26 ) 0 (Nat.le_of_eq rfl) (by decide) (by decide) (by rw [hml]; rfl) (argsL := [(.ref b7), (.int 0)]) (st := []) (lenOf pd_5 rfl) rfl rfl (by decide) (by decide) rfl hby at_124 ?_
        intro T25 v25 L25 X25 hQ25
        obtain ⟨rfl, Nq25, eh25⟩ := hQ25
        have N25 := Fr.app N19 Nq25
        refine own_sh (T := T25) 127 #[.val (.int p1), .val (.int p2), .val (.int p3), .val (.int 0), .val (.int 0), .val (.int (p2 &&& (255 : Int32))), .val (.int (p3 &&& (255 : Int32))), .val (.int (((p1.toUInt32 >>> ((2 : Int32) &&& 31).toUInt32).toInt32) &&& (3 : Int32))), .val (.ref b7)] [] ?_
        refine own_iconst X25.here hx hby at_127 (v := (1 : Int32)) (by decide) ?_
        obtain ⟨fs, hr, hrun, hended, hRW⟩ := X25.leaveW hS19 (by rw [eh25]; omega) (v := some (.int 1)) (fun h => by rw [Bd.returns] at h; cases h)
        have hCf : CHr Z consts_1 s.vm s.heap T25.vm T25.heap := by
          rw [hh, eh25]
          exact C22.trans (CHv.at X25 hZ19 hEL C22.1)
        refine own_ret (t := T25.setFrames fs) ?_ ⟨_, hrun, hended, _, _, rfl, ?_, hCf, hRW.1, hRW.2.1, hRW.2.2.1, hRW.2.2.2.mono (by decide) (by decide)⟩
        · exact retN X25 hx (t := .boolean) Bd.returns (by simp) (hb hby at_128) hr
        · show Q_rm0 Z p1 p2 p3 zc h0 n0 _ T25.heap _
          rw [eh25]
          exact ⟨rfl, N25, trivial⟩
      · refine own_ifYes Y0.here hx hby (pc' := 82) at_64 ((if0 _ _).trans (feq hc64_6).2) (by decide) (by decide) ?_
        refine own_iload Y0.here hx hby at_82 rfl ?_
        refine own_iconst Y0.here hx hby at_84 (v := (1 : Int32)) (by decide) ?_
        by_cases hc85_27 : (((p1.toUInt32 >>> ((2 : Int32) &&& 31).toUInt32).toInt32) &&& (3 : Int32)) = (1 : Int32)
        · refine own_icmpNo Y0.here hx hby at_85 (teq hc85_27).2 ?_
          refine own_iload Y0.here hx hby at_88 rfl ?_
          refine own_callS Y0 hx hZ hown (own_w hw 26 rfl) (own_w hw 27 rfl) (own_w hw 2 rfl) (own_w hw 28 rfl) (by decide) (valOf l Z a0 hw [] (p2 &&& (255 : Int32)) zc h0 n0 Z0 S_COMPACT hz (own_c255 p2).2) 0 (Nat.le_of_eq rfl) (by decide) (by decide) (by rw [hml]; rfl) (argsL := [(.int (p2 &&& (255 : Int32)))]) (st := []) (lenOf pd_6 rfl) rfl rfl (by decide) (by decide) e0 hby at_90 ?_
          intro T28 v28 L28 X28 hQ28
          obtain ⟨x_28, t_28, kb_28, rfl, Nq28, K28, P28_0, P28_1, P28_2, P28_3, P28_4, P28_5, P28_6⟩ := hQ28
          have N28 := Fr.app N0 Nq28
          have z29 : h0.size ≤ T28.heap.size := K28.1
          have C30 := C0.trans (CHr.keep K28 sf0 C0.1)
          have lt31 : T28.heap.size > x_28 := P28_3.lt
          have lt32 : T28.heap.size > t_28 := P28_6.lt
          refine own_sh (T := T28) 93 #[.val (.int p1), .val (.int p2), .val (.int p3), .val (.int 0), .val (.int 0), .val (.int (p2 &&& (255 : Int32))), .val (.int (p3 &&& (255 : Int32))), .val (.int (((p1.toUInt32 >>> ((2 : Int32) &&& 31).toUInt32).toInt32) &&& (3 : Int32))), .unset] [(.ref x_28)] ?_
          refine own_astore X28.here hx hby at_93 rfl (l' := #[.val (.int p1), .val (.int p2), .val (.int p3), .val (.int 0), .val (.int 0), .val (.int (p2 &&& (255 : Int32))), .val (.int (p3 &&& (255 : Int32))), .val (.int (((p1.toUInt32 >>> ((2 : Int32) &&& 31).toUInt32).toInt32) &&& (3 : Int32))), .val (.ref x_28)]) rfl ?_
          refine own_goto X28.here hx hby (pc' := 120) at_95 (by decide) (by decide) ?_
          refine own_aload X28.here hx hby at_120 rfl rfl ?_
          refine own_iload X28.here hx hby at_122 rfl ?_
          have z34 : n0 ≤ T28.heap.size := by omega
          refine own_callS X28 hx hZ hown (own_w hw 22 rfl) (own_w hw 23 rfl) (own_w hw 24 rfl) (own_w hw 25 rfl) (by decide) (ref_s0 l Z a0 hw [] x_28 T28.heap n0 z34 ) 0 (Nat.le_of_eq rfl) (by decide) (by decide) (by rw [hml]; rfl) (argsL := [(.ref x_28), (.int 0)]) (st := []) (lenOf pd_5 rfl) rfl rfl (by decide) (by decide) rfl hby at_124 ?_
          intro T33 v33 L33 X33 hQ33
          obtain ⟨rfl, Nq33, eh33⟩ := hQ33
          have N33 := Fr.app N28 Nq33
          refine own_sh (T := T33) 127 #[.val (.int p1), .val (.int p2), .val (.int p3), .val (.int 0), .val (.int 0), .val (.int (p2 &&& (255 : Int32))), .val (.int (p3 &&& (255 : Int32))), .val (.int (((p1.toUInt32 >>> ((2 : Int32) &&& 31).toUInt32).toInt32) &&& (3 : Int32))), .val (.ref x_28)] [] ?_
          refine own_iconst X33.here hx hby at_127 (v := (1 : Int32)) (by decide) ?_
          obtain ⟨fs, hr, hrun, hended, hRW⟩ := X33.leaveW hS0 (by rw [eh33]; omega) (v := some (.int 1)) (fun h => by rw [Bd.returns] at h; cases h)
          have hCf : CHr Z consts_1 s.vm s.heap T33.vm T33.heap := by
            rw [hh, eh33]
            exact C30.trans (CHv.at X33 hZ hEL C30.1)
          refine own_ret (t := T33.setFrames fs) ?_ ⟨_, hrun, hended, _, _, rfl, ?_, hCf, hRW.1, hRW.2.1, hRW.2.2.1, hRW.2.2.2.mono (by decide) (by decide)⟩
          · exact retN X33 hx (t := .boolean) Bd.returns (by simp) (hb hby at_128) hr
          · show Q_rm0 Z p1 p2 p3 zc h0 n0 _ T33.heap _
            rw [eh33]
            exact ⟨rfl, N33, trivial⟩
        · refine own_icmpYes Y0.here hx hby (pc' := 98) at_85 (feq hc85_27).2 (by decide) (by decide) ?_
          refine own_newO Y0 hx hZ hown (own_w hw 0 rfl) (own_w hw 1 rfl) (own_w hw 2 rfl) e0 hby at_98 (by decide) (by decide) ?_
          intro T35 h35 b35 X35 e35 E35 g35 A35 D35 lt35
          have z36 : h0.size ≤ h35.size := E35.1
          have C37 := C0.trans (CHr.ext E35 C0.1)
          have F38 : Fld Z h35 b35 "java/lang/String" "value" "[B" .null := D35 (Or.inr (own_w hw 16 rfl)) (ty := (.array .byte)) (by decide)
          have F39 : Fld Z h35 b35 "java/lang/String" "coder" "B" (.int 0) := D35 (Or.inr (own_w hw 17 rfl)) (ty := .byte) (by decide)
          refine own_dup X35.here hx hby at_101 rfl ?_
          refine own_iconst X35.here hx hby at_102 (v := (2 : Int32)) (by decide) ?_
          refine own_newP X35 hx hZ (aty := .char) (own_w hw 3 rfl) e35 hby at_103 (by decide) 2 (by decide) (by decide) (by decide) (by decide) (ad := "[C") (by decide) ?_
          intro T40 h40 k40 b40 X40 e40 E40 g40 V40 C40 lt40
          have z41 : h35.size ≤ h40.size := E40.1
          have C42 := C37.trans (CHr.ext E40 C37.1)
          have V43 : Arv Z h40 b40 k40 .char (2 : Int32) [(.int 0), (.int 0)] (.int 0) := V40.pad (pad_rep [] (.int 0) 2)
          refine own_dup X40.here hx hby at_105 rfl ?_
          refine own_iconst X40.here hx hby at_106 (v := (0 : Int32)) (by decide) ?_
          refine own_iload X40.here hx hby at_107 rfl ?_
          refine own_castore X40 hx hZ e40 V43 ⟨by decide, by decide⟩ 0 (by decide) (Nat.le_of_ble_eq_true rfl) (w := (.int (p2 &&& (255 : Int32)))) (congrArg Value.int (i2c_mask p2)) hby at_109 N0 (by omega) ?_
          intro T44 h44 lo44 X44 e44 N44 W44 V44 z44
          have V45 : Arv Z h44 b40 k40 .char (2 : Int32) [(.int (p2 &&& (255 : Int32))), (.int 0)] (.int 0) := V44
          have C46 := C42.trans (CHr.wr W44 (Safe.exa hZ.alike C40 (by decide) (by decide)) C42.1)
          refine own_dup X44.here hx hby at_110 rfl ?_
          refine own_iconst X44.here hx hby at_111 (v := (1 : Int32)) (by decide) ?_
          refine own_iload X44.here hx hby at_112 rfl ?_
          refine own_castore X44 hx hZ e44 V45 ⟨by decide, by decide⟩ 1 (by decide) (Nat.le_of_ble_eq_true rfl) (w := (.int (p3 &&& (255 : Int32)))) (congrArg Value.int (i2c_mask p3)) hby at_114 N44 (by omega) ?_
          intro T47 h47 lo47 X47 e47 N47 W47 V47 z47
          have V48 : Arv Z h47 b40 k40 .char (2 : Int32) [(.int (p2 &&& (255 : Int32))), (.int (p3 &&& (255 : Int32)))] (.int 0) := V47
          have f49 : Exa Z h44 b40 "[C" := (C40.wr W44)
          have C50 := C46.trans (CHr.wr W47 (Safe.exa hZ.alike f49 (by decide) (by decide)) C46.1)
          have f51 : Exa Z h47 b35 "java/lang/String" := (((A35.ext E40).wr W44).wr W47)
          have f52 : Fld Z h47 b35 "java/lang/String" "value" "[B" .null := (((F38.ext E40).other W44 (Or.inl (own_nn (by omega)))).other W47 (Or.inl (own_nn (by omega))))
          have f53 : Fld Z h47 b35 "java/lang/String" "coder" "B" (.int 0) := (((F39.ext E40).other W44 (Or.inl (own_nn (by omega)))).other W47 (Or.inl (own_nn (by omega))))
          have f54 : Sta Z h47 "java/lang/String" "COMPACT_STRINGS" "Z" (.int zc) := ((((S_COMPACT.ext E35).ext E40).wr W44).wr W47)
          have z56 : n0 ≤ h47.size := by omega
          have hws_words : ∀ d ∈ StrChars.Road.words, d.before a0 Z = true := fun d hd => hw d ((by decide +kernel : ∀ d ∈ StrChars.Road.words, d ∈ tables_1) d hd)
          refine own_specialB X47 hx hZ rfl hown (own_w hw 4 rfl) (own_w hw 5 rfl) (own_w hw 6 rfl) (by decide) (StrChars.Road.backV (W := 1) hZ hws_words (kI := 4) (own_w hw 1 rfl) (cs := ([(p2 &&& (255 : Int32)), (p3 &&& (255 : Int32))] : List Int32)) (bs := ([(p2 &&& (255 : Int32)), (p3 &&& (255 : Int32))] : List Int32).map (fun c => c.toInt8.toInt32)) (n := 2) (by omega) z56 f51 f52 f53 V48 f54 hz rfl rfl (by decide) (by decide) (own_lS (own_c255 p2) (own_lS (own_c255 p3) own_l0)) rfl (by decide) (by decide)) (Nat.le_of_eq rfl) (by rw [hml]; rfl) (argsL := [(.ref b40)]) (st := [(.ref b35)]) (a := b35) (lenOf pd_4 rfl) rfl rfl (by decide) (by decide) e47 hby at_115 ?_
          intro T55 v55 L55 X55 hQ55
          obtain ⟨rfl, Nq55, K55, P55_0, P55_1, t_55, kb_55, P55_2, P55_3, P55_4, P55_5, P55_6⟩ := hQ55
          have N55 := Fr.app N47 Nq55
          have z57 : h47.size ≤ T55.heap.size := K55.1
          have C58 := C50.trans (CHr.keep K55 (sfS (own_safe_null hZ.alike f51 f52) sf0) C50.1)
          have lt59 : T55.heap.size > b35 := P55_0.lt
          have lt60 : T55.heap.size > t_55 := P55_6.lt
          refine own_sh (T := T55) 118 #[.val (.int p1), .val (.int p2), .val (.int p3), .val (.int 0), .val (.int 0), .val (.int (p2 &&& (255 : Int32))), .val (.int (p3 &&& (255 : Int32))), .val (.int (((p1.toUInt32 >>> ((2 : Int32) &&& 31).toUInt32).toInt32) &&& (3 : Int32))), .unset] [(.ref b35)] ?_
          refine own_astore X55.here hx hby at_118 rfl (l' := #[.val (.int p1), .val (.int p2), .val (.int p3), .val (.int 0), .val (.int 0), .val (.int (p2 &&& (255 : Int32))), .val (.int (p3 &&& (255 : Int32))), .val (.int (((p1.toUInt32 >>> ((2 : Int32) &&& 31).toUInt32).toInt32) &&& (3 : Int32))), .val (.ref b35)]) rfl ?_
          refine own_aload X55.here hx hby at_120 rfl rfl ?_
          refine own_iload X55.here hx hby at_122 rfl ?_
          have z62 : n0 ≤ T55.heap.size := by omega
          refine own_callS X55 hx hZ hown (own_w hw 22 rfl) (own_w hw 23 rfl) (own_w hw 24 rfl) (own_w hw 25 rfl) (by decide) (ref_s0 l Z a0 hw [] b35 T55.heap n0 z62 ) 0 (Nat.le_of_eq rfl) (by decide) (by decide) (by rw [hml]; rfl) (argsL := [(.ref b35), (.int 0)]) (st := []) (lenOf pd_5 rfl) rfl rfl (by decide) (by decide) rfl hby at_124 ?_
          intro T61 v61 L61 X61 hQ61
          obtain ⟨rfl, Nq61, eh61⟩ := hQ61
          have N61 := Fr.app N55 Nq61
          refine own_sh (T := T61) 127 #[.val (.int p1), .val (.int p2), .val (.int p3), .val (.int 0), .val (.int 0), .val (.int (p2 &&& (255 : Int32))), .val (.int (p3 &&& (255 : Int32))), .val (.int (((p1.toUInt32 >>> ((2 : Int32) &&& 31).toUInt32).toInt32) &&& (3 : Int32))), .val (.ref b35)] [] ?_
          refine own_iconst X61.here hx hby at_127 (v := (1 : Int32)) (by decide) ?_
          obtain ⟨fs, hr, hrun, hended, hRW⟩ := X61.leaveW hS0 (by rw [eh61]; omega) (v := some (.int 1)) (fun h => by rw [Bd.returns] at h; cases h)
          have hCf : CHr Z consts_1 s.vm s.heap T61.vm T61.heap := by
            rw [hh, eh61]
            exact C58.trans (CHv.at X61 hZ hEL C58.1)
          refine own_ret (t := T61.setFrames fs) ?_ ⟨_, hrun, hended, _, _, rfl, ?_, hCf, hRW.1, hRW.2.1, hRW.2.2.1, hRW.2.2.2.mono (by decide) (by decide)⟩
          · exact retN X61 hx (t := .boolean) Bd.returns (by simp) (hb hby at_128) hr
          · show Q_rm0 Z p1 p2 p3 zc h0 n0 _ T61.heap _
            rw [eh61]
            exact ⟨rfl, N61, trivial⟩
    · refine own_ifNo Y0.here hx hby at_15 ((if0 _ _).trans (feq hc15_5).1) ?_
      refine own_iloadN Y0.here hx hby at_18 rfl ?_
      refine own_ifNo Y0.here hx hby at_19 ((if0 _ _).trans (teq (show (0 : Int32) = (0 : Int32) from (by decide))).2) ?_
      refine own_iconst Y0.here hx hby at_22 (v := (1 : Int32)) (by decide) ?_
      refine own_goto Y0.here hx hby (pc' := 27) at_23 (by decide) (by decide) ?_
      refine own_istore Y0.here hx hby at_27 (l' := #[.val (.int p1), .val (.int p2), .val (.int p3), .val (.int 0), .val (.int 1), .unset, .unset, .unset, .unset]) rfl ?_
      refine own_iloadN Y0.here hx hby at_29 rfl ?_
      refine own_sipush Y0.here hx hby at_30 (v := (255 : Int32)) (by decide) ?_
      refine own_iand Y0.here hx hby at_33 rfl ?_
      refine own_i2c Y0.here hx hby at_34 rfl ?_
      refine own_sh (T := s₁) 35 #[.val (.int p1), .val (.int p2), .val (.int p3), .val (.int 0), .val (.int 1), .unset, .unset, .unset, .unset] [(.int ((p2 &&& (255 : Int32)).toUInt32.toUInt16.toUInt32.toInt32))] ?_
      rw [show ((p2 &&& (255 : Int32)).toUInt32.toUInt16.toUInt32.toInt32) = (p2 &&& (255 : Int32)) from (i2c_mask p2)]
      refine own_istore Y0.here hx hby at_35 (l' := #[.val (.int p1), .val (.int p2), .val (.int p3), .val (.int 0), .val (.int 1), .val (.int (p2 &&& (255 : Int32))), .unset, .unset, .unset]) rfl ?_
      refine own_iloadN Y0.here hx hby at_37 rfl ?_
      refine own_sipush Y0.here hx hby at_38 (v := (255 : Int32)) (by decide) ?_
      refine own_iand Y0.here hx hby at_41 rfl ?_
      refine own_i2c Y0.here hx hby at_42 rfl ?_
      refine own_sh (T := s₁) 43 #[.val (.int p1), .val (.int p2), .val (.int p3), .val (.int 0), .val (.int 1), .val (.int (p2 &&& (255 : Int32))), .unset, .unset, .unset] [(.int ((p3 &&& (255 : Int32)).toUInt32.toUInt16.toUInt32.toInt32))] ?_
      rw [show ((p3 &&& (255 : Int32)).toUInt32.toUInt16.toUInt32.toInt32) = (p3 &&& (255 : Int32)) from (i2c_mask p3)]
      refine own_istore Y0.here hx hby at_43 (l' := #[.val (.int p1), .val (.int p2), .val (.int p3), .val (.int 0), .val (.int 1), .val (.int (p2 &&& (255 : Int32))), .val (.int (p3 &&& (255 : Int32))), .unset, .unset]) rfl ?_
      refine own_iloadN Y0.here hx hby at_45 rfl ?_
      refine own_iconst Y0.here hx hby at_46 (v := (2 : Int32)) (by decide) ?_
      refine own_iushr Y0.here hx hby at_47 rfl ?_
      refine own_iconst Y0.here hx hby at_48 (v := (3 : Int32)) (by decide) ?_
      refine own_iand Y0.here hx hby at_49 rfl ?_
      refine own_istore Y0.here hx hby at_50 (l' := #[.val (.int p1), .val (.int p2), .val (.int p3), .val (.int 0), .val (.int 1), .val (.int (p2 &&& (255 : Int32))), .val (.int (p3 &&& (255 : Int32))), .val (.int (((p1.toUInt32 >>> ((2 : Int32) &&& 31).toUInt32).toInt32) &&& (3 : Int32))), .unset]) rfl ?_
      refine own_iloadN Y0.here hx hby at_52 rfl ?_
      refine own_ifYes Y0.here hx hby (pc' := 62) at_53 ((if0 _ _).trans (teq (show (0 : Int32) = (0 : Int32) from (by decide))).1) (by decide) (by decide) ?_
      refine own_iload Y0.here hx hby at_62 rfl ?_
      by_cases hc64_63 : (((p1.toUInt32 >>> ((2 : Int32) &&& 31).toUInt32).toInt32) &&& (3 : Int32)) = (0 : Int32)
      · refine own_ifNo Y0.here hx hby at_64 ((if0 _ _).trans (teq hc64_63).2) ?_
        refine own_newO Y0 hx hZ hown (own_w hw 0 rfl) (own_w hw 1 rfl) (own_w hw 2 rfl) e0 hby at_67 (by decide) (by decide) ?_
        intro T64 h64 b64 X64 e64 E64 g64 A64 D64 lt64
        have z65 : h0.size ≤ h64.size := E64.1
        have C66 := C0.trans (CHr.ext E64 C0.1)
        have F67 : Fld Z h64 b64 "java/lang/String" "value" "[B" .null := D64 (Or.inr (own_w hw 16 rfl)) (ty := (.array .byte)) (by decide)
        have F68 : Fld Z h64 b64 "java/lang/String" "coder" "B" (.int 0) := D64 (Or.inr (own_w hw 17 rfl)) (ty := .byte) (by decide)
        refine own_dup X64.here hx hby at_70 rfl ?_
        refine own_iconst X64.here hx hby at_71 (v := (0 : Int32)) (by decide) ?_
        refine own_newP X64 hx hZ (aty := .char) (own_w hw 3 rfl) e64 hby at_72 (by decide) 0 (by decide) (by decide) (by decide) (by decide) (ad := "[C") (by decide) ?_
        intro T69 h69 k69 b69 X69 e69 E69 g69 V69 C69 lt69
        have z70 : h64.size ≤ h69.size := E69.1
        have C71 := C66.trans (CHr.ext E69 C66.1)
        have V72 : Arv Z h69 b69 k69 .char (0 : Int32) [] (.int 0) := V69
        have f73 : Exa Z h69 b64 "java/lang/String" := (A64.ext E69)
        have f74 : Fld Z h69 b64 "java/lang/String" "value" "[B" .null := (F67.ext E69)
        have f75 : Fld Z h69 b64 "java/lang/String" "coder" "B" (.int 0) := (F68.ext E69)
        have z77 : n0 ≤ h69.size := by omega
        refine own_specialH X69 hx hZ hEL rfl hown (own_w hw 4 rfl) (own_w hw 5 rfl) (own_w hw 2 rfl) (own_w hw 6 rfl) (by decide) (strE1 l Z a0 hw [] b64 b69 k69 h69 n0 z77 f73 f74 f75 (by omega) V72) 1 (Nat.le_of_eq rfl) (by decide) (by decide) (by rw [hml]; rfl) (argsL := [(.ref b69)]) (st := [(.ref b64)]) (a := b64) (lenOf pd_4 rfl) rfl rfl (by decide) (by decide) e69 hby C71.1 hS0 (by omega) at_74 ?_
        intro T76 v76 L76 vm76 X76 hS76 hZ76 hown76 hg76 Cn76 hQ76
        obtain ⟨t_76, kb_76, rfl, Nq76, K76, P76_0, P76_1, P76_2, P76_3⟩ := hQ76
        have N76 := Fr.app N0 Nq76
        have z78 : h69.size ≤ T76.heap.size := K76.1
        have C79 := C71.trans Cn76
        have lt80 : T76.heap.size > b64 := P76_0.lt
        have lt81 : T76.heap.size > t_76 := P76_3.lt
        refine own_sh (T := T76) 77 #[.val (.int p1), .val (.int p2), .val (.int p3), .val (.int 0), .val (.int 1), .val (.int (p2 &&& (255 : Int32))), .val (.int (p3 &&& (255 : Int32))), .val (.int (((p1.toUInt32 >>> ((2 : Int32) &&& 31).toUInt32).toInt32) &&& (3 : Int32))), .unset] [(.ref b64)] ?_
        refine own_astore X76.here hx hby at_77 rfl (l' := #[.val (.int p1), .val (.int p2), .val (.int p3), .val (.int 0), .val (.int 1), .val (.int (p2 &&& (255 : Int32))), .val (.int (p3 &&& (255 : Int32))), .val (.int (((p1.toUInt32 >>> ((2 : Int32) &&& 31).toUInt32).toInt32) &&& (3 : Int32))), .val (.ref b64)]) rfl ?_
        refine own_goto X76.here hx hby (pc' := 120) at_79 (by decide) (by decide) ?_
        refine own_aload X76.here hx hby at_120 rfl rfl ?_
        refine own_iload X76.here hx hby at_122 rfl ?_
        have z83 : n0 ≤ T76.heap.size := by omega
        refine own_callS X76 hx hZ76 hown76 (own_w hw 22 rfl) (own_w hw 23 rfl) (own_w hw 24 rfl) (own_w hw 25 rfl) (by decide) (ref_s1 l Z a0 hw [] b64 T76.heap n0 z83 ) 0 (Nat.le_of_eq rfl) (by decide) (by decide) (by rw [hml]; rfl) (argsL := [(.ref b64), (.int 1)]) (st := []) (lenOf pd_5 rfl) rfl rfl (by decide) (by decide) rfl hby at_124 ?_
        intro T82 v82 L82 X82 hQ82
        obtain ⟨rfl, Nq82, eh82⟩ := hQ82
        have N82 := Fr.app N76 Nq82
        refine own_sh (T := T82) 127 #[.val (.int p1), .val (.int p2), .val (.int p3), .val (.int 0), .val (.int 1), .val (.int (p2 &&& (255 : Int32))), .val (.int (p3 &&& (255 : Int32))), .val (.int (((p1.toUInt32 >>> ((2 : Int32) &&& 31).toUInt32).toInt32) &&& (3 : Int32))), .val (.ref b64)] [] ?_
        refine own_iconst X82.here hx hby at_127 (v := (1 : Int32)) (by decide) ?_
        obtain ⟨fs, hr, hrun, hended, hRW⟩ := X82.leaveW hS76 (by rw [eh82]; omega) (v := some (.int 1)) (fun h => by rw [Bd.returns] at h; cases h)
        have hCf : CHr Z consts_1 s.vm s.heap T82.vm T82.heap := by
          rw [hh, eh82]
          exact C79.trans (CHv.at X82 hZ76 hEL C79.1)
        refine own_ret (t := T82.setFrames fs) ?_ ⟨_, hrun, hended, _, _, rfl, ?_, hCf, hRW.1, hRW.2.1, hRW.2.2.1, hRW.2.2.2.mono (by decide) (by decide)⟩
        · exact retN X82 hx (t := .boolean) Bd.returns (by simp) (hb hby at_128) hr
        · show Q_rm0 Z p1 p2 p3 zc h0 n0 _ T82.heap _
          rw [eh82]
          exact ⟨rfl, N82, trivial⟩
      · refine own_ifYes Y0.here hx hby (pc' := 82) at_64 ((if0 _ _).trans (feq hc64_63).2) (by decide) (by decide) ?_
        refine own_iload Y0.here hx hby at_82 rfl ?_
        refine own_iconst Y0.here hx hby at_84 (v := (1 : Int32)) (by decide) ?_
        by_cases hc85_84 : (((p1.toUInt32 >>> ((2 : Int32) &&& 31).toUInt32).toInt32) &&& (3 : Int32)) = (1 : Int32)
        · refine own_icmpNo Y0.here hx hby at_85 (teq hc85_84).2 ?_
          refine own_iload Y0.here hx hby at_88 rfl ?_
          refine own_callS Y0 hx hZ hown (own_w hw 26 rfl) (own_w hw 27 rfl) (own_w hw 2 rfl) (own_w hw 28 rfl) (by decide) (valOf l Z a0 hw [] (p2 &&& (255 : Int32)) zc h0 n0 Z0 S_COMPACT hz (own_c255 p2).2) 0 (Nat.le_of_eq rfl) (by decide) (by decide) (by rw [hml]; rfl) (argsL := [(.int (p2 &&& (255 : Int32)))]) (st := []) (lenOf pd_6 rfl) rfl rfl (by decide) (by decide) e0 hby at_90 ?_
          intro T85 v85 L85 X85 hQ85
          obtain ⟨x_85, t_85, kb_85, rfl, Nq85, K85, P85_0, P85_1, P85_2, P85_3, P85_4, P85_5, P85_6⟩ := hQ85
          have N85 := Fr.app N0 Nq85
          have z86 : h0.size ≤ T85.heap.size := K85.1
          have C87 := C0.trans (CHr.keep K85 sf0 C0.1)
          have lt88 : T85.heap.size > x_85 := P85_3.lt
          have lt89 : T85.heap.size > t_85 := P85_6.lt
          refine own_sh (T := T85) 93 #[.val (.int p1), .val (.int p2), .val (.int p3), .val (.int 0), .val (.int 1), .val (.int (p2 &&& (255 : Int32))), .val (.int (p3 &&& (255 : Int32))), .val (.int (((p1.toUInt32 >>> ((2 : Int32) &&& 31).toUInt32).toInt32) &&& (3 : Int32))), .unset] [(.ref x_85)] ?_
          refine own_astore X85.here hx hby at_93 rfl (l' := #[.val (.int p1), .val (.int p2), .val (.int p3), .val (.int 0), .val (.int 1), .val (.int (p2 &&& (255 : Int32))), .val (.int (p3 &&& (255 : Int32))), .val (.int (((p1.toUInt32 >>> ((2 : Int32) &&& 31).toUInt32).toInt32) &&& (3 : Int32))), .val (.ref x_85)]) rfl ?_
          refine own_goto X85.here hx hby (pc' := 120) at_95 (by decide) (by decide) ?_
          refine own_aload X85.here hx hby at_120 rfl rfl ?_
          refine own_iload X85.here hx hby at_122 rfl ?_
          have z91 : n0 ≤ T85.heap.size := by omega
          refine own_callS X85 hx hZ hown (own_w hw 22 rfl) (own_w hw 23 rfl) (own_w hw 24 rfl) (own_w hw 25 rfl) (by decide) (ref_s1 l Z a0 hw [] x_85 T85.heap n0 z91 ) 0 (Nat.le_of_eq rfl) (by decide) (by decide) (by rw [hml]; rfl) (argsL := [(.ref x_85), (.int 1)]) (st := []) (lenOf pd_5 rfl) rfl rfl (by decide) (by decide) rfl hby at_124 ?_
          intro T90 v90 L90 X90 hQ90
          obtain ⟨rfl, Nq90, eh90⟩ := hQ90
          have N90 := Fr.app N85 Nq90
          refine own_sh (T := T90) 127 #[.val (.int p1), .val (.int p2), .val (.int p3), .val (.int 0), .val (.int 1), .val (.int (p2 &&& (255 : Int32))), .val (.int (p3 &&& (255 : Int32))), .val (.int (((p1.toUInt32 >>> ((2 : Int32) &&& 31).toUInt32).toInt32) &&& (3 : Int32))), .val (.ref x_85)] [] ?_
          refine own_iconst X90.here hx hby at_127 (v := (1 : Int32)) (by decide) ?_
          obtain ⟨fs, hr, hrun, hended, hRW⟩ := X90.leaveW hS0 (by rw [eh90]; omega) (v := some (.int 1)) (fun h => by rw [Bd.returns] at h; cases h)
          have hCf : CHr Z consts_1 s.vm s.heap T90.vm T90.heap := by
            rw [hh, eh90]
            exact C87.trans (CHv.at X90 hZ hEL C87.1)
          refine own_ret (t := T90.setFrames fs) ?_ ⟨_, hrun, hended, _, _, rfl, ?_, hCf, hRW.1, hRW.2.1, hRW.2.2.1, hRW.2.2.2.mono (by decide) (by decide)⟩
          · exact retN X90 hx (t := .boolean) Bd.returns (by simp) (hb hby at_128) hr
          · show Q_rm0 Z p1 p2 p3 zc h0 n0 _ T90.heap _
            rw [eh90]
            exact ⟨rfl, N90, trivial⟩
        · refine own_icmpYes Y0.here hx hby (pc' := 98) at_85 (feq hc85_84).2 (by decide) (by decide) ?_
          refine own_newO Y0 hx hZ hown (own_w hw 0 rfl) (own_w hw 1 rfl) (own_w hw 2 rfl) e0 hby at_98 (by decide) (by decide) ?_
          intro T92 h92 b92 X92 e92 E92 g92 A92 D92 lt92
          have z93 : h0.size ≤ h92.size := E92.1
          have C94 := C0.trans (CHr.ext E92 C0.1)
          have F95 : Fld Z h92 b92 "java/lang/String" "value" "[B" .null := D92 (Or.inr (own_w hw 16 rfl)) (ty := (.array .byte)) (by decide)
          have F96 : Fld Z h92 b92 "java/lang/String" "coder" "B" (.int 0) := D92 (Or.inr (own_w hw 17 rfl)) (ty := .byte) (by decide)
          refine own_dup X92.here hx hby at_101 rfl ?_
          refine own_iconst X92.here hx hby at_102 (v := (2 : Int32)) (by decide) ?_
          refine own_newP X92 hx hZ (aty := .char) (own_w hw 3 rfl) e92 hby at_103 (by decide) 2 (by decide) (by decide) (by decide) (by decide) (ad := "[C") (by decide) ?_
          intro T97 h97 k97 b97 X97 e97 E97 g97 V97 C97 lt97
          have z98 : h92.size ≤ h97.size := E97.1
          have C99 := C94.trans (CHr.ext E97 C94.1)
          have V100 : Arv Z h97 b97 k97 .char (2 : Int32) [(.int 0), (.int 0)] (.int 0) := V97.pad (pad_rep [] (.int 0) 2)
          refine own_dup X97.here hx hby at_105 rfl ?_
          refine own_iconst X97.here hx hby at_106 (v := (0 : Int32)) (by decide) ?_
          refine own_iload X97.here hx hby at_107 rfl ?_
          refine own_castore X97 hx hZ e97 V100 ⟨by decide, by decide⟩ 0 (by decide) (Nat.le_of_ble_eq_true rfl) (w := (.int (p2 &&& (255 : Int32)))) (congrArg Value.int (i2c_mask p2)) hby at_109 N0 (by omega) ?_
          intro T101 h101 lo101 X101 e101 N101 W101 V101 z101
          have V102 : Arv Z h101 b97 k97 .char (2 : Int32) [(.int (p2 &&& (255 : Int32))), (.int 0)] (.int 0) := V101
          have C103 := C99.trans (CHr.wr W101 (Safe.exa hZ.alike C97 (by decide) (by decide)) C99.1)
          refine own_dup X101.here hx hby at_110 rfl ?_
          refine own_iconst X101.here hx hby at_111 (v := (1 : Int32)) (by decide) ?_
          refine own_iload X101.here hx hby at_112 rfl ?_
          refine own_castore X101 hx hZ e101 V102 ⟨by decide, by decide⟩ 1 (by decide) (Nat.le_of_ble_eq_true rfl) (w := (.int (p3 &&& (255 : Int32)))) (congrArg Value.int (i2c_mask p3)) hby at_114 N101 (by omega) ?_
          intro T104 h104 lo104 X104 e104 N104 W104 V104 z104
          have V105 : Arv Z h104 b97 k97 .char (2 : Int32) [(.int (p2 &&& (255 : Int32))), (.int (p3 &&& (255 : Int32)))] (.int 0) := V104
          have f106 : Exa Z h101 b97 "[C" := (C97.wr W101)
          have C107 := C103.trans (CHr.wr W104 (Safe.exa hZ.alike f106 (by decide) (by decide)) C103.1)
          have f108 : Exa Z h104 b92 "java/lang/String" := (((A92.ext E97).wr W101).wr W104)
          have f109 : Fld Z h104 b92 "java/lang/String" "value" "[B" .null := (((F95.ext E97).other W101 (Or.inl (own_nn (by omega)))).other W104 (Or.inl (own_nn (by omega))))
          have f110 : Fld Z h104 b92 "java/lang/String" "coder" "B" (.int 0) := (((F96.ext E97).other W101 (Or.inl (own_nn (by omega)))).other W104 (Or.inl (own_nn (by omega))))
          have f111 : Sta Z h104 "java/lang/String" "COMPACT_STRINGS" "Z" (.int zc) := ((((S_COMPACT.ext E92).ext E97).wr W101).wr W104)
          have z113 : n0 ≤ h104.size := by omega
          have hws_words : ∀ d ∈ StrChars.Road.words, d.before a0 Z = true := fun d hd => hw d ((by decide +kernel : ∀ d ∈ StrChars.Road.words, d ∈ tables_1) d hd)
          refine own_specialB X104 hx hZ rfl hown (own_w hw 4 rfl) (own_w hw 5 rfl) (own_w hw 6 rfl) (by decide) (StrChars.Road.backV (W := 1) hZ hws_words (kI := 4) (own_w hw 1 rfl) (cs := ([(p2 &&& (255 : Int32)), (p3 &&& (255 : Int32))] : List Int32)) (bs := ([(p2 &&& (255 : Int32)), (p3 &&& (255 : Int32))] : List Int32).map (fun c => c.toInt8.toInt32)) (n := 2) (by omega) z113 f108 f109 f110 V105 f111 hz rfl rfl (by decide) (by decide) (own_lS (own_c255 p2) (own_lS (own_c255 p3) own_l0)) rfl (by decide) (by decide)) (Nat.le_of_eq rfl) (by rw [hml]; rfl) (argsL := [(.ref b97)]) (st := [(.ref b92)]) (a := b92) (lenOf pd_4 rfl) rfl rfl (by decide) (by decide) e104 hby at_115 ?_
          intro T112 v112 L112 X112 hQ112
          obtain ⟨rfl, Nq112, K112, P112_0, P112_1, t_112, kb_112, P112_2, P112_3, P112_4, P112_5, P112_6⟩ := hQ112
          have N112 := Fr.app N104 Nq112
          have z114 : h104.size ≤ T112.heap.size := K112.1
          have C115 := C107.trans (CHr.keep K112 (sfS (own_safe_null hZ.alike f108 f109) sf0) C107.1)
          have lt116 : T112.heap.size > b92 := P112_0.lt
          have lt117 : T112.heap.size > t_112 := P112_6.lt
          refine own_sh (T := T112) 118 #[.val (.int p1), .val (.int p2), .val (.int p3), .val (.int 0), .val (.int 1), .val (.int (p2 &&& (255 : Int32))), .val (.int (p3 &&& (255 : Int32))), .val (.int (((p1.toUInt32 >>> ((2 : Int32) &&& 31).toUInt32).toInt32) &&& (3 : Int32))), .unset] [(.ref b92)] ?_
          refine own_astore X112.here hx hby at_118 rfl (l' := #[.val (.int p1), .val (.int p2), .val (.int p3), .val (.int 0), .val (.int 1), .val (.int (p2 &&& (255 : Int32))), .val (.int (p3 &&& (255 : Int32))), .val (.int (((p1.toUInt32 >>> ((2 : Int32) &&& 31).toUInt32).toInt32) &&& (3 : Int32))), .val (.ref b92)]) rfl ?_
          refine own_aload X112.here hx hby at_120 rfl rfl ?_
          refine own_iload X112.here hx hby at_122 rfl ?_
          have z119 : n0 ≤ T112.heap.size := by omega
          refine own_callS X112 hx hZ hown (own_w hw 22 rfl) (own_w hw 23 rfl) (own_w hw 24 rfl) (own_w hw 25 rfl) (by decide) (ref_s1 l Z a0 hw [] b92 T112.heap n0 z119 ) 0 (Nat.le_of_eq rfl) (by decide) (by decide) (by rw [hml]; rfl) (argsL := [(.ref b92), (.int 1)]) (st := []) (lenOf pd_5 rfl) rfl rfl (by decide) (by decide) rfl hby at_124 ?_
          intro T118 v118 L118 X118 hQ118
          obtain ⟨rfl, Nq118, eh118⟩ := hQ118
          have N118 := Fr.app N112 Nq118
          refine own_sh (T := T118) 127 #[.val (.int p1), .val (.int p2), .val (.int p3), .val (.int 0), .val (.int 1), .val (.int (p2 &&& (255 : Int32))), .val (.int (p3 &&& (255 : Int32))), .val (.int (((p1.toUInt32 >>> ((2 : Int32) &&& 31).toUInt32).toInt32) &&& (3 : Int32))), .val (.ref b92)] [] ?_
          refine own_iconst X118.here hx hby at_127 (v := (1 : Int32)) (by decide) ?_
          obtain ⟨fs, hr, hrun, hended, hRW⟩ := X118.leaveW hS0 (by rw [eh118]; omega) (v := some (.int 1)) (fun h => by rw [Bd.returns] at h; cases h)
          have hCf : CHr Z consts_1 s.vm s.heap T118.vm T118.heap := by
            rw [hh, eh118]
            exact C115.trans (CHv.at X118 hZ hEL C115.1)
          refine own_ret (t := T118.setFrames fs) ?_ ⟨_, hrun, hended, _, _, rfl, ?_, hCf, hRW.1, hRW.2.1, hRW.2.2.1, hRW.2.2.2.mono (by decide) (by decide)⟩
          · exact retN X118 hx (t := .boolean) Bd.returns (by simp) (hb hby at_128) hr
          · show Q_rm0 Z p1 p2 p3 zc h0 n0 _ T118.heap _
            rw [eh118]
            exact ⟨rfl, N118, trivial⟩
  · refine own_ifNo Y0.here hx hby at_3 ((if0 _ _).trans (feq hc3_4).1) ?_
    refine own_iconst Y0.here hx hby at_6 (v := (1 : Int32)) (by decide) ?_
    refine own_goto Y0.here hx hby (pc' := 11) at_7 (by decide) (by decide) ?_
    refine own_istoreN Y0.here hx hby at_11 (l' := #[.val (.int p1), .val (.int p2), .val (.int p3), .val (.int 1), .unset, .unset, .unset, .unset, .unset]) rfl ?_
    refine own_iloadN Y0.here hx hby at_12 rfl ?_
    refine own_iconst Y0.here hx hby at_13 (v := (2 : Int32)) (by decide) ?_
    refine own_iand Y0.here hx hby at_14 rfl ?_
    by_cases hc15_120 : (p1 &&& (2 : Int32)) = (0 : Int32)
    · refine own_ifYes Y0.here hx hby (pc' := 26) at_15 ((if0 _ _).trans (teq hc15_120).1) (by decide) (by decide) ?_
      refine own_iconst Y0.here hx hby at_26 (v := (0 : Int32)) (by decide) ?_
      refine own_istore Y0.here hx hby at_27 (l' := #[.val (.int p1), .val (.int p2), .val (.int p3), .val (.int 1), .val (.int 0), .unset, .unset, .unset, .unset]) rfl ?_
      refine own_iloadN Y0.here hx hby at_29 rfl ?_
      refine own_sipush Y0.here hx hby at_30 (v := (255 : Int32)) (by decide) ?_
      refine own_iand Y0.here hx hby at_33 rfl ?_
      refine own_i2c Y0.here hx hby at_34 rfl ?_
      refine own_sh (T := s₁) 35 #[.val (.int p1), .val (.int p2), .val (.int p3), .val (.int 1), .val (.int 0), .unset, .unset, .unset, .unset] [(.int ((p2 &&& (255 : Int32)).toUInt32.toUInt16.toUInt32.toInt32))] ?_
      rw [show ((p2 &&& (255 : Int32)).toUInt32.toUInt16.toUInt32.toInt32) = (p2 &&& (255 : Int32)) from (i2c_mask p2)]
      refine own_istore Y0.here hx hby at_35 (l' := #[.val (.int p1), .val (.int p2), .val (.int p3), .val (.int 1), .val (.int 0), .val (.int (p2 &&& (255 : Int32))), .unset, .unset, .unset]) rfl ?_
      refine own_iloadN Y0.here hx hby at_37 rfl ?_
      refine own_sipush Y0.here hx hby at_38 (v := (255 : Int32)) (by decide) ?_
      refine own_iand Y0.here hx hby at_41 rfl ?_
      refine own_i2c Y0.here hx hby at_42 rfl ?_
      refine own_sh (T := s₁) 43 #[.val (.int p1), .val (.int p2), .val (.int p3), .val (.int 1), .val (.int 0), .val (.int (p2 &&& (255 : Int32))), .unset, .unset, .unset] [(.int ((p3 &&& (255 : Int32)).toUInt32.toUInt16.toUInt32.toInt32))] ?_
      rw [show ((p3 &&& (255 : Int32)).toUInt32.toUInt16.toUInt32.toInt32) = (p3 &&& (255 : Int32)) from (i2c_mask p3)]
      refine own_istore Y0.here hx hby at_43 (l' := #[.val (.int p1), .val (.int p2), .val (.int p3), .val (.int 1), .val (.int 0), .val (.int (p2 &&& (255 : Int32))), .val (.int (p3 &&& (255 : Int32))), .unset, .unset]) rfl ?_
      refine own_iloadN Y0.here hx hby at_45 rfl ?_
      refine own_iconst Y0.here hx hby at_46 (v := (2 : Int32)) (by decide) ?_
      refine own_iushr Y0.here hx hby at_47 rfl ?_
      refine own_iconst Y0.here hx hby at_48 (v := (3 : Int32)) (by decide) ?_
      refine own_iand Y0.here hx hby at_49 rfl ?_
      refine own_istore Y0.here hx hby at_50 (l' := #[.val (.int p1), .val (.int p2), .val (.int p3), .val (.int 1), .val (.int 0), .val (.int (p2 &&& (255 : Int32))), .val (.int (p3 &&& (255 : Int32))), .val (.int (((p1.toUInt32 >>> ((2 : Int32) &&& 31).toUInt32).toInt32) &&& (3 : Int32))), .unset]) rfl ?_
      refine own_iloadN Y0.here hx hby at_52 rfl ?_
      refine own_ifNo Y0.here hx hby at_53 ((if0 _ _).trans (feq (show ¬ ((1 : Int32) = (0 : Int32)) from (by decide))).1) ?_
      refine own_aconstNull Y0.here hx hby at_56 ?_
      refine own_astore Y0.here hx hby at_57 rfl (l' := #[.val (.int p1), .val (.int p2), .val (.int p3), .val (.int 1), .val (.int 0), .val (.int (p2 &&& (255 : Int32))), .val (.int (p3 &&& (255 : Int32))), .val (.int (((p1.toUInt32 >>> ((2 : Int32) &&& 31).toUInt32).toInt32) &&& (3 : Int32))), .val .null]) rfl ?_
      refine own_goto Y0.here hx hby (pc' := 120) at_59 (by decide) (by decide) ?_
      refine own_aload Y0.here hx hby at_120 rfl rfl ?_
      refine own_iload Y0.here hx hby at_122 rfl ?_
      refine own_callS Y0 hx hZ hown (own_w hw 22 rfl) (own_w hw 23 rfl) (own_w hw 24 rfl) (own_w hw 25 rfl) (by decide) (ref_n0 l Z a0 hw []  h0 n0 Z0 ) 0 (Nat.le_of_eq rfl) (by decide) (by decide) (by rw [hml]; rfl) (argsL := [.null, (.int 0)]) (st := []) (lenOf pd_5 rfl) rfl rfl (by decide) (by decide) e0 hby at_124 ?_
      intro T121 v121 L121 X121 hQ121
      obtain ⟨rfl, Nq121, eh121⟩ := hQ121
      have N121 := Fr.app N0 Nq121
      refine own_sh (T := T121) 127 #[.val (.int p1), .val (.int p2), .val (.int p3), .val (.int 1), .val (.int 0), .val (.int (p2 &&& (255 : Int32))), .val (.int (p3 &&& (255 : Int32))), .val (.int (((p1.toUInt32 >>> ((2 : Int32) &&& 31).toUInt32).toInt32) &&& (3 : Int32))), .val .null] [] ?_
      refine own_iconst X121.here hx hby at_127 (v := (1 : Int32)) (by decide) ?_
      obtain ⟨fs, hr, hrun, hended, hRW⟩ := X121.leaveW hS0 (by rw [eh121]; omega) (v := some (.int 1)) (fun h => by rw [Bd.returns] at h; cases h)
      have hCf : CHr Z consts_1 s.vm s.heap T121.vm T121.heap := by
        rw [hh, eh121]
        exact C0.trans (CHv.at X121 hZ hEL C0.1)
      refine own_ret (t := T121.setFrames fs) ?_ ⟨_, hrun, hended, _, _, rfl, ?_, hCf, hRW.1, hRW.2.1, hRW.2.2.1, hRW.2.2.2.mono (by decide) (by decide)⟩
      · exact retN X121 hx (t := .boolean) Bd.returns (by simp) (hb hby at_128) hr
      · show Q_rm0 Z p1 p2 p3 zc h0 n0 _ T121.heap _
        rw [eh121]
        exact ⟨rfl, N121, trivial⟩
    · refine own_ifNo Y0.here hx hby at_15 ((if0 _ _).trans (feq hc15_120).1) ?_
      refine own_iloadN Y0.here hx hby at_18 rfl ?_
      refine own_ifYes Y0.here hx hby (pc' := 26) at_19 ((if0 _ _).trans (feq (show ¬ ((1 : Int32) = (0 : Int32)) from (by decide))).2) (by decide) (by decide) ?_
      refine own_iconst Y0.here hx hby at_26 (v := (0 : Int32)) (by decide) ?_
      refine own_istore Y0.here hx hby at_27 (l' := #[.val (.int p1), .val (.int p2), .val (.int p3), .val (.int 1), .val (.int 0), .unset, .unset, .unset, .unset]) rfl ?_
      refine own_iloadN Y0.here hx hby at_29 rfl ?_
      refine own_sipush Y0.here hx hby at_30 (v := (255 : Int32)) (by decide) ?_
      refine own_iand Y0.here hx hby at_33 rfl ?_
      refine own_i2c Y0.here hx hby at_34 rfl ?_
      refine own_sh (T := s₁) 35 #[.val (.int p1), .val (.int p2), .val (.int p3), .val (.int 1), .val (.int 0), .unset, .unset, .unset, .unset] [(.int ((p2 &&& (255 : Int32)).toUInt32.toUInt16.toUInt32.toInt32))] ?_
      rw [show ((p2 &&& (255 : Int32)).toUInt32.toUInt16.toUInt32.toInt32) = (p2 &&& (255 : Int32)) from (i2c_mask p2)]
      refine own_istore Y0.here hx hby at_35 (l' := #[.val (.int p1), .val (.int p2), .val (.int p3), .val (.int 1), .val (.int 0), .val (.int (p2 &&& (255 : Int32))), .unset, .unset, .unset]) rfl ?_
      refine own_iloadN Y0.here hx hby at_37 rfl ?_
      refine own_sipush Y0.here hx hby at_38 (v := (255 : Int32)) (by decide) ?_
      refine own_iand Y0.here hx hby at_41 rfl ?_
      refine own_i2c Y0.here hx hby at_42 rfl ?_
      refine own_sh (T := s₁) 43 #[.val (.int p1), .val (.int p2), .val (.int p3), .val (.int 1), .val (.int 0), .val (.int (p2 &&& (255 : Int32))), .unset, .unset, .unset] [(.int ((p3 &&& (255 : Int32)).toUInt32.toUInt16.toUInt32.toInt32))] ?_
      rw [show ((p3 &&& (255 : Int32)).toUInt32.toUInt16.toUInt32.toInt32) = (p3 &&& (255 : Int32)) from (i2c_mask p3)]
      refine own_istore Y0.here hx hby at_43 (l' := #[.val (.int p1), .val (.int p2), .val (.int p3), .val (.int 1), .val (.int 0), .val (.int (p2 &&& (255 : Int32))), .val (.int (p3 &&& (255 : Int32))), .unset, .unset]) rfl ?_
      refine own_iloadN Y0.here hx hby at_45 rfl ?_
      refine own_iconst Y0.here hx hby at_46 (v := (2 : Int32)) (by decide) ?_
      refine own_iushr Y0.here hx hby at_47 rfl ?_
      refine own_iconst Y0.here hx hby at_48 (v := (3 : Int32)) (by decide) ?_
      refine own_iand Y0.here hx hby at_49 rfl ?_
      refine own_istore Y0.here hx hby at_50 (l' := #[.val (.int p1), .val (.int p2), .val (.int p3), .val (.int 1), .val (.int 0), .val (.int (p2 &&& (255 : Int32))), .val (.int (p3 &&& (255 : Int32))), .val (.int (((p1.toUInt32 >>> ((2 : Int32) &&& 31).toUInt32).toInt32) &&& (3 : Int32))), .unset]) rfl ?_
      refine own_iloadN Y0.here hx hby at_52 rfl ?_
      refine own_ifNo Y0.here hx hby at_53 ((if0 _ _).trans (feq (show ¬ ((1 : Int32) = (0 : Int32)) from (by decide))).1) ?_
      refine own_aconstNull Y0.here hx hby at_56 ?_
      refine own_astore Y0.here hx hby at_57 rfl (l' := #[.val (.int p1), .val (.int p2), .val (.int p3), .val (.int 1), .val (.int 0), .val (.int (p2 &&& (255 : Int32))), .val (.int (p3 &&& (255 : Int32))), .val (.int (((p1.toUInt32 >>> ((2 : Int32) &&& 31).toUInt32).toInt32) &&& (3 : Int32))), .val .null]) rfl ?_
      refine own_goto Y0.here hx hby (pc' := 120) at_59 (by decide) (by decide) ?_
      refine own_aload Y0.here hx hby at_120 rfl rfl ?_
      refine own_iload Y0.here hx hby at_122 rfl ?_
      refine own_callS Y0 hx hZ hown (own_w hw 22 rfl) (own_w hw 23 rfl) (own_w hw 24 rfl) (own_w hw 25 rfl) (by decide) (ref_n0 l Z a0 hw []  h0 n0 Z0 ) 0 (Nat.le_of_eq rfl) (by decide) (by decide) (by rw [hml]; rfl) (argsL := [.null, (.int 0)]) (st := []) (lenOf pd_5 rfl) rfl rfl (by decide) (by decide) e0 hby at_124 ?_
      intro T122 v122 L122 X122 hQ122
      obtain ⟨rfl, Nq122, eh122⟩ := hQ122
      have N122 := Fr.app N0 Nq122
      refine own_sh (T := T122) 127 #[.val (.int p1), .val (.int p2), .val (.int p3), .val (.int 1), .val (.int 0), .val (.int (p2 &&& (255 : Int32))), .val (.int (p3 &&& (255 : Int32))), .val (.int (((p1.toUInt32 >>> ((2 : Int32) &&& 31).toUInt32).toInt32) &&& (3 : Int32))), .val .null] [] ?_
      refine own_iconst X122.here hx hby at_127 (v := (1 : Int32)) (by decide) ?_
      obtain ⟨fs, hr, hrun, hended, hRW⟩ := X122.leaveW hS0 (by rw [eh122]; omega) (v := some (.int 1)) (fun h => by rw [Bd.returns] at h; cases h)
      have hCf : CHr Z consts_1 s.vm s.heap T122.vm T122.heap := by
        rw [hh, eh122]
        exact C0.trans (CHv.at X122 hZ hEL C0.1)
      refine own_ret (t := T122.setFrames fs) ?_ ⟨_, hrun, hended, _, _, rfl, ?_, hCf, hRW.1, hRW.2.1, hRW.2.2.1, hRW.2.2.2.mono (by decide) (by decide)⟩
      · exact retN X122 hx (t := .boolean) Bd.returns (by simp) (hb hby at_128) hr
      · show Q_rm0 Z p1 p2 p3 zc h0 n0 _ T122.heap _
        rw [eh122]
        exact ⟨rfl, N122, trivial⟩
set_option maxRecDepth 65536 in
set_option maxHeartbeats 40000000 in
theorem comes_1 {Post : Tables → Env → Array Value → State → Outcome → State → Prop} (hpost : ∀ tb e args s v u, (limb_1_1.after args s (.returned v) u = true ∧ limb_1_2.after args s (.returned v) u = true ∧ True) → ReturnedEndW s (.returned v) u (Jvm.fieldLocs frame_1_writes args s ++ Jvm.arrayLocs frame_1_arrays args s ++ Jvm.staticLocs frame_1_statics s) 16 1152 → Post tb e args s (.returned v) u) :
    ArmFor flags0 classFile x code maxLocals ret World_1 tables_1 room_1 Calls_1 rest_1 Pre_1 Post := by
  intro l hfl _ _ p e ha hc hk s m args below hf hA hF happ hP
  obtain ⟨hcalls, hrest, hpre⟩ := hP
  obtain ⟨-, -, -, hnamed, -, -, -, hat⟩ := (Spec.applies_iff hf).mp happ
  obtain ⟨hg, hn⟩ := and_e (Cond.before_iff.mp (show (Jvm.Cond.and given_1 narrow_1).before args s = true from hpre))
  obtain ⟨g1, g2⟩ := and_e hg
  obtain ⟨g3, g4⟩ := and_e g2
  obtain ⟨g5, g6⟩ := and_e g4
  obtain ⟨w0, w1, w2, rfl⟩ : ∃ w0 w1 w2 : Value, args = #[w0, w1, w2] := by
    have hs : args.size = 3 := by simpa [Cond.value, given_1] using g1
    obtain ⟨L⟩ := args
    match L, hs with
    | [w0, w1, w2], _ => exact ⟨w0, w1, w2, rfl⟩
  have hw := fun d (hd : d ∈ tables_1) => atoms_spec (ws := Jvm.Cond.code x code maxLocals ret :: tables_1) hat d (List.mem_cons_of_mem _ hd)
  have hfit : Fit s := fun {y c} hc i hi => by
    obtain ⟨ha, rfl⟩ := Array.getElem?_eq_some_iff.mp hc
    have q := List.all_eq_true.mp ((Array.all_eq_true_iff_forall_mem.mp hF) _ (Array.getElem_mem ha)) i (List.mem_range.mpr hi)
    simpa [Array.getElem?_eq_getElem hi] using q
  obtain ⟨hsets, hown0⟩ := atoms_of _ (rest_1_c_eq ▸ (show rest_1_c.before _ s = true from hrest))
  have hr0 := Cond.before_iff.mp hown0
  obtain ⟨i0, ei0⟩ := is_v g3
  obtain rfl : w0 = (.int i0) := Option.some.inj ei0
  obtain ⟨i1, ei1⟩ := is_v g5
  obtain rfl : w1 = (.int i1) := Option.some.inj ei1
  obtain ⟨i2, ei2⟩ := is_v g6
  obtain rfl : w2 = (.int i2) := Option.some.inj ei2
  have hCS := Cond.before_iff.mp (hsets _ (List.mem_of_getElem? (i := 1) rfl))
  obtain ⟨zC, evC⟩ := is_v hCS
  have StC := Sta.start evC (Or.inl (hsets _ (List.mem_of_getElem? (i := 0) rfl)))
  have hzC : ¬ (zC = (0 : Int32)) := fun e => by
    have q := not_v (Cond.before_iff.mp (hsets _ (List.mem_of_getElem? (i := 2) rfl)))
    have r := eq_i evC (Term.int_eval (0)) (by rw [e])
    exact absurd (q.symm.trans r) (by decide)
  have CHs : CHv s consts_1 s.vm s.heap := CHv.start (own_EW hw) (fun p hp => hcalls.1 p hp) (hsets _ (List.mem_of_getElem? (i := 2) rfl)) (own_w hw 15 rfl) (own_w hw 1 rfl)
  obtain ⟨n, o, h1, h2, h3, _, L, rfl, ⟨rfl, N, -⟩, -, hq⟩ := rm0 l s _ hw tables_1 i0 i1 i2 zC s.heap s.heap.size (Nat.le_refl _) StC hzC p e ha hc hk s m _ below hf ((Spec.applies_iff_loose hf).mp happ).1 ⟨rfl, State.Warmed39.refl s, rfl, CHs⟩ trivial
  refine ⟨n, _, h1, h2, h3, hpost _ _ _ _ _ _ ⟨Cond.after_iff.mpr rfl, Cond.after_iff.mpr (eq_i res_at (Term.int_eval (1)) rfl), trivial⟩ ⟨hq.1, hq.2.1, hq.2.2.1, (hq.2.2.2.sift fun y hy => Or.inr (N y hy)).mono (by decide) (by decide)⟩⟩
theorem main_1_1 : Claimed_1_1 := comes_1 fun _ _ _ _ _ _ h hF => ⟨h.1, hF⟩
theorem main_1_2 : Claimed_1_2 := comes_1 fun _ _ _ _ _ _ h hF => ⟨h.2.1, hF⟩
end Jvm.Pilot.@@N@@
namespace Jvm.Pilot.@@N@@
open Jvm Jvm.ClassFile Sem Op Lib Jvm.Free Jvm.Stand Jvm.Pilot.@@N@@.Jvm.D
/-! MADE BY PROGRAM (witnessworld.py) out of the Statement's table words and the real class files: 21 classes; the members and pool entries that the words name. The judged class is class 1, her method 1. -/
namespace start1
open Jvm.ClassFile
def u (s : String) : CpInfo := .utf8 (stringToUtf16 s)
/-- a pool by its gaps: so many unusable entries, then the entry; so many at the end -/
def gap : Nat → List CpInfo → List CpInfo
  | 0, r => r
  | n + 1, r => .unusable :: gap n r
def poolList (es : List (Nat × CpInfo)) (last : Nat) : List CpInfo := es.foldr (fun e r => gap e.1 (e.2 :: r)) (gap last [])
def pool (es : List (Nat × CpInfo)) (last : Nat) : Array CpInfo := ⟨poolList es last⟩
def fileOf (pool : Array CpInfo) (this : Nat) (attrs : Array Attribute := #[]) (ms : Array MethodInfo := #[]) (fl : Nat := 33) (sup : Nat := 0) (ifs : Array Nat := #[]) (fds : Array FieldInfo := #[]) : ClassFile where
  minorVersion := 0
  majorVersion := 65
  constantPool := pool
  accessFlags := fl
  thisClass := this
  superClass := sup
  interfaces := ifs
  fields := fds
  methods := ms
  attributes := attrs
def plain (name : String) (sup : Option ClassId) : Class where
  name := name
  kind := .ordinary
  loader := none
  accessFlags := 33
  super := sup
  interfaces := #[]
  cf := none
  fields := #[]
  methods := #[]
  instanceTypes := #[]
  staticTypes := #[]
  resolved := #[]
  callSites := []
  init := .initialized
  statics := none
  mirror := none

def pool0 : Array CpInfo := pool [(5, u "<init>"), (0, u "()V"), (1, .class_ 10), (1, u "java/lang/Object")] 113

def k0c0 : Code := { maxStack := 0, maxLocals := 1, code := object_method_1_code, exceptionTable := #[], attributes := #[] }
def k0m0 : Method := { name := "<init>", desc := "()V", sig := { parameters := [], returnType := none }, accessFlags := 1, code := some k0c0 }
/-- java/lang/Object -/
def k0 : Class := { plain "java/lang/Object" none with
  accessFlags := 33
  interfaces := #[]
  cf := some (fileOf pool0 8 #[] #[{ accessFlags := 1, nameIndex := 5, descriptorIndex := 6, attributes := #[] }] 33 0 #[] #[])
  fields := #[]
  methods := #[k0m0]
  instanceTypes := #[]
  staticTypes := #[]
  resolved := Array.replicate 124 none
  statics := none }

def pool1 : Array CpInfo := pool [(2, .class_ 4), (1, u "java/lang/Object"), (0, u "<init>"), (0, u "()V"), (0, .class_ 8), (0, u "java/lang/String"), (0, .methodref 7 10), (0, .nameAndType 5 11), (0, u "([C)V"), (0, .methodref 7 13), (0, .nameAndType 14 15), (0, u "valueOf"), (0, u "(C)Ljava/lang/String;"), (0, .methodref 17 18), (0, .class_ 19), (0, .nameAndType 20 21), (0, u "com/example/voucher_engine/voucherengine/model/CodeStanding"), (0, u "refuseRedeemedOutsideASet"), (0, u "(Ljava/lang/String;Z)V"), (0, .class_ 23), (0, u "com/example/voucher_engine/voucherengine/model/CodeStandingRefuseRedeemedOutsideASetPinLaw"), (2, u "law"), (0, u "(III)Z")] 3

def k1m0 : Method := { name := "<init>", desc := "()V", sig := { parameters := [], returnType := none }, accessFlags := 1, code := none }
def k1c1 : Code := { maxStack := 6, maxLocals := 9, code := code, exceptionTable := #[], attributes := #[] }
def k1m1 : Method := { name := "law", desc := "(III)Z", sig := { parameters := [.int, .int, .int], returnType := some .boolean }, accessFlags := 9, code := some k1c1 }
/-- com/example/voucher_engine/voucherengine/model/CodeStandingRefuseRedeemedOutsideASetPinLaw -/
def k1 : Class := { plain "com/example/voucher_engine/voucherengine/model/CodeStandingRefuseRedeemedOutsideASetPinLaw" (some 0) with
  accessFlags := 49
  interfaces := #[]
  cf := some (fileOf pool1 22 #[] #[{ accessFlags := 1, nameIndex := 5, descriptorIndex := 6, attributes := #[] }, { accessFlags := 9, nameIndex := 26, descriptorIndex := 27, attributes := #[] }] 49 2 #[] #[])
  fields := #[]
  methods := #[k1m0, k1m1]
  instanceTypes := #[]
  staticTypes := #[]
  resolved := Array.replicate 31 none
  statics := none }

def pool2 : Array CpInfo := pool [(1, .class_ 2), (0, u "java/io/Serializable"), (0, .class_ 4), (0, u "java/lang/Object")] 2

/-- java/io/Serializable -/
def k2 : Class := { plain "java/io/Serializable" (some 0) with
  accessFlags := 1537
  interfaces := #[]
  cf := some (fileOf pool2 1 #[] #[] 1537 3 #[] #[])
  fields := #[]
  methods := #[]
  instanceTypes := #[]
  staticTypes := #[]
  resolved := Array.replicate 7 none
  statics := none }

def pool3 : Array CpInfo := pool [(1, .class_ 2), (0, u "java/lang/Comparable"), (0, .class_ 4), (0, u "java/lang/Object")] 7

/-- java/lang/Comparable -/
def k3 : Class := { plain "java/lang/Comparable" (some 0) with
  accessFlags := 1537
  interfaces := #[]
  cf := some (fileOf pool3 1 #[] #[] 1537 3 #[] #[])
  fields := #[]
  methods := #[]
  instanceTypes := #[]
  staticTypes := #[]
  resolved := Array.replicate 12 none
  statics := none }

def pool4 : Array CpInfo := pool [(2, .class_ 4), (1, u "java/lang/CharSequence"), (42, .class_ 48), (0, u "java/lang/CharSequence$1CodePointIterator"), (10, .class_ 60), (0, u "java/lang/CharSequence$1CharIterator"), (5, .class_ 67), (0, u "java/lang/Object")] 63

/-- java/lang/CharSequence -/
def k4 : Class := { plain "java/lang/CharSequence" (some 0) with
  accessFlags := 1537
  interfaces := #[]
  cf := some (fileOf pool4 2 #[.nestMembers #[47, 59]] #[] 1537 66 #[] #[])
  fields := #[]
  methods := #[]
  instanceTypes := #[]
  staticTypes := #[]
  resolved := Array.replicate 131 none
  statics := none }

def pool5 : Array CpInfo := pool [(1, .class_ 2), (0, u "java/lang/constant/Constable"), (0, .class_ 4), (0, u "java/lang/Object")] 6

/-- java/lang/constant/Constable -/
def k5 : Class := { plain "java/lang/constant/Constable" (some 0) with
  accessFlags := 1537
  interfaces := #[]
  cf := some (fileOf pool5 1 #[] #[] 1537 3 #[] #[])
  fields := #[]
  methods := #[]
  instanceTypes := #[]
  staticTypes := #[]
  resolved := Array.replicate 11 none
  statics := none }

def pool6 : Array CpInfo := pool [(1, .class_ 2), (0, u "java/lang/constant/ConstantDesc"), (0, .class_ 4), (0, u "java/lang/Object")] 32

/-- java/lang/constant/ConstantDesc -/
def k6 : Class := { plain "java/lang/constant/ConstantDesc" (some 0) with
  accessFlags := 1537
  interfaces := #[]
  cf := some (fileOf pool6 1 #[] #[] 1537 3 #[] #[])
  fields := #[]
  methods := #[]
  instanceTypes := #[]
  staticTypes := #[]
  resolved := Array.replicate 37 none
  statics := none }

def pool7 : Array CpInfo := pool [(1, .methodref 2 3), (0, .class_ 4), (0, .nameAndType 5 6), (0, u "java/lang/Object"), (0, u "<init>"), (0, u "()V"), (0, .string 8), (0, u ""), (0, .fieldref 10 11), (0, .class_ 12), (0, .nameAndType 13 14), (0, u "java/lang/String"), (0, u "value"), (0, u "[B"), (0, .fieldref 10 16), (0, .nameAndType 17 18), (0, u "coder"), (0, u "B"), (2, u "hash"), (0, u "I"), (2, u "hashIsZero"), (0, u "Z"), (0, .methodref 10 28), (0, .nameAndType 5 29), (0, u "([CIILjava/lang/Void;)V"), (8, .fieldref 10 39), (0, .nameAndType 40 26), (0, u "COMPACT_STRINGS"), (1, .class_ 44), (1, u "java/lang/StringUTF16"), (0, u "compress"), (1, .methodref 42 48), (0, .nameAndType 49 50), (0, u "coderFromArrayLen"), (0, u "([BI)B"), (2, u "toBytes"), (53, .class_ 109), (1, u "java/lang/StringLatin1"), (67, .methodref 42 178), (0, .nameAndType 45 179), (0, u "([CII)[B"), (29, .methodref 10 210), (0, .nameAndType 5 211), (0, u "([BB)V"), (157, u "(C)Z"), (205, .class_ 576), (0, u "java/lang/CharSequence"), (22, u "CASE_INSENSITIVE_ORDER"), (0, u "Ljava/util/Comparator;"), (181, u "valueOf"), (0, u "(C)Ljava/lang/String;"), (226, u "([C)V"), (4, .methodref 107 1016), (0, .nameAndType 1017 369), (0, u "canEncode"), (0, .methodref 107 1019), (0, .nameAndType 53 1020), (0, u "(C)[B"), (80, u "serialPersistentFields"), (0, u "[Ljava/io/ObjectStreamField;"), (0, .class_ 1104), (0, u "java/lang/String$CaseInsensitiveComparator"), (1, .class_ 1107), (0, u "java/io/Serializable"), (0, .class_ 1109), (0, u "java/lang/Comparable"), (0, .class_ 1111), (0, u "java/lang/constant/Constable"), (0, .class_ 1113), (0, u "java/lang/constant/ConstantDesc"), (2, u "serialVersionUID"), (0, u "J"), (3, u "REPL"), (0, u "C"), (2, u "LATIN1"), (1, u "UTF16")] 323

def k7m0 : Method := { name := "<init>", desc := "()V", sig := { parameters := [], returnType := none }, accessFlags := 1, code := none }
def k7c1 : Code := { maxStack := 5, maxLocals := 2, code := jdk_42_method_3_code, exceptionTable := #[], attributes := #[] }
def k7m1 : Method := { name := "<init>", desc := "([C)V", sig := { parameters := [(.array .char)], returnType := none }, accessFlags := 1, code := some k7c1 }
def k7c2 : Code := { maxStack := 4, maxLocals := 1, code := jdk_42_method_139_code, exceptionTable := #[], attributes := #[] }
def k7m2 : Method := { name := "valueOf", desc := "(C)Ljava/lang/String;", sig := { parameters := [.char], returnType := some (.object "java/lang/String") }, accessFlags := 9, code := some k7c2 }
def k7c3 : Code := { maxStack := 4, maxLocals := 6, code := jdk_42_method_149_code, exceptionTable := #[], attributes := #[] }
def k7m3 : Method := { name := "<init>", desc := "([CIILjava/lang/Void;)V", sig := { parameters := [(.array .char), .int, .int, (.object "java/lang/Void")], returnType := none }, accessFlags := 2, code := some k7c3 }
def k7c4 : Code := { maxStack := 2, maxLocals := 3, code := jdk_42_method_151_code, exceptionTable := #[], attributes := #[] }
def k7m4 : Method := { name := "<init>", desc := "([BB)V", sig := { parameters := [(.array .byte), .byte], returnType := none }, accessFlags := 0, code := some k7c4 }
/-- java/lang/String -/
def k7 : Class := { plain "java/lang/String" (some 0) with
  accessFlags := 49
  interfaces := #[2, 3, 4, 5, 6]
  cf := some (fileOf pool7 10 #[.nestMembers #[1103]] #[{ accessFlags := 1, nameIndex := 5, descriptorIndex := 6, attributes := #[] }, { accessFlags := 1, nameIndex := 5, descriptorIndex := 1010, attributes := #[] }, { accessFlags := 9, nameIndex := 782, descriptorIndex := 783, attributes := #[] }, { accessFlags := 2, nameIndex := 5, descriptorIndex := 29, attributes := #[] }, { accessFlags := 0, nameIndex := 5, descriptorIndex := 211, attributes := #[] }] 49 2 #[1106, 1108, 575, 1110, 1112] #[{ accessFlags := 18, nameIndex := 13, descriptorIndex := 14, attributes := #[] }, { accessFlags := 18, nameIndex := 17, descriptorIndex := 18, attributes := #[] }, { accessFlags := 2, nameIndex := 21, descriptorIndex := 22, attributes := #[] }, { accessFlags := 2, nameIndex := 25, descriptorIndex := 26, attributes := #[] }, { accessFlags := 26, nameIndex := 1116, descriptorIndex := 1117, attributes := #[] }, { accessFlags := 24, nameIndex := 40, descriptorIndex := 26, attributes := #[] }, { accessFlags := 26, nameIndex := 1101, descriptorIndex := 1102, attributes := #[] }, { accessFlags := 26, nameIndex := 1121, descriptorIndex := 1122, attributes := #[] }, { accessFlags := 25, nameIndex := 599, descriptorIndex := 600, attributes := #[] }, { accessFlags := 24, nameIndex := 1125, descriptorIndex := 18, attributes := #[] }, { accessFlags := 24, nameIndex := 1127, descriptorIndex := 18, attributes := #[] }])
  fields := #[{ name := "value", type := (.array .byte), accessFlags := 18, slot := 0, constantValue := 0 }, { name := "coder", type := .byte, accessFlags := 18, slot := 1, constantValue := 0 }, { name := "hash", type := .int, accessFlags := 2, slot := 2, constantValue := 0 }, { name := "hashIsZero", type := .boolean, accessFlags := 2, slot := 3, constantValue := 0 }, { name := "serialVersionUID", type := .long, accessFlags := 26, slot := 0, constantValue := 0 }, { name := "COMPACT_STRINGS", type := .boolean, accessFlags := 24, slot := 1, constantValue := 0 }, { name := "serialPersistentFields", type := (.array (.object "java/io/ObjectStreamField")), accessFlags := 26, slot := 2, constantValue := 0 }, { name := "REPL", type := .char, accessFlags := 26, slot := 3, constantValue := 0 }, { name := "CASE_INSENSITIVE_ORDER", type := (.object "java/util/Comparator"), accessFlags := 25, slot := 4, constantValue := 0 }, { name := "LATIN1", type := .byte, accessFlags := 24, slot := 5, constantValue := 0 }, { name := "UTF16", type := .byte, accessFlags := 24, slot := 6, constantValue := 0 }]
  methods := #[k7m0, k7m1, k7m2, k7m3, k7m4]
  instanceTypes := #[(.array .byte), .byte, .int, .boolean]
  staticTypes := #[.long, .boolean, (.array (.object "java/io/ObjectStreamField")), .char, (.object "java/util/Comparator"), .byte, .byte]
  resolved := Array.replicate 1451 none
  statics := some 0 }

def pool8 : Array CpInfo := pool [(2, .class_ 4), (1, u "java/lang/Object"), (0, u "<init>"), (0, u "()V"), (0, .class_ 8), (0, u "java/lang/Record")] 13

def k8m0 : Method := { name := "<init>", desc := "()V", sig := { parameters := [], returnType := none }, accessFlags := 4, code := none }
/-- java/lang/Record -/
def k8 : Class := { plain "java/lang/Record" (some 0) with
  accessFlags := 1057
  interfaces := #[]
  cf := some (fileOf pool8 7 #[] #[{ accessFlags := 4, nameIndex := 5, descriptorIndex := 6, attributes := #[] }] 1057 2 #[] #[])
  fields := #[]
  methods := #[k8m0]
  instanceTypes := #[]
  staticTypes := #[]
  resolved := Array.replicate 22 none
  statics := none }

def pool9 : Array CpInfo := pool [(2, .class_ 4), (1, u "java/lang/Record"), (3, u "code"), (7, u "coupon"), (1, .class_ 20), (1, u "com/example/voucher_engine/voucherengine/model/CodeStanding"), (0, u "refuseRedeemedOutsideASet"), (0, u "(Ljava/lang/String;Z)V"), (2, u "Lcom/example/voucher_engine/voucherengine/model/Code;"), (2, u "Lcom/example/voucher_engine/voucherengine/model/CouponStanding;"), (2, u "couponSetId"), (0, u "Ljava/lang/String;"), (2, u "redeemed"), (0, u "Z")] 77

def k9c0 : Code := { maxStack := 3, maxLocals := 2, code := prog_5_method_2_code, exceptionTable := #[], attributes := #[] }
def k9m0 : Method := { name := "refuseRedeemedOutsideASet", desc := "(Ljava/lang/String;Z)V", sig := { parameters := [(.object "java/lang/String"), .boolean], returnType := none }, accessFlags := 8, code := some k9c0 }
/-- com/example/voucher_engine/voucherengine/model/CodeStanding -/
def k9 : Class := { plain "com/example/voucher_engine/voucherengine/model/CodeStanding" (some 8) with
  accessFlags := 49
  interfaces := #[]
  cf := some (fileOf pool9 18 #[] #[{ accessFlags := 8, nameIndex := 21, descriptorIndex := 22, attributes := #[] }] 49 2 #[] #[{ accessFlags := 18, nameIndex := 8, descriptorIndex := 25, attributes := #[] }, { accessFlags := 18, nameIndex := 16, descriptorIndex := 28, attributes := #[] }, { accessFlags := 18, nameIndex := 31, descriptorIndex := 32, attributes := #[] }, { accessFlags := 18, nameIndex := 35, descriptorIndex := 36, attributes := #[] }])
  fields := #[{ name := "code", type := (.object "com/example/voucher_engine/voucherengine/model/Code"), accessFlags := 18, slot := 0, constantValue := 0 }, { name := "coupon", type := (.object "com/example/voucher_engine/voucherengine/model/CouponStanding"), accessFlags := 18, slot := 1, constantValue := 0 }, { name := "couponSetId", type := (.object "java/lang/String"), accessFlags := 18, slot := 2, constantValue := 0 }, { name := "redeemed", type := .boolean, accessFlags := 18, slot := 3, constantValue := 0 }]
  methods := #[k9m0]
  instanceTypes := #[(.object "com/example/voucher_engine/voucherengine/model/Code"), (.object "com/example/voucher_engine/voucherengine/model/CouponStanding"), (.object "java/lang/String"), .boolean]
  staticTypes := #[]
  resolved := Array.replicate 114 none
  statics := none }

def pool10 : Array CpInfo := pool [(4, .class_ 6), (1, u "java/lang/Object"), (0, u "<init>"), (0, u "()V"), (5, .class_ 16), (1, u "java/lang/StringLatin1"), (73, u "canEncode"), (14, u "(C)Z"), (15, u "$assertionsDisabled"), (0, u "Z"), (98, .class_ 223), (1, u "java/lang/StringLatin1$LinesSpliterator"), (156, u "toBytes"), (1, u "(C)[B"), (7, .class_ 391), (0, u "java/lang/StringLatin1$CharsSpliterator")] 3

def k10m0 : Method := { name := "<init>", desc := "()V", sig := { parameters := [], returnType := none }, accessFlags := 0, code := none }
def k10c1 : Code := { maxStack := 2, maxLocals := 1, code := jdk_43_method_3_code, exceptionTable := #[], attributes := #[] }
def k10m1 : Method := { name := "canEncode", desc := "(C)Z", sig := { parameters := [.char], returnType := some .boolean }, accessFlags := 9, code := some k10c1 }
def k10c2 : Code := { maxStack := 4, maxLocals := 1, code := jdk_43_method_46_code, exceptionTable := #[], attributes := #[] }
def k10m2 : Method := { name := "toBytes", desc := "(C)[B", sig := { parameters := [.char], returnType := some (.array .byte) }, accessFlags := 9, code := some k10c2 }
/-- java/lang/StringLatin1 -/
def k10 : Class := { plain "java/lang/StringLatin1" (some 0) with
  accessFlags := 48
  interfaces := #[]
  cf := some (fileOf pool10 14 #[.nestMembers #[390, 221]] #[{ accessFlags := 0, nameIndex := 7, descriptorIndex := 8, attributes := #[] }, { accessFlags := 9, nameIndex := 90, descriptorIndex := 105, attributes := #[] }, { accessFlags := 9, nameIndex := 380, descriptorIndex := 382, attributes := #[] }] 48 4 #[] #[{ accessFlags := 4120, nameIndex := 121, descriptorIndex := 122, attributes := #[] }])
  fields := #[{ name := "$assertionsDisabled", type := .boolean, accessFlags := 4120, slot := 0, constantValue := 0 }]
  methods := #[k10m0, k10m1, k10m2]
  instanceTypes := #[]
  staticTypes := #[.boolean]
  resolved := Array.replicate 395 none
  statics := none }

def pool11 : Array CpInfo := pool [(6, .class_ 8), (1, u "java/lang/Object"), (0, u "<init>"), (0, u "()V"), (1, .class_ 14), (1, u "java/lang/StringUTF16"), (31, u "$assertionsDisabled"), (0, u "Z"), (13, u "HI_BYTE_SHIFT"), (0, u "I"), (2, u "LO_BYTE_SHIFT"), (49, .methodref 12 116), (0, .nameAndType 117 118), (0, u "compress"), (0, u "([CI[BII)I"), (3, u "([CII)[B"), (138, u "coderFromArrayLen"), (0, u "([BI)B"), (106, .class_ 371), (1, u "java/lang/StringUTF16$LinesSpliterator"), (58, u "MAX_LENGTH"), (196, .class_ 628), (0, u "java/lang/StringUTF16$CodePointsSpliterator"), (0, .class_ 630), (0, u "java/lang/StringUTF16$CharsSpliterator")] 4

def k11m0 : Method := { name := "<init>", desc := "()V", sig := { parameters := [], returnType := none }, accessFlags := 0, code := none }
def k11c1 : Code := { maxStack := 2, maxLocals := 2, code := jdk_52_method_15_code, exceptionTable := #[], attributes := #[] }
def k11m1 : Method := { name := "coderFromArrayLen", desc := "([BI)B", sig := { parameters := [(.array .byte), .int], returnType := some .byte }, accessFlags := 8, code := some k11c1 }
def k11c2 : Code := { maxStack := 5, maxLocals := 6, code := jdk_52_method_16_code, exceptionTable := #[], attributes := #[] }
def k11m2 : Method := { name := "compress", desc := "([CII)[B", sig := { parameters := [(.array .char), .int, .int], returnType := some (.array .byte) }, accessFlags := 9, code := some k11c2 }
def k11c3 : Code := { maxStack := 3, maxLocals := 7, code := jdk_52_method_21_code, exceptionTable := #[], attributes := #[] }
def k11m3 : Method := { name := "compress", desc := "([CI[BII)I", sig := { parameters := [(.array .char), .int, (.array .byte), .int, .int], returnType := some .int }, accessFlags := 9, code := some k11c3 }
/-- java/lang/StringUTF16 -/
def k11 : Class := { plain "java/lang/StringUTF16" (some 0) with
  accessFlags := 48
  interfaces := #[]
  cf := some (fileOf pool11 12 #[.nestMembers #[627, 629, 369]] #[{ accessFlags := 0, nameIndex := 9, descriptorIndex := 10, attributes := #[] }, { accessFlags := 8, nameIndex := 261, descriptorIndex := 262, attributes := #[] }, { accessFlags := 9, nameIndex := 117, descriptorIndex := 122, attributes := #[] }, { accessFlags := 9, nameIndex := 117, descriptorIndex := 118, attributes := #[] }] 48 6 #[] #[{ accessFlags := 26, nameIndex := 61, descriptorIndex := 62, attributes := #[] }, { accessFlags := 26, nameIndex := 65, descriptorIndex := 62, attributes := #[] }, { accessFlags := 24, nameIndex := 430, descriptorIndex := 62, attributes := #[] }, { accessFlags := 4120, nameIndex := 46, descriptorIndex := 47, attributes := #[] }])
  fields := #[{ name := "HI_BYTE_SHIFT", type := .int, accessFlags := 26, slot := 0, constantValue := 0 }, { name := "LO_BYTE_SHIFT", type := .int, accessFlags := 26, slot := 1, constantValue := 0 }, { name := "MAX_LENGTH", type := .int, accessFlags := 24, slot := 2, constantValue := 0 }, { name := "$assertionsDisabled", type := .boolean, accessFlags := 4120, slot := 3, constantValue := 0 }]
  methods := #[k11m0, k11m1, k11m2, k11m3]
  instanceTypes := #[]
  staticTypes := #[.int, .int, .int, .boolean]
  resolved := Array.replicate 635 none
  statics := none }

def pool12 : Array CpInfo := pool [(2, .class_ 4), (1, u "java/lang/Object"), (0, u "<init>"), (0, u "()V"), (17, .class_ 26), (1, u "jdk/internal/util/Preconditions"), (28, .class_ 56), (0, u "jdk/internal/util/Preconditions$4"), (57, .class_ 115), (0, u "jdk/internal/util/Preconditions$1"), (7, u "SIOOBE_FORMATTER"), (0, u "Ljava/util/function/BiFunction;"), (0, .class_ 126), (0, u "jdk/internal/util/Preconditions$2"), (3, u "AIOOBE_FORMATTER"), (0, .class_ 132), (0, u "jdk/internal/util/Preconditions$3"), (3, u "IOOBE_FORMATTER")] 57

def k12m0 : Method := { name := "<init>", desc := "()V", sig := { parameters := [], returnType := none }, accessFlags := 1, code := none }
/-- jdk/internal/util/Preconditions -/
def k12 : Class := { plain "jdk/internal/util/Preconditions" (some 0) with
  accessFlags := 33
  interfaces := #[]
  cf := some (fileOf pool12 24 #[.nestMembers #[55, 131, 125, 114]] #[{ accessFlags := 1, nameIndex := 5, descriptorIndex := 6, attributes := #[] }] 33 2 #[] #[{ accessFlags := 25, nameIndex := 123, descriptorIndex := 124, attributes := #[] }, { accessFlags := 25, nameIndex := 130, descriptorIndex := 124, attributes := #[] }, { accessFlags := 25, nameIndex := 136, descriptorIndex := 124, attributes := #[] }])
  fields := #[{ name := "SIOOBE_FORMATTER", type := (.object "java/util/function/BiFunction"), accessFlags := 25, slot := 0, constantValue := 0 }, { name := "AIOOBE_FORMATTER", type := (.object "java/util/function/BiFunction"), accessFlags := 25, slot := 1, constantValue := 0 }, { name := "IOOBE_FORMATTER", type := (.object "java/util/function/BiFunction"), accessFlags := 25, slot := 2, constantValue := 0 }]
  methods := #[k12m0]
  instanceTypes := #[]
  staticTypes := #[(.object "java/util/function/BiFunction"), (.object "java/util/function/BiFunction"), (.object "java/util/function/BiFunction")]
  resolved := Array.replicate 194 none
  statics := some 1 }

def pool13 : Array CpInfo := pool [(9, u "<init>"), (6, .class_ 18), (1, u "java/lang/Object"), (0, u "()V"), (1, .class_ 23), (1, u "jdk/internal/util/ArraysSupport"), (0, u "LOG2_ARRAY_LONG_INDEX_SCALE"), (0, u "I"), (2, u "U"), (0, u "Ljdk/internal/misc/Unsafe;"), (8, u "BIG_ENDIAN"), (0, u "Z"), (8, u "LOG2_BYTE_BIT_SIZE"), (4, u "LOG2_ARRAY_INT_INDEX_SCALE"), (54, u "JLA"), (0, u "Ljdk/internal/access/JavaLangAccess;"), (11, u "LOG2_ARRAY_BOOLEAN_INDEX_SCALE"), (9, u "LOG2_ARRAY_BYTE_INDEX_SCALE"), (5, u "LOG2_ARRAY_CHAR_INDEX_SCALE"), (5, u "LOG2_ARRAY_SHORT_INDEX_SCALE"), (18, u "LOG2_ARRAY_FLOAT_INDEX_SCALE"), (24, u "LOG2_ARRAY_DOUBLE_INDEX_SCALE"), (89, u "T_BOOLEAN"), (2, u "T_CHAR"), (1, u "T_FLOAT"), (1, u "T_DOUBLE"), (1, u "T_BYTE"), (1, u "T_SHORT"), (1, u "T_INT"), (1, u "T_LONG"), (1, u "SOFT_MAX_ARRAY_LENGTH")] 83

def k13m0 : Method := { name := "<init>", desc := "()V", sig := { parameters := [], returnType := none }, accessFlags := 2, code := none }
/-- jdk/internal/util/ArraysSupport -/
def k13 : Class := { plain "jdk/internal/util/ArraysSupport" (some 0) with
  accessFlags := 33
  interfaces := #[]
  cf := some (fileOf pool13 21 #[] #[{ accessFlags := 2, nameIndex := 9, descriptorIndex := 19, attributes := #[] }] 33 16 #[] #[{ accessFlags := 24, nameIndex := 28, descriptorIndex := 29, attributes := #[] }, { accessFlags := 26, nameIndex := 38, descriptorIndex := 39, attributes := #[] }, { accessFlags := 25, nameIndex := 121, descriptorIndex := 25, attributes := #[] }, { accessFlags := 25, nameIndex := 131, descriptorIndex := 25, attributes := #[] }, { accessFlags := 25, nameIndex := 137, descriptorIndex := 25, attributes := #[] }, { accessFlags := 25, nameIndex := 143, descriptorIndex := 25, attributes := #[] }, { accessFlags := 25, nameIndex := 53, descriptorIndex := 25, attributes := #[] }, { accessFlags := 25, nameIndex := 24, descriptorIndex := 25, attributes := #[] }, { accessFlags := 25, nameIndex := 162, descriptorIndex := 25, attributes := #[] }, { accessFlags := 25, nameIndex := 187, descriptorIndex := 25, attributes := #[] }, { accessFlags := 26, nameIndex := 48, descriptorIndex := 25, attributes := #[] }, { accessFlags := 25, nameIndex := 277, descriptorIndex := 25, attributes := #[] }, { accessFlags := 25, nameIndex := 280, descriptorIndex := 25, attributes := #[] }, { accessFlags := 25, nameIndex := 282, descriptorIndex := 25, attributes := #[] }, { accessFlags := 25, nameIndex := 284, descriptorIndex := 25, attributes := #[] }, { accessFlags := 25, nameIndex := 286, descriptorIndex := 25, attributes := #[] }, { accessFlags := 25, nameIndex := 288, descriptorIndex := 25, attributes := #[] }, { accessFlags := 25, nameIndex := 290, descriptorIndex := 25, attributes := #[] }, { accessFlags := 25, nameIndex := 292, descriptorIndex := 25, attributes := #[] }, { accessFlags := 26, nameIndex := 108, descriptorIndex := 109, attributes := #[] }, { accessFlags := 25, nameIndex := 294, descriptorIndex := 25, attributes := #[] }])
  fields := #[{ name := "U", type := (.object "jdk/internal/misc/Unsafe"), accessFlags := 24, slot := 0, constantValue := 0 }, { name := "BIG_ENDIAN", type := .boolean, accessFlags := 26, slot := 1, constantValue := 0 }, { name := "LOG2_ARRAY_BOOLEAN_INDEX_SCALE", type := .int, accessFlags := 25, slot := 2, constantValue := 0 }, { name := "LOG2_ARRAY_BYTE_INDEX_SCALE", type := .int, accessFlags := 25, slot := 3, constantValue := 0 }, { name := "LOG2_ARRAY_CHAR_INDEX_SCALE", type := .int, accessFlags := 25, slot := 4, constantValue := 0 }, { name := "LOG2_ARRAY_SHORT_INDEX_SCALE", type := .int, accessFlags := 25, slot := 5, constantValue := 0 }, { name := "LOG2_ARRAY_INT_INDEX_SCALE", type := .int, accessFlags := 25, slot := 6, constantValue := 0 }, { name := "LOG2_ARRAY_LONG_INDEX_SCALE", type := .int, accessFlags := 25, slot := 7, constantValue := 0 }, { name := "LOG2_ARRAY_FLOAT_INDEX_SCALE", type := .int, accessFlags := 25, slot := 8, constantValue := 0 }, { name := "LOG2_ARRAY_DOUBLE_INDEX_SCALE", type := .int, accessFlags := 25, slot := 9, constantValue := 0 }, { name := "LOG2_BYTE_BIT_SIZE", type := .int, accessFlags := 26, slot := 10, constantValue := 0 }, { name := "T_BOOLEAN", type := .int, accessFlags := 25, slot := 11, constantValue := 0 }, { name := "T_CHAR", type := .int, accessFlags := 25, slot := 12, constantValue := 0 }, { name := "T_FLOAT", type := .int, accessFlags := 25, slot := 13, constantValue := 0 }, { name := "T_DOUBLE", type := .int, accessFlags := 25, slot := 14, constantValue := 0 }, { name := "T_BYTE", type := .int, accessFlags := 25, slot := 15, constantValue := 0 }, { name := "T_SHORT", type := .int, accessFlags := 25, slot := 16, constantValue := 0 }, { name := "T_INT", type := .int, accessFlags := 25, slot := 17, constantValue := 0 }, { name := "T_LONG", type := .int, accessFlags := 25, slot := 18, constantValue := 0 }, { name := "JLA", type := (.object "jdk/internal/access/JavaLangAccess"), accessFlags := 26, slot := 19, constantValue := 0 }, { name := "SOFT_MAX_ARRAY_LENGTH", type := .int, accessFlags := 25, slot := 20, constantValue := 0 }]
  methods := #[k13m0]
  instanceTypes := #[]
  staticTypes := #[(.object "jdk/internal/misc/Unsafe"), .boolean, .int, .int, .int, .int, .int, .int, .int, .int, .int, .int, .int, .int, .int, .int, .int, .int, .int, (.object "jdk/internal/access/JavaLangAccess"), .int]
  resolved := Array.replicate 378 none
  statics := none }

def pool14 : Array CpInfo := pool [(1, u "java/lang/Cloneable"), (0, .class_ 1), (0, u "java/lang/Object"), (0, .class_ 3)] 3

/-- java/lang/Cloneable -/
def k14 : Class := { plain "java/lang/Cloneable" (some 0) with
  accessFlags := 1537
  interfaces := #[]
  cf := some (fileOf pool14 2 #[] #[] 1537 4 #[] #[])
  fields := #[]
  methods := #[]
  instanceTypes := #[]
  staticTypes := #[]
  resolved := Array.replicate 8 none
  statics := none }

/-- the primitive byte -/
def k15 : Class := { plain "byte" none with kind := .primitive 'B', accessFlags := 0x411 }
/-- [B -/
def k16 : Class := { plain "[B" (some 0) with kind := .array 15 .byte, interfaces := #[14, 2], accessFlags := 1041 }

/-- the primitive char -/
def k17 : Class := { plain "char" none with kind := .primitive 'C', accessFlags := 0x411 }
/-- [C -/
def k18 : Class := { plain "[C" (some 0) with kind := .array 17 .char, interfaces := #[14, 2], accessFlags := 1041 }

/-- the primitive int -/
def k19 : Class := { plain "int" none with kind := .primitive 'I', accessFlags := 0x411 }
/-- [I -/
def k20 : Class := { plain "[I" (some 0) with kind := .array 19 .int, interfaces := #[14, 2], accessFlags := 1041 }

def heap : Heap := #[{ cls := 7, slots := #[.long 0, .int 1, .null, .int 0, .null, .int 0, .int 0], vm := .statics 7 },
  { cls := 12, slots := #[.null, .null, .null], vm := .statics 12 }]
def classes : Array Class := #[k0, k1, k2, k3, k4, k5, k6, k7, k8, k9, k10, k11, k12, k13, k14, k15, k16, k17, k18, k19, k20]
def interned : List (Array UInt16 × Addr) := []
def slotsUsed : Nat := 10
def theMethod : MethodId := ⟨1, 1⟩
def args0 : Array Value := #[.int 1, .int 2, .int 3]
def aboutOver (below : List Frame) : State where
  vm := { classes := classes, interned := interned.toArray }
  heap := heap
  slotsUsed := slotsUsed
  threads := #[{ frames := .invoking theMethod args0 :: below }]
def below0 : List Frame := [.native { method := ⟨0, 0⟩, args := #[] }]
def about1 : State := aboutOver below0
def p0 : Program := .bare "" "" ""
def e0 : Env := launch0.env 0 0 0
theorem w_frames : about1.frames = Frame.invoking theMethod args0 :: below0 := rfl
set_option maxRecDepth 65536 in
theorem w_args : argsFit about1.vm theMethod args0 = true := by decide +kernel
set_option maxRecDepth 65536 in
theorem w_heap : heapFits about1 = true := by decide +kernel
set_option maxRecDepth 65536 in
theorem w_runnable : about1.curStatus? = some .runnable := by decide +kernel
set_option maxRecDepth 65536 in
theorem w_alone : about1.alone = true := by decide +kernel
set_option maxRecDepth 65536 in
theorem w_named : about1.methodNamed? x = some theMethod := by decide +kernel
set_option maxRecDepth 65536 in
theorem w_hears : about1.hears theMethod below0 = true := by decide +kernel
set_option maxRecDepth 65536 in
theorem w_ripe : about1.ripe theMethod args0 below0 = true := by decide +kernel
theorem w_running : about1.status = .running := rfl
set_option maxRecDepth 65536 in
theorem w_room : about1.hasRoom e0.platform room_1 = true :=
  launch0.hasRoom_least _ room_1 (by decide +kernel) (by decide +kernel) (by decide +kernel) (by decide +kernel) (by decide +kernel) (by decide +kernel)
theorem allAtoms_all (ts : List Jvm.Cond) (a : Array Jvm.Value) (st : Jvm.State) : (allAtoms ts).before a st = ts.all (fun c => c.before a st) := by
  induction ts with
  | nil => rfl
  | cons c t ih =>
    show (Jvm.Cond.and c (allAtoms t)).before a st = _
    rw [Jvm.Cond.before_and, ih, List.all_cons]
def words1 : List Jvm.Cond := Jvm.Cond.code x code maxLocals ret :: tables_1
/-- a 'code' word, met by the world's own term for the bytes: nothing is compared byte by byte -/
theorem code_word {y : MethodName} {bytes : ByteArray} {mx : Nat} {rt : Option FieldType} {a : Array Value} {s : State} {m : MethodId} {meth : Method} {c : Code} (h1 : s.methodNamed? y = some m) (h2 : s.vm.method? m = some meth) (h3 : meth.code = some c) (h4 : c.code = bytes)
    (h5 : (c.maxLocals == mx && c.exceptionTable.isEmpty && decide (c.maxStack ≤ mostOperands) && decide (meth.sig.returnType = rt) && !meth.locks && decide (parseMethodDescriptor y.desc = some meth.sig)) = true) : (Jvm.Cond.code y bytes mx rt).before a s = true := by
  simp only [Bool.and_eq_true, beq_iff_eq, Bool.not_eq_true', decide_eq_true_eq] at h5
  obtain ⟨⟨⟨⟨⟨g1, g2⟩, g3⟩, g4⟩, g5⟩, g6⟩ := h5
  simp [Cond.before, Cond.holds, Cond.value, h1, h2, h3, h4, g1, g2, g3, g4, g5, g6]
def isCode : Jvm.Cond → Bool
  | .code _ _ _ _ => true
  | _ => false
theorem all_split {L : List Jvm.Cond} {P : Jvm.Cond → Bool} (h1 : L.all (fun c => isCode c || P c) = true) (h2 : ∀ c ∈ L.filter isCode, P c = true) : L.all P = true := by
  refine List.all_eq_true.mpr fun c hc => ?_
  have h := List.all_eq_true.mp h1 c hc
  rcases Bool.eq_false_or_eq_true (isCode c) with hi | hi
  · exact h2 c (List.mem_filter.mpr ⟨hc, hi⟩)
  · simpa [hi] using h
set_option maxRecDepth 65536 in
theorem w_c0 : (Jvm.Cond.code x code maxLocals ret).before args0 about1 = true := code_word (m := ⟨1, 1⟩) (meth := k1m1) (c := k1c1) (by decide +kernel) rfl rfl rfl (by decide +kernel)
set_option maxRecDepth 65536 in
theorem w_c1 : (Jvm.Cond.code ({ cls := "java/lang/String", name := "<init>", desc := "([C)V" } : Jvm.MethodName) jdk_42_method_3_code (2 : Nat) (Option.none : Option Jvm.ClassFile.FieldType)).before args0 about1 = true := code_word (m := ⟨7, 1⟩) (meth := k7m1) (c := k7c1) (by decide +kernel) rfl rfl rfl (by decide +kernel)
set_option maxRecDepth 65536 in
theorem w_c2 : (Jvm.Cond.code ({ cls := "java/lang/String", name := "<init>", desc := "([CIILjava/lang/Void;)V" } : Jvm.MethodName) jdk_42_method_149_code (6 : Nat) (Option.none : Option Jvm.ClassFile.FieldType)).before args0 about1 = true := code_word (m := ⟨7, 3⟩) (meth := k7m3) (c := k7c3) (by decide +kernel) rfl rfl rfl (by decide +kernel)
set_option maxRecDepth 65536 in
theorem w_c3 : (Jvm.Cond.code ({ cls := "java/lang/Object", name := "<init>", desc := "()V" } : Jvm.MethodName) object_method_1_code (1 : Nat) (Option.none : Option Jvm.ClassFile.FieldType)).before args0 about1 = true := code_word (m := ⟨0, 0⟩) (meth := k0m0) (c := k0c0) (by decide +kernel) rfl rfl rfl (by decide +kernel)
set_option maxRecDepth 65536 in
theorem w_c4 : (Jvm.Cond.code ({ cls := "com/example/voucher_engine/voucherengine/model/CodeStanding", name := "refuseRedeemedOutsideASet", desc := "(Ljava/lang/String;Z)V" } : Jvm.MethodName) prog_5_method_2_code (2 : Nat) (Option.none : Option Jvm.ClassFile.FieldType)).before args0 about1 = true := code_word (m := ⟨9, 0⟩) (meth := k9m0) (c := k9c0) (by decide +kernel) rfl rfl rfl (by decide +kernel)
set_option maxRecDepth 65536 in
theorem w_c5 : (Jvm.Cond.code ({ cls := "java/lang/String", name := "valueOf", desc := "(C)Ljava/lang/String;" } : Jvm.MethodName) jdk_42_method_139_code (1 : Nat) (Option.some (Jvm.ClassFile.FieldType.object "java/lang/String"))).before args0 about1 = true := code_word (m := ⟨7, 2⟩) (meth := k7m2) (c := k7c2) (by decide +kernel) rfl rfl rfl (by decide +kernel)
set_option maxRecDepth 65536 in
theorem w_c6 : (Jvm.Cond.code ({ cls := "java/lang/StringLatin1", name := "canEncode", desc := "(C)Z" } : Jvm.MethodName) jdk_43_method_3_code (1 : Nat) (Option.some Jvm.ClassFile.FieldType.boolean)).before args0 about1 = true := code_word (m := ⟨10, 1⟩) (meth := k10m1) (c := k10c1) (by decide +kernel) rfl rfl rfl (by decide +kernel)
set_option maxRecDepth 65536 in
theorem w_c7 : (Jvm.Cond.code ({ cls := "java/lang/StringLatin1", name := "toBytes", desc := "(C)[B" } : Jvm.MethodName) jdk_43_method_46_code (1 : Nat) (Option.some (Jvm.ClassFile.FieldType.array Jvm.ClassFile.FieldType.byte))).before args0 about1 = true := code_word (m := ⟨10, 2⟩) (meth := k10m2) (c := k10c2) (by decide +kernel) rfl rfl rfl (by decide +kernel)
set_option maxRecDepth 65536 in
theorem w_c8 : (Jvm.Cond.code ({ cls := "java/lang/String", name := "<init>", desc := "([BB)V" } : Jvm.MethodName) jdk_42_method_151_code (3 : Nat) (Option.none : Option Jvm.ClassFile.FieldType)).before args0 about1 = true := code_word (m := ⟨7, 4⟩) (meth := k7m4) (c := k7c4) (by decide +kernel) rfl rfl rfl (by decide +kernel)
set_option maxRecDepth 65536 in
theorem w_c9 : (Jvm.Cond.code ({ cls := "java/lang/StringUTF16", name := "compress", desc := "([CII)[B" } : Jvm.MethodName) jdk_52_method_16_code (6 : Nat) (Option.some (Jvm.ClassFile.FieldType.array Jvm.ClassFile.FieldType.byte))).before args0 about1 = true := code_word (m := ⟨11, 2⟩) (meth := k11m2) (c := k11c2) (by decide +kernel) rfl rfl rfl (by decide +kernel)
set_option maxRecDepth 65536 in
theorem w_c10 : (Jvm.Cond.code ({ cls := "java/lang/StringUTF16", name := "compress", desc := "([CI[BII)I" } : Jvm.MethodName) jdk_52_method_21_code (7 : Nat) (Option.some Jvm.ClassFile.FieldType.int)).before args0 about1 = true := code_word (m := ⟨11, 3⟩) (meth := k11m3) (c := k11c3) (by decide +kernel) rfl rfl rfl (by decide +kernel)
set_option maxRecDepth 65536 in
theorem w_c11 : (Jvm.Cond.code ({ cls := "java/lang/StringUTF16", name := "coderFromArrayLen", desc := "([BI)B" } : Jvm.MethodName) jdk_52_method_15_code (2 : Nat) (Option.some Jvm.ClassFile.FieldType.byte)).before args0 about1 = true := code_word (m := ⟨11, 1⟩) (meth := k11m1) (c := k11c1) (by decide +kernel) rfl rfl rfl (by decide +kernel)
def codes1 : List Jvm.Cond := [Jvm.Cond.code x code maxLocals ret, Jvm.Cond.code ({ cls := "java/lang/String", name := "<init>", desc := "([C)V" } : Jvm.MethodName) jdk_42_method_3_code (2 : Nat) (Option.none : Option Jvm.ClassFile.FieldType), Jvm.Cond.code ({ cls := "java/lang/String", name := "<init>", desc := "([CIILjava/lang/Void;)V" } : Jvm.MethodName) jdk_42_method_149_code (6 : Nat) (Option.none : Option Jvm.ClassFile.FieldType), Jvm.Cond.code ({ cls := "java/lang/Object", name := "<init>", desc := "()V" } : Jvm.MethodName) object_method_1_code (1 : Nat) (Option.none : Option Jvm.ClassFile.FieldType), Jvm.Cond.code ({ cls := "com/example/voucher_engine/voucherengine/model/CodeStanding", name := "refuseRedeemedOutsideASet", desc := "(Ljava/lang/String;Z)V" } : Jvm.MethodName) prog_5_method_2_code (2 : Nat) (Option.none : Option Jvm.ClassFile.FieldType), Jvm.Cond.code ({ cls := "java/lang/String", name := "valueOf", desc := "(C)Ljava/lang/String;" } : Jvm.MethodName) jdk_42_method_139_code (1 : Nat) (Option.some (Jvm.ClassFile.FieldType.object "java/lang/String")), Jvm.Cond.code ({ cls := "java/lang/StringLatin1", name := "canEncode", desc := "(C)Z" } : Jvm.MethodName) jdk_43_method_3_code (1 : Nat) (Option.some Jvm.ClassFile.FieldType.boolean), Jvm.Cond.code ({ cls := "java/lang/StringLatin1", name := "toBytes", desc := "(C)[B" } : Jvm.MethodName) jdk_43_method_46_code (1 : Nat) (Option.some (Jvm.ClassFile.FieldType.array Jvm.ClassFile.FieldType.byte)), Jvm.Cond.code ({ cls := "java/lang/String", name := "<init>", desc := "([BB)V" } : Jvm.MethodName) jdk_42_method_151_code (3 : Nat) (Option.none : Option Jvm.ClassFile.FieldType), Jvm.Cond.code ({ cls := "java/lang/StringUTF16", name := "compress", desc := "([CII)[B" } : Jvm.MethodName) jdk_52_method_16_code (6 : Nat) (Option.some (Jvm.ClassFile.FieldType.array Jvm.ClassFile.FieldType.byte)), Jvm.Cond.code ({ cls := "java/lang/StringUTF16", name := "compress", desc := "([CI[BII)I" } : Jvm.MethodName) jdk_52_method_21_code (7 : Nat) (Option.some Jvm.ClassFile.FieldType.int), Jvm.Cond.code ({ cls := "java/lang/StringUTF16", name := "coderFromArrayLen", desc := "([BI)B" } : Jvm.MethodName) jdk_52_method_15_code (2 : Nat) (Option.some Jvm.ClassFile.FieldType.byte)]
set_option maxRecDepth 65536 in
theorem codes_eq : words1.filter isCode = codes1 := rfl
theorem w_codes : ∀ c ∈ words1.filter isCode, c.before args0 about1 = true := by
  rw [codes_eq]
  intro c hc
  simp only [codes1, List.mem_cons, List.not_mem_nil, or_false] at hc
  rcases hc with rfl | rfl | rfl | rfl | rfl | rfl | rfl | rfl | rfl | rfl | rfl | rfl
  · exact w_c0
  · exact w_c1
  · exact w_c2
  · exact w_c3
  · exact w_c4
  · exact w_c5
  · exact w_c6
  · exact w_c7
  · exact w_c8
  · exact w_c9
  · exact w_c10
  · exact w_c11
set_option maxRecDepth 65536 in
theorem w_t1 : (words1.take 24).all (fun c => isCode c || c.before args0 about1) = true := by decide +kernel
set_option maxRecDepth 65536 in
theorem w_t2 : ((words1.drop 24).take 24).all (fun c => isCode c || c.before args0 about1) = true := by decide +kernel
set_option maxRecDepth 65536 in
theorem w_t3 : ((words1.drop 24).drop 24).all (fun c => isCode c || c.before args0 about1) = true := by decide +kernel
theorem w_tables : (allAtoms (Jvm.Cond.code x code maxLocals ret :: tables_1)).before args0 about1 = true := by
  rw [allAtoms_all]
  show words1.all (fun c => c.before args0 about1) = true
  refine all_split ?_ w_codes
  rw [← List.take_append_drop 24 words1, List.all_append, w_t1, ← List.take_append_drop 24 (words1.drop 24), List.all_append, w_t2, w_t3]
  rfl
set_option maxRecDepth 65536 in
theorem w_rest : rest_1_c.before args0 about1 = true := by decide +kernel
set_option maxRecDepth 65536 in
theorem w_case : (Jvm.Cond.and given_1 narrow_1).before args0 about1 = true := by decide +kernel
set_option maxRecDepth 65536 in
theorem w_consts : constsHeld consts_1 about1 := Jvm.Lit.constsHeldB_iff.mp (by decide +kernel)
theorem w_applies : (headSpec (Jvm.Cond.code x code maxLocals ret :: tables_1) room_1).applies x e0.platform about1 = true :=
  (Spec.applies_iff w_frames).mpr ⟨w_running, w_runnable, w_alone, w_named, w_hears, w_ripe, w_room, w_tables⟩
theorem atStart : AtStart classFile x code maxLocals ret World_1 tables_1 room_1 Calls_1 rest_1 Pre_1 launch0 p0 e0 about1 theMethod args0 below0 :=
  ⟨lists_1, trivial, launch0.admits_env _ _ _, launch0.least_env, fairChoices_fair.cas, fairChoices_fair.clock, w_frames, w_args, w_heap, w_applies, ⟨w_consts, trivial⟩, w_rest, w_case⟩
end start1
theorem witness_1 : WitnessClaimed_1 := ⟨start1.p0, start1.e0, start1.about1, start1.theMethod, start1.args0, start1.below0, start1.atStart⟩
end Jvm.Pilot.@@N@@
