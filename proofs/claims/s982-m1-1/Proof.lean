import JvmDerived
import JvmDerived.Pilot.@@N@@Statement
import JvmDerived.Pilot.@@N@@Code
set_option linter.unusedVariables false
set_option linter.unusedSimpArgs false
/- laws to paste: Road.backV (cut by pick.py; bodies as the Statement names them) -/
namespace Jvm.Pilot.@@N@@
namespace StrChars
open Jvm Sem ClassFile Op Lib Jvm.Stand Jvm.Free.XT Jvm.Free.ALB Jvm.Free.JM Jvm.Free
open Jvm.Lib.Cold (StaticIs)
/-- a char array whose places are chars -/
def Ch (a : Addr) (A : Cell) (U : State) : Prop := Arr .char a A U ∧ Typed .char A
theorem Ch.mv {a : Addr} {A : Cell} {U U' : State} (h : Ch a A U) (hal : U.vm.Alike U'.vm) (hh : U'.heap = U.heap) : Ch a A U' := ⟨h.1.mv hal hh, h.2⟩
theorem Ch.keep {a : Addr} {A : Cell} {U U' : State} (h : Ch a A U) (hal : U.vm.Alike U'.vm) (hk : U'.heap[a]? = some A) : Ch a A U' := ⟨h.1.keep hal hk, h.2⟩
/-- what place i of a char[]'s cell holds -/
def cv (A : Cell) (i : Nat) : Int32 := match A.slots[i]? with | some (.int x) => x | _ => 0
theorem Ch.get {a : Addr} {A : Cell} {U : State} (h : Ch a A U) {i : Nat} (hi : i < A.slots.size) : A.slots[i]? = some (.int (cv A i)) := by
  have e := Array.getElem?_eq_getElem hi
  have f := h.2 i _ e
  unfold cv; rw [e]
  generalize A.slots[i] = v at f
  cases v <;> simp [fits] at f ⊢
/-- the byte that i2b leaves of a char -/
def lo8 (x : Int32) : Int32 := x.toInt8.toInt32
theorem fits_lo8 (y : Int32) : fits .byte (.int (lo8 y)) = true := by
  have h1 := y.toInt8.le_toInt
  have h2 := y.toInt8.toInt_lt
  simp only [lo8, fits, Bool.and_eq_true, decide_eq_true_eq, Int32.le_iff_toInt_le, Int8.toInt_toInt32, show (-128 : Int32).toInt = -128 from by decide, show (127 : Int32).toInt = 127 from by decide]
  omega
/-- A' is A but that each place j of lo .. hi - 1 holds f j -/
def Laid (A A' : Cell) (lo hi : Nat) (f : Nat → Value) : Prop := A'.cls = A.cls ∧ A'.vm = A.vm ∧ A'.slots.size = A.slots.size ∧ ∀ i, A'.slots[i]? = if lo ≤ i ∧ i < hi then some (f i) else A.slots[i]?
theorem Laid.zero (A : Cell) (lo : Nat) (f : Nat → Value) : Laid A A lo (lo + 0) f := ⟨rfl, rfl, rfl, fun i => by rw [if_neg (by omega)]⟩
theorem Laid.step {A Ak : Cell} {lo k : Nat} {f : Nat → Value} {v : Value} (h : Laid A Ak lo k f) (hlo : lo ≤ k) (hk : k < Ak.slots.size) (hv : v = f k) : Laid A (Ak.setSlot k v) lo (k + 1) f := by
  refine ⟨h.1, h.2.1, by simpa [Cell.setSlot] using h.2.2.1, fun i => ?_⟩
  by_cases e : k = i
  · subst e; rw [Cell.slots_setSlot_self v hk, if_pos (by omega), hv]
  · rw [Cell.slots_setSlot_ne v e, h.2.2.2 i]
    by_cases q : lo ≤ i ∧ i < k
    · rw [if_pos q, if_pos (by omega)]
    · rw [if_neg q, if_neg (by omega)]
def U16 : String := "java/lang/StringUTF16"
namespace Cmp5
def yN : MethodName := ⟨"java/lang/StringUTF16", "compress", "([CI[BII)I"⟩
abbrev yB : ByteArray := jdk_52_method_21_code
theorem d0 : decode yB 0 = .ok (.iconst 0, 1) := by decide +kernel
theorem d1 : decode yB 1 = .ok (.istore 5, 2) := by decide +kernel
theorem d3 : decode yB 3 = .ok (.iload 5, 2) := by decide +kernel
theorem d5 : decode yB 5 = .ok (.iload 4, 2) := by decide +kernel
theorem d7 : decode yB 7 = .ok (.if_icmp (.ge) 37, 3) := by decide +kernel
theorem d10 : decode yB 10 = .ok (.aload_n 0, 1) := by decide +kernel
theorem d11 : decode yB 11 = .ok (.iload_n 1, 1) := by decide +kernel
theorem d12 : decode yB 12 = .ok (.caload, 1) := by decide +kernel
theorem d13 : decode yB 13 = .ok (.istore 6, 2) := by decide +kernel
theorem d15 : decode yB 15 = .ok (.iload 6, 2) := by decide +kernel
theorem d17 : decode yB 17 = .ok (.sipush 255, 3) := by decide +kernel
theorem d20 : decode yB 20 = .ok (.if_icmp (.le) 6, 3) := by decide +kernel
theorem d26 : decode yB 26 = .ok (.aload_n 2, 1) := by decide +kernel
theorem d27 : decode yB 27 = .ok (.iload_n 3, 1) := by decide +kernel
theorem d28 : decode yB 28 = .ok (.iload 6, 2) := by decide +kernel
theorem d30 : decode yB 30 = .ok (.i2b, 1) := by decide +kernel
theorem d31 : decode yB 31 = .ok (.bastore, 1) := by decide +kernel
theorem d32 : decode yB 32 = .ok (.iinc 1 1, 3) := by decide +kernel
theorem d35 : decode yB 35 = .ok (.iinc 3 1, 3) := by decide +kernel
theorem d38 : decode yB 38 = .ok (.iinc 5 1, 3) := by decide +kernel
theorem d41 : decode yB 41 = .ok (.goto (-38), 3) := by decide +kernel
theorem d44 : decode yB 44 = .ok (.iload 4, 2) := by decide +kernel
theorem d46 : decode yB 46 = .ok (.ireturn, 1) := by decide +kernel
def site : List Cond := []
def tab : Cond := tabOf yN yB 7 (some .int) site
def P (b : Addr) (A : Cell) (d : Addr) (B : Cell) (o q len : Nat) (args : Array Value) (s : State) : Prop := args = #[.ref b, .int (Int32.ofNat o), .ref d, .int (Int32.ofNat q), .int (Int32.ofNat len)] ∧ Ch b A s ∧ Arr .byte d B s ∧ b ≠ d ∧ o + len ≤ A.slots.size ∧ q + len ≤ B.slots.size ∧ ∀ i, i < len → ¬ 255 < cv A (o + i)
def E (b : Addr) (A : Cell) (d : Addr) (B : Cell) (o q len : Nat) (r : Option Value) (s u : State) : Prop := r = some (.int (Int32.ofNat len)) ∧ ∃ B', Put d B' s u ∧ Laid B B' q (q + len) (fun j => Value.int (lo8 (cv A (o + (j - q)))))
/-- no char of the range above 255: len; the places written hold each char's low byte -/
theorem law (l : Launch) (b : Addr) (A : Cell) (d : Addr) (B : Cell) (o q len : Nat) : Law l yN 5 5 0 0 yB 7 (some .int) site (P b A d B o q len) (E b A d B o q len) (copyLocs d q len) 0 0 := by
  refine Law.of_walk (plainFor_of_name (by decide +kernel)) (by decide +kernel) (by decide +kernel) (by decide) (fun _ _ h => by rw [h.1]; rfl) (fun _ U U' hal hh h => ⟨h.1, h.2.1.mv hal hh, h.2.2.1.mv hal hh, h.2.2.2⟩) (fun r U U' V V' h1 hal h2 h => ⟨h.1, h.2.elim fun B' q => ⟨B', q.1.mv h1 h2, q.2⟩⟩) ?_
  intro p e s m args below meth c s₁ X0 hexec hbytes hml hret hlk hnm hown hh0 W hP
  obtain ⟨rfl, hA, hB, hne, l1, l2, hp⟩ := hP
  have c1 : Steps p.tables e below (s₁.setTop (entryFrame m #[.ref b, .int (Int32.ofNat o), .ref d, .int (Int32.ofNat q), .int (Int32.ofNat len)] 7)) (s₁.setTop (mkF m 0 #[.val (.ref b), .val (.int (Int32.ofNat o)), .val (.ref d), .val (.int (Int32.ofNat q)), .val (.int (Int32.ofNat len)), .unset, .unset] [])) := entry rfl
  have hA0 := hA.1.mv X0.warmed.alike hh0
  have hB0 := hB.mv X0.warmed.alike hh0
  have a31 := hA.1.2.2.2
  have c2 : Steps p.tables e below (s₁.setTop (entryFrame m #[.ref b, .int (Int32.ofNat o), .ref d, .int (Int32.ofNat q), .int (Int32.ofNat len)] 7)) (s₁.setTop (mkF m 3 #[.val (.ref b), .val (.int (Int32.ofNat o)), .val (.ref d), .val (.int (Int32.ofNat q)), .val (.int (Int32.ofNat len)), .val (.int 0), .unset] [])) := c1.trans (by
    refine iconstV X0.here hexec rfl 0 (hb hbytes d0) (by decide) ?_
    refine XS.istore X0.here hexec rfl (hb hbytes d1) rfl rfl ?_
    exact Steps.refl _)
  have loop : ∀ (r i : Nat), i + r = len → ∀ (z : Slot), (z = .unset ∨ ∃ w, z = .val w ∧ w.category = 1) → ∀ (Tl : State) (Bk : Cell), Stand p l e { frames := 0, locals := 0, cells := 0, slots := 0 } s m #[.ref b, .int (Int32.ofNat o), .ref d, .int (Int32.ofNat q), .int (Int32.ofNat len)] below meth c Tl ([] ++ copyLocs d q i) 0 0 → Put d Bk s₁ Tl → Laid B Bk q (q + i) (fun j => Value.int (lo8 (cv A (o + (j - q))))) →
      Steps p.tables e below (s₁.setTop (entryFrame m #[.ref b, .int (Int32.ofNat o), .ref d, .int (Int32.ofNat q), .int (Int32.ofNat len)] 7)) (Tl.setTop (mkF m 3 #[.val (.ref b), .val (.int (Int32.ofNat (o + i))), .val (.ref d), .val (.int (Int32.ofNat (q + i))), .val (.int (Int32.ofNat len)), .val (.int (Int32.ofNat i)), z] [])) → ∃ (T' : State) (B' : Cell) (z' : Slot), Stand p l e { frames := 0, locals := 0, cells := 0, slots := 0 } s m #[.ref b, .int (Int32.ofNat o), .ref d, .int (Int32.ofNat q), .int (Int32.ofNat len)] below meth c T' ([] ++ copyLocs d q len) 0 0 ∧ Put d B' s₁ T' ∧ Laid B B' q (q + len) (fun j => Value.int (lo8 (cv A (o + (j - q))))) ∧
      Steps p.tables e below (s₁.setTop (entryFrame m #[.ref b, .int (Int32.ofNat o), .ref d, .int (Int32.ofNat q), .int (Int32.ofNat len)] 7)) (T'.setTop (mkF m 3 #[.val (.ref b), .val (.int (Int32.ofNat (o + len))), .val (.ref d), .val (.int (Int32.ofNat (q + len))), .val (.int (Int32.ofNat len)), .val (.int (Int32.ofNat len)), z'] [])) := by
    intro r
    induction r with
    | zero =>
      intro i hi z hz Tl Bk Xl pl fl cl
      have hil : i = len := by omega
      rw [hil] at Xl fl cl
      exact ⟨Tl, Bk, z, Xl, pl, fl, cl⟩
    | succ r ih =>
      intro i hi z hz Tl Bk Xl pl fl cl
      have all := X0.warmed.alike.symm.trans Xl.warmed.alike
      have hAl := hA0.keep all (pl.other hne hA0.1)
      have hBk := hB0.like all pl.1 fl.1 fl.2.1 fl.2.2.1
      have hlt : q + i < Bk.slots.size := by rw [fl.2.2.1]; omega
      have c3 : Steps p.tables e below (s₁.setTop (entryFrame m #[.ref b, .int (Int32.ofNat o), .ref d, .int (Int32.ofNat q), .int (Int32.ofNat len)] 7)) (Tl.setTop (mkF m 12 #[.val (.ref b), .val (.int (Int32.ofNat (o + i))), .val (.ref d), .val (.int (Int32.ofNat (q + i))), .val (.int (Int32.ofNat len)), .val (.int (Int32.ofNat i)), z] [.int (Int32.ofNat (o + i)), .ref b])) := cl.trans (by
        refine XS.iload Xl.here hexec rfl (hb hbytes d3) rfl ?_
        refine XS.iload Xl.here hexec rfl (hb hbytes d5) rfl ?_
        refine XS.icmpNo Xl.here hexec rfl (hb hbytes d7) rfl (ii_ge_f (lt32 (by omega) (by omega))) ?_
        refine XS.aloadN Xl.here hexec rfl (hb hbytes d10) rfl rfl ?_
        refine XS.iloadN Xl.here hexec rfl (hb hbytes d11) rfl ?_
        exact Steps.refl _)
      have c4 : Steps p.tables e below (s₁.setTop (entryFrame m #[.ref b, .int (Int32.ofNat o), .ref d, .int (Int32.ofNat q), .int (Int32.ofNat len)] 7)) (Tl.setTop (mkF m 13 #[.val (.ref b), .val (.int (Int32.ofNat (o + i))), .val (.ref d), .val (.int (Int32.ofNat (q + i))), .val (.int (Int32.ofNat len)), .val (.int (Int32.ofNat i)), z] [.int (cv A (o + i))])) := c3.trans (by
        refine Xl.aget hexec hAl rfl (hA.get (i := o + i) (by omega)) rfl rfl (hb hbytes d12) ?_
        exact Steps.refl _)
      have c5 : Steps p.tables e below (s₁.setTop (entryFrame m #[.ref b, .int (Int32.ofNat o), .ref d, .int (Int32.ofNat q), .int (Int32.ofNat len)] 7)) (Tl.setTop (mkF m 15 #[.val (.ref b), .val (.int (Int32.ofNat (o + i))), .val (.ref d), .val (.int (Int32.ofNat (q + i))), .val (.int (Int32.ofNat len)), .val (.int (Int32.ofNat i)), .val (.int (cv A (o + i)))] [])) := c4.trans (by
        refine XS.istoreS Xl.here hexec rfl (hb hbytes d13) rfl rfl hz ?_
        exact Steps.refl _)
      have c6 : Steps p.tables e below (s₁.setTop (entryFrame m #[.ref b, .int (Int32.ofNat o), .ref d, .int (Int32.ofNat q), .int (Int32.ofNat len)] 7)) (Tl.setTop (mkF m 31 #[.val (.ref b), .val (.int (Int32.ofNat (o + i))), .val (.ref d), .val (.int (Int32.ofNat (q + i))), .val (.int (Int32.ofNat len)), .val (.int (Int32.ofNat i)), .val (.int (cv A (o + i)))] [.int (lo8 (cv A (o + i))), .int (Int32.ofNat (q + i)), .ref d])) := c5.trans (by
        refine XS.iload Xl.here hexec rfl (hb hbytes d15) rfl ?_
        refine sipushV Xl.here hexec rfl 255 (hb hbytes d17) (by decide) ?_
        refine XS.icmpYes Xl.here hexec rfl (pc0 := 20) rfl (hb hbytes d20) rfl (ii_le_t (hp i (by omega))) (by decide) rfl ?_
        refine XS.aloadN Xl.here hexec rfl (hb hbytes d26) rfl rfl ?_
        refine XS.iloadN Xl.here hexec rfl (hb hbytes d27) rfl ?_
        refine XS.iload Xl.here hexec rfl (hb hbytes d28) rfl ?_
        refine i2b Xl.here hexec rfl (hb hbytes d30) rfl ?_
        exact Steps.refl _)
      obtain ⟨T7, X7, p7, st7⟩ := Xl.aput hexec hBk rfl hlt rfl (fits_lo8 (cv A (o + i))) (g := (mkF m 31 #[.val (.ref b), .val (.int (Int32.ofNat (o + i))), .val (.ref d), .val (.int (Int32.ofNat (q + i))), .val (.int (Int32.ofNat len)), .val (.int (Int32.ofNat i)), .val (.int (cv A (o + i)))] [.int (lo8 (cv A (o + i))), .int (Int32.ofNat (q + i)), .ref d])) rfl (rest := []) rfl (hb hbytes d31)
      have c8 : Steps p.tables e below (s₁.setTop (entryFrame m #[.ref b, .int (Int32.ofNat o), .ref d, .int (Int32.ofNat q), .int (Int32.ofNat len)] 7)) (T7.setTop (mkF m 32 #[.val (.ref b), .val (.int (Int32.ofNat (o + i))), .val (.ref d), .val (.int (Int32.ofNat (q + i))), .val (.int (Int32.ofNat len)), .val (.int (Int32.ofNat i)), .val (.int (cv A (o + i)))] [])) := c6.trans (st7 _ (Steps.refl _))
      have c9 : Steps p.tables e below (s₁.setTop (entryFrame m #[.ref b, .int (Int32.ofNat o), .ref d, .int (Int32.ofNat q), .int (Int32.ofNat len)] 7)) (T7.setTop (mkF m 3 #[.val (.ref b), .val (.int (Int32.ofNat (o + i) + 1)), .val (.ref d), .val (.int (Int32.ofNat (q + i) + 1)), .val (.int (Int32.ofNat len)), .val (.int (Int32.ofNat i + 1)), .val (.int (cv A (o + i)))] [])) := c8.trans (by
        refine iincV X7.here hexec rfl 1 (hb hbytes d32) (by decide) rfl rfl ?_
        refine iincV X7.here hexec rfl 1 (hb hbytes d35) (by decide) rfl rfl ?_
        refine iincV X7.here hexec rfl 1 (hb hbytes d38) (by decide) rfl rfl ?_
        refine XS.goto X7.here hexec rfl (pc0 := 41) rfl (hb hbytes d41) (by decide) rfl ?_
        exact Steps.refl _)
      have c10 : Steps p.tables e below (s₁.setTop (entryFrame m #[.ref b, .int (Int32.ofNat o), .ref d, .int (Int32.ofNat q), .int (Int32.ofNat len)] 7)) (T7.setTop (mkF m 3 #[.val (.ref b), .val (.int (Int32.ofNat (o + (i + 1)))), .val (.ref d), .val (.int (Int32.ofNat (q + (i + 1)))), .val (.int (Int32.ofNat len)), .val (.int (Int32.ofNat (i + 1))), .val (.int (cv A (o + i)))] [])) := by
        have := c9
        rw [succ32, succ32, succ32] at this
        exact this
      exact ih (i + 1) (by omega) _ (Or.inr ⟨_, rfl, rfl⟩) T7 _ (by rw [copyLocs_step, ← List.append_assoc]; exact X7) (pl.trans p7) (fl.step (by omega) hlt (by simp)) c10
  obtain ⟨T9, B9, z9, X9, p9, f9, g9⟩ := loop len 0 (by omega) .unset (Or.inl rfl) s₁ B (by simpa [copyLocs] using X0) ⟨hB0.1, fun _ _ => rfl, rfl⟩ (Laid.zero _ _ _) c2
  have c11 : Steps p.tables e below (s₁.setTop (entryFrame m #[.ref b, .int (Int32.ofNat o), .ref d, .int (Int32.ofNat q), .int (Int32.ofNat len)] 7)) (T9.setTop (mkF m 46 #[.val (.ref b), .val (.int (Int32.ofNat (o + len))), .val (.ref d), .val (.int (Int32.ofNat (q + len))), .val (.int (Int32.ofNat len)), .val (.int (Int32.ofNat len)), z9] [.int (Int32.ofNat len)])) := g9.trans (by
    refine XS.iload X9.here hexec rfl (hb hbytes d3) rfl ?_
    refine XS.iload X9.here hexec rfl (hb hbytes d5) rfl ?_
    refine XS.icmpYes X9.here hexec rfl (pc0 := 7) rfl (hb hbytes d7) rfl (ii_ge_t (nlt32 (by omega) (Nat.le_refl _))) (by decide) rfl ?_
    refine XS.iload X9.here hexec rfl (hb hbytes d44) rfl ?_
    exact Steps.refl _)
  exact ⟨T9, some (.int (Int32.ofNat len)), _, _, _, X9, by simp, rfl, rfl, (fun h => by cases h), ⟨rfl, B9, p9.from hh0, f9⟩, fun fs hl => c11.trans (X9.ireturnOut hexec hret rfl (Or.inl rfl) (hb hbytes d46) hl)⟩
end Cmp5
namespace Cmp3
def yN : MethodName := ⟨"java/lang/StringUTF16", "compress", "([CII)[B"⟩
abbrev yB : ByteArray := jdk_52_method_16_code
theorem d0 : decode yB 0 = .ok (.iload_n 2, 1) := by decide +kernel
theorem d1 : decode yB 1 = .ok (.newarray .byte, 2) := by decide +kernel
theorem d3 : decode yB 3 = .ok (.astore_n 3, 1) := by decide +kernel
theorem d4 : decode yB 4 = .ok (.aload_n 0, 1) := by decide +kernel
theorem d5 : decode yB 5 = .ok (.iload_n 1, 1) := by decide +kernel
theorem d6 : decode yB 6 = .ok (.aload_n 3, 1) := by decide +kernel
theorem d7 : decode yB 7 = .ok (.iconst 0, 1) := by decide +kernel
theorem d8 : decode yB 8 = .ok (.iload_n 2, 1) := by decide +kernel
theorem d9 : decode yB 9 = .ok (.invokestatic 115, 3) := by decide +kernel
theorem d12 : decode yB 12 = .ok (.istore 4, 2) := by decide +kernel
theorem d14 : decode yB 14 = .ok (.iload 4, 2) := by decide +kernel
theorem d16 : decode yB 16 = .ok (.iload_n 2, 1) := by decide +kernel
theorem d17 : decode yB 17 = .ok (.if_icmp (.eq) 40, 3) := by decide +kernel
theorem d57 : decode yB 57 = .ok (.aload_n 3, 1) := by decide +kernel
theorem d58 : decode yB 58 = .ok (.areturn, 1) := by decide +kernel
def site : List Cond := [.arrayClass .byte, Cmp5.tab] ++ staticW U16 115 Cmp5.yN
def tab : Cond := tabOf yN yB 6 (some (.array .byte)) site
def P (b : Addr) (A : Cell) (o len : Nat) (args : Array Value) (s : State) : Prop := args = #[.ref b, .int (Int32.ofNat o), .int (Int32.ofNat len)] ∧ Ch b A s ∧ o + len ≤ A.slots.size ∧ len ≤ 536870912 ∧ ∀ i, i < len → ¬ 255 < cv A (o + i)
def E (b : Addr) (A : Cell) (o len : Nat) (r : Option Value) (s u : State) : Prop := NewArr .byte "[B" len (fun j => .int (lo8 (cv A (o + j)))) r s u ∧ u.heap.size = s.heap.size + 1
/-- no char of the range above 255: a new byte[] of their low bytes -/
theorem law (l : Launch) (b : Addr) (A : Cell) (o len : Nat) : Law l yN 3 3 1 18 yB 6 (some (.array .byte)) site (P b A o len) (E b A o len) [] 1 len := by
  refine Law.of_walk (plainFor_of_name (by decide +kernel)) (by decide +kernel) (by decide +kernel) (by decide) (fun _ _ h => by rw [h.1]; rfl) (fun _ U U' hal hh h => ⟨h.1, h.2.1.mv hal hh, h.2.2⟩) (fun r U U' V V' h1 hal h2 h => ⟨NewArr.mv r U U' V V' h1 hal h2 h.1, by rw [h1, h2]; exact h.2⟩) ?_
  intro p e s m args below meth c s₁ X0 hexec hbytes hml hret hlk hnm hown hh0 W hP
  obtain ⟨rfl, hA, l1, l2, hp⟩ := hP
  have a31 := hA.1.2.2.2
  have c1 : Steps p.tables e below (s₁.setTop (entryFrame m #[.ref b, .int (Int32.ofNat o), .int (Int32.ofNat len)] 6)) (s₁.setTop (mkF m 0 #[.val (.ref b), .val (.int (Int32.ofNat o)), .val (.int (Int32.ofNat len)), .unset, .unset, .unset] [])) := entry rfl
  have c2 : Steps p.tables e below (s₁.setTop (entryFrame m #[.ref b, .int (Int32.ofNat o), .int (Int32.ofNat len)] 6)) (s₁.setTop (mkF m 1 #[.val (.ref b), .val (.int (Int32.ofNat o)), .val (.int (Int32.ofNat len)), .unset, .unset, .unset] [.int (Int32.ofNat len)])) := c1.trans (by
    refine XS.iloadN X0.here hexec rfl (hb hbytes d0) rfl ?_
    exact Steps.refl _)
  obtain ⟨T3, B3, X3, ba3, bs3, bv3, bh3, bf3, st3⟩ := X0.anew hexec (atype := .byte) (wk W (.arrayClass .byte)) rfl (by show len * 1 ≤ _; omega) (by omega) (g := (mkF m 1 #[.val (.ref b), .val (.int (Int32.ofNat o)), .val (.int (Int32.ofNat len)), .unset, .unset, .unset] [.int (Int32.ofNat len)])) rfl (hb hbytes d1) (rest := []) rfl (Nat.le_refl _) (by show 0 + len ≤ len; omega)
  rw [hh0] at ba3 st3
  have kp3 : XT.Kept s T3 := (XT.Kept.of_eq hh0).push bh3
  have hA3 := hA.keep X3.warmed.alike (kp3 _ _ hA.1.1)
  have hne : b ≠ s.heap.size := hA.1.ne
  have c4 : Steps p.tables e below (s₁.setTop (entryFrame m #[.ref b, .int (Int32.ofNat o), .int (Int32.ofNat len)] 6)) (T3.setTop (mkF m 3 #[.val (.ref b), .val (.int (Int32.ofNat o)), .val (.int (Int32.ofNat len)), .unset, .unset, .unset] [.ref s.heap.size])) := c2.trans (st3 _ (Steps.refl _))
  have c5 : Steps p.tables e below (s₁.setTop (entryFrame m #[.ref b, .int (Int32.ofNat o), .int (Int32.ofNat len)] 6)) (T3.setTop (mkF m 9 #[.val (.ref b), .val (.int (Int32.ofNat o)), .val (.int (Int32.ofNat len)), .val (.ref s.heap.size), .unset, .unset] [.int (Int32.ofNat len), .int 0, .ref s.heap.size, .int (Int32.ofNat o), .ref b])) := c4.trans (by
    refine XS.astoreN X3.here hexec rfl (hb hbytes d3) rfl rfl rfl ?_
    refine XS.aloadN X3.here hexec rfl (hb hbytes d4) rfl rfl ?_
    refine XS.iloadN X3.here hexec rfl (hb hbytes d5) rfl ?_
    refine XS.aloadN X3.here hexec rfl (hb hbytes d6) rfl rfl ?_
    refine iconstV X3.here hexec rfl 0 (hb hbytes d7) (by decide) ?_
    refine XS.iloadN X3.here hexec rfl (hb hbytes d8) rfl ?_
    exact Steps.refl _)
  obtain ⟨v6, T6, X6, E6, g6⟩ := X3.callS hexec (Cmp5.law l b A s.heap.size B3 o 0 len) hown (wks W (staticW U16 115 Cmp5.yN)) (wk W Cmp5.tab) (W := 0) (Nat.le_of_ble_eq_true rfl) (Nat.le_of_ble_eq_true rfl) (Nat.le_refl _) (by show 0 + len + 0 ≤ len; omega) (g := (mkF m 9 #[.val (.ref b), .val (.int (Int32.ofNat o)), .val (.int (Int32.ofNat len)), .val (.ref s.heap.size), .unset, .unset] [.int (Int32.ofNat len), .int (Int32.ofNat 0), .ref s.heap.size, .int (Int32.ofNat o), .ref b])) rfl (by rw [hml]; rfl) c5 (argsL := [.ref b, .int (Int32.ofNat o), .ref s.heap.size, .int (Int32.ofNat 0), .int (Int32.ofNat len)]) (rest := []) rfl rfl (by show 2 * 0 + 0 ≤ _; decide) (hb hbytes d9) (⟨rfl, hA3, ba3, hne, l1, by rw [bs3]; simp, hp⟩)
  obtain ⟨rfl, B6, p6, f6⟩ := E6
  have c7 : Steps p.tables e below (s₁.setTop (entryFrame m #[.ref b, .int (Int32.ofNat o), .int (Int32.ofNat len)] 6)) (T6.setTop (mkF m 12 #[.val (.ref b), .val (.int (Int32.ofNat o)), .val (.int (Int32.ofNat len)), .val (.ref s.heap.size), .unset, .unset] [.int (Int32.ofNat len)])) := g6
  have c8 : Steps p.tables e below (s₁.setTop (entryFrame m #[.ref b, .int (Int32.ofNat o), .int (Int32.ofNat len)] 6)) (T6.setTop (mkF m 58 #[.val (.ref b), .val (.int (Int32.ofNat o)), .val (.int (Int32.ofNat len)), .val (.ref s.heap.size), .val (.int (Int32.ofNat len)), .unset] [.ref s.heap.size])) := c7.trans (by
    refine XS.istore X6.here hexec rfl (hb hbytes d12) rfl rfl ?_
    refine XS.iload X6.here hexec rfl (hb hbytes d14) rfl ?_
    refine XS.iloadN X6.here hexec rfl (hb hbytes d16) rfl ?_
    refine XS.icmpYes X6.here hexec rfl (pc0 := 17) rfl (hb hbytes d17) rfl (ii_eq_t rfl) (by decide) rfl ?_
    refine XS.aloadN X6.here hexec rfl (hb hbytes d57) rfl rfl ?_
    exact Steps.refl _)
  have X8 := X6.wide (L' := []) (cells' := 1) (slots' := len) (fun x hx hlt => by
    simp only [List.nil_append, copyLocs, List.mem_map, List.mem_range] at hx
    obtain ⟨i, -, rfl⟩ := hx
    exact absurd hlt (Nat.lt_irrefl _)) (Nat.le_refl _) (by omega)
  exact ⟨T6, some (.ref s.heap.size), _, _, _, X8, rfl, rfl, rfl, (fun h => by cases h), ⟨⟨rfl, B6, ba3.like (X3.warmed.alike.symm.trans X6.warmed.alike) p6.1 f6.1 f6.2.1 f6.2.2.1, f6.2.1.trans bv3, by rw [X6.warmed.alike.findClass, f6.1]; exact bf3, by rw [f6.2.2.1, bs3]; simp, fun j hj => by rw [f6.2.2.2 j, if_pos (by omega)]; rfl, kp3.put p6 (Nat.le_refl _)⟩, by rw [p6.2.2, bh3, hh0]; simp⟩, fun fs hl => c8.trans (X8.areturnOut hexec rfl hret rfl (hb hbytes d58) hl)⟩
end Cmp3
namespace CodL
def yN : MethodName := ⟨"java/lang/StringUTF16", "coderFromArrayLen", "([BI)B"⟩
abbrev yB : ByteArray := jdk_52_method_15_code
theorem d0 : decode yB 0 = .ok (.iload_n 1, 1) := by decide +kernel
theorem d1 : decode yB 1 = .ok (.aload_n 0, 1) := by decide +kernel
theorem d2 : decode yB 2 = .ok (.arraylength, 1) := by decide +kernel
theorem d3 : decode yB 3 = .ok (.isub, 1) := by decide +kernel
theorem d4 : decode yB 4 = .ok (.bipush 31, 2) := by decide +kernel
theorem d6 : decode yB 6 = .ok (.iushr, 1) := by decide +kernel
theorem d7 : decode yB 7 = .ok (.i2b, 1) := by decide +kernel
theorem d8 : decode yB 8 = .ok (.ireturn, 1) := by decide +kernel
def site : List Cond := []
def tab : Cond := tabOf yN yB 2 (some .byte) site
def P (d : Addr) (B : Cell) (args : Array Value) (s : State) : Prop := args = #[.ref d, .int (Int32.ofNat B.slots.size)] ∧ Arr .byte d B s
def E (r : Option Value) (s u : State) : Prop := XT.PureE (some (.int 0)) r s u
/-- an array as long as the number of chars: LATIN1 -/
theorem law (l : Launch) (d : Addr) (B : Cell) : Law l yN 2 2 0 0 yB 2 (some .byte) site (P d B) E [] 0 0 := by
  refine Law.of_walk (plainFor_of_name (by decide +kernel)) (by decide +kernel) (by decide +kernel) (by decide) (fun _ _ h => by rw [h.1]; rfl) (fun _ U U' hal hh h => ⟨h.1, h.2.mv hal hh⟩) (fun r U U' V V' h1 hal h2 h => XT.PureE.mv r U U' V V' h1 hal h2 h) ?_
  intro p e s m args below meth c s₁ X0 hexec hbytes hml hret hlk hnm hown hh0 W hP
  obtain ⟨rfl, hB⟩ := hP
  have hB0 := hB.mv X0.warmed.alike hh0
  have c1 : Steps p.tables e below (s₁.setTop (entryFrame m #[.ref d, .int (Int32.ofNat B.slots.size)] 2)) (s₁.setTop (mkF m 0 #[.val (.ref d), .val (.int (Int32.ofNat B.slots.size))] [])) := entry rfl
  have c2 : Steps p.tables e below (s₁.setTop (entryFrame m #[.ref d, .int (Int32.ofNat B.slots.size)] 2)) (s₁.setTop (mkF m 2 #[.val (.ref d), .val (.int (Int32.ofNat B.slots.size))] [.ref d, .int (Int32.ofNat B.slots.size)])) := c1.trans (by
    refine XS.iloadN X0.here hexec rfl (hb hbytes d0) rfl ?_
    refine XS.aloadN X0.here hexec rfl (hb hbytes d1) rfl rfl ?_
    exact Steps.refl _)
  have c3 : Steps p.tables e below (s₁.setTop (entryFrame m #[.ref d, .int (Int32.ofNat B.slots.size)] 2)) (s₁.setTop (mkF m 8 #[.val (.ref d), .val (.int (Int32.ofNat B.slots.size))] [.int (lo8 (ushr (Int32.ofNat B.slots.size - Int32.ofNat B.slots.size) 31))])) := c2.trans (by
    refine X0.alen hexec hB0 rfl rfl (hb hbytes d2) ?_
    refine XS.isub X0.here hexec rfl (hb hbytes d3) rfl ?_
    refine bipushV X0.here hexec rfl 31 (hb hbytes d4) (by decide) ?_
    refine iushr X0.here hexec rfl (hb hbytes d6) rfl ?_
    refine i2b X0.here hexec rfl (hb hbytes d7) rfl ?_
    exact Steps.refl _)
  have e0 : lo8 (ushr (Int32.ofNat B.slots.size - Int32.ofNat B.slots.size) 31) = 0 := by rw [Int32.sub_self]; decide
  rw [e0] at c3
  exact ⟨s₁, some (.int 0), _, _, _, X0, rfl, rfl, rfl, (fun h => by cases h), ⟨rfl, hh0⟩, fun fs hl => c3.trans (X0.ireturnOut hexec hret rfl (Or.inr (Or.inr (Or.inl rfl))) (hb hbytes d8) hl)⟩
end CodL
/-- the String at a is Latin-1 over a new byte[] (the heap's one new cell): the low bytes of the len chars of A from o on; every cell but a is kept -/
def Got (a : Addr) (D : Cell) (fV fC : Field) (A : Cell) (o len : Nat) (r : Option Value) (s u : State) : Prop := r = none ∧ ∃ D' V : Cell, Blank "java/lang/String" a D' u ∧ Same D D' [fV.slot, fC.slot] ∧ D'.slots[fV.slot]? = some (.ref s.heap.size) ∧ D'.slots[fC.slot]? = some (.int 0) ∧ Arr .byte s.heap.size V u ∧ V.vm = .none ∧ u.vm.findClass "[B" = some V.cls ∧ V.slots.size = len ∧ (∀ j, j < len → V.slots[j]? = some (.int (lo8 (cv A (o + j))))) ∧ (∀ (y : Addr) (c : Cell), y ≠ a → s.heap[y]? = some c → u.heap[y]? = some c) ∧ u.heap.size = s.heap.size + 1
theorem Got.mv {a : Addr} {D A : Cell} {fV fC : Field} {o len : Nat} : ∀ r (U U' V V' : State), U'.heap = U.heap → V.vm.Alike V'.vm → V'.heap = V.heap → Got a D fV fC A o len r U V → Got a D fV fC A o len r U' V' :=
  fun r U U' V V' h1 hal h2 ⟨e0, D', X, a1, a2, a3, a4, a5, a6, a7, a8, a9, a10, a11⟩ => ⟨e0, D', X, a1.mv hal h2, a2, by rw [h1]; exact a3, a4, by rw [h1]; exact a5.mv hal h2, a6, by rw [hal.findClass]; exact a7, a8, a9, by rw [h1, h2]; exact a10, by rw [h1, h2]; exact a11⟩
namespace New4
def yN : MethodName := ⟨"java/lang/String", "<init>", "([CIILjava/lang/Void;)V"⟩
abbrev yB : ByteArray := jdk_42_method_149_code
theorem d0 : decode yB 0 = .ok (.aload_n 0, 1) := by decide +kernel
theorem d1 : decode yB 1 = .ok (.invokespecial 1, 3) := by decide +kernel
theorem d4 : decode yB 4 = .ok (.iload_n 3, 1) := by decide +kernel
theorem d5 : decode yB 5 = .ok (.ifCond (.ne) 22, 3) := by decide +kernel
theorem d27 : decode yB 27 = .ok (.getstatic 38, 3) := by decide +kernel
theorem d30 : decode yB 30 = .ok (.ifCond (.eq) 28, 3) := by decide +kernel
theorem d33 : decode yB 33 = .ok (.aload_n 1, 1) := by decide +kernel
theorem d34 : decode yB 34 = .ok (.iload_n 2, 1) := by decide +kernel
theorem d35 : decode yB 35 = .ok (.iload_n 3, 1) := by decide +kernel
theorem d36 : decode yB 36 = .ok (.invokestatic 177, 3) := by decide +kernel
theorem d39 : decode yB 39 = .ok (.astore 5, 2) := by decide +kernel
theorem d41 : decode yB 41 = .ok (.aload_n 0, 1) := by decide +kernel
theorem d42 : decode yB 42 = .ok (.aload 5, 2) := by decide +kernel
theorem d44 : decode yB 44 = .ok (.iload_n 3, 1) := by decide +kernel
theorem d45 : decode yB 45 = .ok (.invokestatic 47, 3) := by decide +kernel
theorem d48 : decode yB 48 = .ok (.putfield 15, 3) := by decide +kernel
theorem d51 : decode yB 51 = .ok (.aload_n 0, 1) := by decide +kernel
theorem d52 : decode yB 52 = .ok (.aload 5, 2) := by decide +kernel
theorem d54 : decode yB 54 = .ok (.putfield 9, 3) := by decide +kernel
theorem d57 : decode yB 57 = .ok (.return_, 1) := by decide +kernel
def site : List Cond := [.fieldLink "java/lang/String" 38 "java/lang/String" "COMPACT_STRINGS" "Z", Cmp3.tab, CodL.tab, .laysFinal "java/lang/String" "java/lang/String" "value" "[B", .fieldLink "java/lang/String" 9 "java/lang/String" "value" "[B", .laysFinal "java/lang/String" "java/lang/String" "coder" "B", .fieldLink "java/lang/String" 15 "java/lang/String" "coder" "B"] ++ objW "java/lang/String" 1 ++ staticW "java/lang/String" 177 Cmp3.yN ++ staticW "java/lang/String" 47 CodL.yN
def tab : Cond := tabOf yN yB 6 none site
def P (a : Addr) (D : Cell) (fV fC : Field) (b : Addr) (A : Cell) (z : Int32) (o len : Nat) (args : Array Value) (s : State) : Prop := args = #[.ref a, .ref b, .int (Int32.ofNat o), .int (Int32.ofNat len), .null] ∧ Blank "java/lang/String" a D s ∧ Found "java/lang/String" "value" "[B" fV s ∧ Found "java/lang/String" "coder" "B" fC s ∧ Ch b A s ∧ StaticIs s "java/lang/String" "COMPACT_STRINGS" "Z" (.int z) ∧ ¬ z = 0 ∧ 0 < len ∧ o + len ≤ A.slots.size ∧ len ≤ 536870912 ∧ ∀ i, i < len → ¬ 255 < cv A (o + i)
def E (a : Addr) (D : Cell) (fV fC : Field) (A : Cell) (o len : Nat) (r : Option Value) (s u : State) : Prop := Got a D fV fC A o len r s u
/-- len > 0, no char of the range above 255: a Latin-1 String of their low bytes -/
theorem law (l : Launch) (a : Addr) (D : Cell) (fV fC : Field) (b : Addr) (A : Cell) (z : Int32) (o len : Nat) : Law l yN 5 4 2 35 yB 6 none site (P a D fV fC b A z o len) (E a D fV fC A o len) [⟨a, fC.slot⟩, ⟨a, fV.slot⟩] 1 len := by
  refine Law.of_walk (plainFor_of_name (by decide +kernel)) (by decide +kernel) (by decide +kernel) (by decide) (fun _ _ h => by rw [h.1]; rfl) (fun _ U U' hal hh h => ⟨h.1, h.2.1.mv hal hh, h.2.2.1.al hal, h.2.2.2.1.al hal, h.2.2.2.2.1.mv hal hh, h.2.2.2.2.2.1.there hal hh, h.2.2.2.2.2.2⟩) (fun r U U' V V' h1 hal h2 h => Got.mv r U U' V V' h1 hal h2 h) ?_
  intro p e s m args below meth c s₁ X0 hexec hbytes hml hret hlk hnm hown hh0 W hP
  obtain ⟨rfl, hB, f1, f2, hA, s1, hz, l0, l1, l2, hp⟩ := hP
  have a31 := hA.1.2.2.2
  have c1 : Steps p.tables e below (s₁.setTop (entryFrame m #[.ref a, .ref b, .int (Int32.ofNat o), .int (Int32.ofNat len), .null] 6)) (s₁.setTop (mkF m 0 #[.val (.ref a), .val (.ref b), .val (.int (Int32.ofNat o)), .val (.int (Int32.ofNat len)), .val .null, .unset] [])) := entry rfl
  have c2 : Steps p.tables e below (s₁.setTop (entryFrame m #[.ref a, .ref b, .int (Int32.ofNat o), .int (Int32.ofNat len), .null] 6)) (s₁.setTop (mkF m 1 #[.val (.ref a), .val (.ref b), .val (.int (Int32.ofNat o)), .val (.int (Int32.ofNat len)), .val .null, .unset] [.ref a])) := c1.trans (by
    refine XS.aloadN X0.here hexec rfl (hb hbytes d0) rfl rfl ?_
    exact Steps.refl _)
  obtain ⟨T3, X3, q3, st3⟩ := X0.oinit hexec hown (wks W (objW "java/lang/String" 1)) (g := (mkF m 1 #[.val (.ref a), .val (.ref b), .val (.int (Int32.ofNat o)), .val (.int (Int32.ofNat len)), .val .null, .unset] [.ref a])) rfl (by rw [hml]; rfl) (rest := []) rfl (hb hbytes d1) (W := 0) (by show 2 * 0 + 0 ≤ _; decide) (Nat.le_of_ble_eq_true rfl) (Nat.le_of_ble_eq_true rfl)
  have hh3 := q3.trans hh0
  have c4 : Steps p.tables e below (s₁.setTop (entryFrame m #[.ref a, .ref b, .int (Int32.ofNat o), .int (Int32.ofNat len), .null] 6)) (T3.setTop (mkF m 27 #[.val (.ref a), .val (.ref b), .val (.int (Int32.ofNat o)), .val (.int (Int32.ofNat len)), .val .null, .unset] [])) := (c2.trans (st3 _ (Steps.refl _))).trans (by
    refine XS.iloadN X3.here hexec rfl (hb hbytes d4) rfl ?_
    refine XS.ifYes X3.here hexec rfl (pc0 := 5) rfl (hb hbytes d5) rfl (i0_ne_t (nz32 (by omega) l0)) (by decide) rfl ?_
    exact Steps.refl _)
  obtain ⟨T5, X5, q5, st5⟩ := X3.sget hexec hown (wk W (.fieldLink "java/lang/String" 38 "java/lang/String" "COMPACT_STRINGS" "Z")) s1 (fun _ _ h => by rw [hh3]; exact h) (g := (mkF m 27 #[.val (.ref a), .val (.ref b), .val (.int (Int32.ofNat o)), .val (.int (Int32.ofNat len)), .val .null, .unset] [])) rfl (hb hbytes d27)
  have hh5 := q5.trans hh3
  have c6 : Steps p.tables e below (s₁.setTop (entryFrame m #[.ref a, .ref b, .int (Int32.ofNat o), .int (Int32.ofNat len), .null] 6)) (T5.setTop (mkF m 30 #[.val (.ref a), .val (.ref b), .val (.int (Int32.ofNat o)), .val (.int (Int32.ofNat len)), .val .null, .unset] [.int z])) := c4.trans (st5 _ (Steps.refl _))
  have c7 : Steps p.tables e below (s₁.setTop (entryFrame m #[.ref a, .ref b, .int (Int32.ofNat o), .int (Int32.ofNat len), .null] 6)) (T5.setTop (mkF m 36 #[.val (.ref a), .val (.ref b), .val (.int (Int32.ofNat o)), .val (.int (Int32.ofNat len)), .val .null, .unset] [.int (Int32.ofNat len), .int (Int32.ofNat o), .ref b])) := c6.trans (by
    refine XS.ifNo X5.here hexec rfl (hb hbytes d30) rfl (i0_eq_f hz) ?_
    refine XS.aloadN X5.here hexec rfl (hb hbytes d33) rfl rfl ?_
    refine XS.iloadN X5.here hexec rfl (hb hbytes d34) rfl ?_
    refine XS.iloadN X5.here hexec rfl (hb hbytes d35) rfl ?_
    exact Steps.refl _)
  obtain ⟨v8, T8, X8, E8, g8⟩ := X5.callS hexec (Cmp3.law l b A o len) hown (wks W (staticW "java/lang/String" 177 Cmp3.yN)) (wk W Cmp3.tab) (W := 0) (Nat.le_of_ble_eq_true rfl) (Nat.le_of_ble_eq_true rfl) (Nat.le_refl _) (by show 0 + len ≤ len; omega) (g := (mkF m 36 #[.val (.ref a), .val (.ref b), .val (.int (Int32.ofNat o)), .val (.int (Int32.ofNat len)), .val .null, .unset] [.int (Int32.ofNat len), .int (Int32.ofNat o), .ref b])) rfl (by rw [hml]; rfl) c7 (argsL := [.ref b, .int (Int32.ofNat o), .int (Int32.ofNat len)]) (rest := []) rfl rfl (by show 2 * 0 + 0 ≤ _; decide) (hb hbytes d36) (⟨rfl, hA.mv X5.warmed.alike hh5, l1, l2, hp⟩)
  obtain ⟨e8, z8⟩ := E8
  obtain ⟨rfl, N, n1, n2, n3, n4, n5, n6⟩ := NewArr.mv _ T5 s _ _ hh5.symm (Vm.Alike.refl _) rfl e8
  rw [hh5] at z8
  have hB1 := hB.keep X8.warmed.alike (n6 _ _ hB.1)
  have hne : s.heap.size ≠ a := (Nat.ne_of_lt (Array.getElem?_eq_some_iff.mp hB.1).1).symm
  have c9 : Steps p.tables e below (s₁.setTop (entryFrame m #[.ref a, .ref b, .int (Int32.ofNat o), .int (Int32.ofNat len), .null] 6)) (T8.setTop (mkF m 39 #[.val (.ref a), .val (.ref b), .val (.int (Int32.ofNat o)), .val (.int (Int32.ofNat len)), .val .null, .unset] [.ref s.heap.size])) := g8
  have c10 : Steps p.tables e below (s₁.setTop (entryFrame m #[.ref a, .ref b, .int (Int32.ofNat o), .int (Int32.ofNat len), .null] 6)) (T8.setTop (mkF m 45 #[.val (.ref a), .val (.ref b), .val (.int (Int32.ofNat o)), .val (.int (Int32.ofNat len)), .val .null, .val (.ref s.heap.size)] [.int (Int32.ofNat N.slots.size), .ref s.heap.size, .ref a])) := by
    have hc : Steps p.tables e below (s₁.setTop (entryFrame m #[.ref a, .ref b, .int (Int32.ofNat o), .int (Int32.ofNat len), .null] 6)) (T8.setTop (mkF m 45 #[.val (.ref a), .val (.ref b), .val (.int (Int32.ofNat o)), .val (.int (Int32.ofNat len)), .val .null, .val (.ref s.heap.size)] [.int (Int32.ofNat len), .ref s.heap.size, .ref a])) := c9.trans (by
      refine XS.astore X8.here hexec rfl (hb hbytes d39) rfl rfl rfl ?_
      refine XS.aloadN X8.here hexec rfl (hb hbytes d41) rfl rfl ?_
      refine XS.aload X8.here hexec rfl (hb hbytes d42) rfl rfl ?_
      refine XS.iloadN X8.here hexec rfl (hb hbytes d44) rfl ?_
      exact Steps.refl _)
    rw [n4]; exact hc
  obtain ⟨v11, T11, X11, E11, g11⟩ := X8.callS hexec (CodL.law l s.heap.size N) hown (wks W (staticW "java/lang/String" 47 CodL.yN)) (wk W CodL.tab) (W := 1) (Nat.le_of_ble_eq_true rfl) (Nat.le_of_ble_eq_true rfl) (Nat.le_refl _) (by show 0 + len + 0 ≤ len; omega) (g := (mkF m 45 #[.val (.ref a), .val (.ref b), .val (.int (Int32.ofNat o)), .val (.int (Int32.ofNat len)), .val .null, .val (.ref s.heap.size)] [.int (Int32.ofNat N.slots.size), .ref s.heap.size, .ref a])) rfl (by rw [hml]; rfl) c10 (argsL := [.ref s.heap.size, .int (Int32.ofNat N.slots.size)]) (rest := [.ref a]) rfl rfl (by show 2 * 0 + (1 + 0) ≤ _; decide) (hb hbytes d45) (⟨rfl, n1⟩)
  obtain ⟨rfl, q11⟩ := E11
  have hB11 := hB1.mv (X8.warmed.alike.symm.trans X11.warmed.alike) q11
  have c12 : Steps p.tables e below (s₁.setTop (entryFrame m #[.ref a, .ref b, .int (Int32.ofNat o), .int (Int32.ofNat len), .null] 6)) (T11.setTop (mkF m 48 #[.val (.ref a), .val (.ref b), .val (.int (Int32.ofNat o)), .val (.int (Int32.ofNat len)), .val .null, .val (.ref s.heap.size)] [.int 0, .ref a])) := g11
  obtain ⟨T13, X13, p13, bl13, sl13, st13⟩ := X11.finit hexec hown (wk W (.fieldLink "java/lang/String" 15 "java/lang/String" "coder" "B")) (Or.inr ⟨_, (wk W (.laysFinal "java/lang/String" "java/lang/String" "coder" "B"))⟩) (Or.inl ⟨rfl, hnm⟩) f2 (Or.inl rfl) hB11 (t := .byte) (by decide +kernel) rfl (g := (mkF m 48 #[.val (.ref a), .val (.ref b), .val (.int (Int32.ofNat o)), .val (.int (Int32.ofNat len)), .val .null, .val (.ref s.heap.size)] [.int 0, .ref a])) rfl (rest := []) rfl (hb hbytes d48)
  have c14 : Steps p.tables e below (s₁.setTop (entryFrame m #[.ref a, .ref b, .int (Int32.ofNat o), .int (Int32.ofNat len), .null] 6)) (T13.setTop (mkF m 54 #[.val (.ref a), .val (.ref b), .val (.int (Int32.ofNat o)), .val (.int (Int32.ofNat len)), .val .null, .val (.ref s.heap.size)] [.ref s.heap.size, .ref a])) := (c12.trans (st13 _ (Steps.refl _))).trans (by
    refine XS.aloadN X13.here hexec rfl (hb hbytes d51) rfl rfl ?_
    refine XS.aload X13.here hexec rfl (hb hbytes d52) rfl rfl ?_
    exact Steps.refl _)
  obtain ⟨T15, X15, p15, bl15, sl15, st15⟩ := X13.finit hexec hown (wk W (.fieldLink "java/lang/String" 9 "java/lang/String" "value" "[B")) (Or.inr ⟨_, (wk W (.laysFinal "java/lang/String" "java/lang/String" "value" "[B"))⟩) (Or.inl ⟨rfl, hnm⟩) f1 (Or.inl rfl) bl13 (t := (.array .byte)) (by decide +kernel) rfl (g := (mkF m 54 #[.val (.ref a), .val (.ref b), .val (.int (Int32.ofNat o)), .val (.int (Int32.ofNat len)), .val .null, .val (.ref s.heap.size)] [.ref s.heap.size, .ref a])) rfl (rest := []) rfl (hb hbytes d54)
  have c16 : Steps p.tables e below (s₁.setTop (entryFrame m #[.ref a, .ref b, .int (Int32.ofNat o), .int (Int32.ofNat len), .null] 6)) (T15.setTop (mkF m 57 #[.val (.ref a), .val (.ref b), .val (.int (Int32.ofNat o)), .val (.int (Int32.ofNat len)), .val .null, .val (.ref s.heap.size)] [])) := c14.trans (st15 _ (Steps.refl _))
  have ap := apart (Or.inr ⟨_, (wk W (.laysFinal "java/lang/String" "java/lang/String" "value" "[B"))⟩) (Or.inr ⟨_, (wk W (.laysFinal "java/lang/String" "java/lang/String" "coder" "B"))⟩) f1 f2 (t₁ := .array .byte) (t₂ := .byte) (by decide +kernel) (by decide +kernel) (by decide)
  have al := X8.warmed.alike.symm.trans X15.warmed.alike
  have n7 : T11.heap[s.heap.size]? = some N := by rw [q11]; exact n1.1
  exact ⟨T15, none, _, _, _, X15, by simp, rfl, by omega, (fun _ => rfl), ⟨rfl, _, N, bl15, ((Same.refl D _).set _ (by simp)).set _ (by simp), sl15, (Cell.slots_setSlot_ne _ ap).trans sl13, n1.keep al (p15.other hne (p13.other hne n7)), n2, by rw [al.findClass]; exact n3, n4, n5, fun y c h1 h2 => p15.other h1 (p13.other h1 (by rw [q11]; exact n6 y c h2)), by rw [p15.2.2, p13.2.2, q11]; exact z8⟩, fun fs hl => c16.trans (X15.returnOut hexec hret (hb hbytes d57) hl)⟩
end New4
namespace New1
def yN : MethodName := ⟨"java/lang/String", "<init>", "([C)V"⟩
abbrev yB : ByteArray := jdk_42_method_3_code
theorem d0 : decode yB 0 = .ok (.aload_n 0, 1) := by decide +kernel
theorem d1 : decode yB 1 = .ok (.aload_n 1, 1) := by decide +kernel
theorem d2 : decode yB 2 = .ok (.iconst 0, 1) := by decide +kernel
theorem d3 : decode yB 3 = .ok (.aload_n 1, 1) := by decide +kernel
theorem d4 : decode yB 4 = .ok (.arraylength, 1) := by decide +kernel
theorem d5 : decode yB 5 = .ok (.aconst_null, 1) := by decide +kernel
theorem d6 : decode yB 6 = .ok (.invokespecial 27, 3) := by decide +kernel
theorem d9 : decode yB 9 = .ok (.return_, 1) := by decide +kernel
def site : List Cond := [New4.tab] ++ initW "java/lang/String" 27 New4.yN
def tab : Cond := tabOf yN yB 2 none site
def P (a : Addr) (D : Cell) (fV fC : Field) (b : Addr) (A : Cell) (z : Int32) (args : Array Value) (s : State) : Prop := args = #[.ref a, .ref b] ∧ Blank "java/lang/String" a D s ∧ Found "java/lang/String" "value" "[B" fV s ∧ Found "java/lang/String" "coder" "B" fC s ∧ Ch b A s ∧ StaticIs s "java/lang/String" "COMPACT_STRINGS" "Z" (.int z) ∧ ¬ z = 0 ∧ 0 < A.slots.size ∧ A.slots.size ≤ 536870912 ∧ ∀ i, i < A.slots.size → ¬ 255 < cv A i
def E (a : Addr) (D : Cell) (fV fC : Field) (A : Cell) (r : Option Value) (s u : State) : Prop := Got a D fV fC A 0 A.slots.size r s u
/-- new String(chars), not empty, no char above 255: a Latin-1 String of their low bytes -/
theorem law (l : Launch) (a : Addr) (D : Cell) (fV fC : Field) (b : Addr) (A : Cell) (z : Int32) : Law l yN 2 1 3 52 yB 2 none site (P a D fV fC b A z) (E a D fV fC A) [⟨a, fC.slot⟩, ⟨a, fV.slot⟩] 1 A.slots.size := by
  refine Law.of_walk (plainFor_of_name (by decide +kernel)) (by decide +kernel) (by decide +kernel) (by decide) (fun _ _ h => by rw [h.1]; rfl) (fun _ U U' hal hh h => ⟨h.1, h.2.1.mv hal hh, h.2.2.1.al hal, h.2.2.2.1.al hal, h.2.2.2.2.1.mv hal hh, h.2.2.2.2.2.1.there hal hh, h.2.2.2.2.2.2⟩) (fun r U U' V V' h1 hal h2 h => Got.mv r U U' V V' h1 hal h2 h) ?_
  intro p e s m args below meth c s₁ X0 hexec hbytes hml hret hlk hnm hown hh0 W hP
  obtain ⟨rfl, hB, f1, f2, hA, s1, hz, l0, l2, hp⟩ := hP
  have c1 : Steps p.tables e below (s₁.setTop (entryFrame m #[.ref a, .ref b] 2)) (s₁.setTop (mkF m 0 #[.val (.ref a), .val (.ref b)] [])) := entry rfl
  have c2 : Steps p.tables e below (s₁.setTop (entryFrame m #[.ref a, .ref b] 2)) (s₁.setTop (mkF m 6 #[.val (.ref a), .val (.ref b)] [.null, .int (Int32.ofNat A.slots.size), .int 0, .ref b, .ref a])) := c1.trans (by
    refine XS.aloadN X0.here hexec rfl (hb hbytes d0) rfl rfl ?_
    refine XS.aloadN X0.here hexec rfl (hb hbytes d1) rfl rfl ?_
    refine iconstV X0.here hexec rfl 0 (hb hbytes d2) (by decide) ?_
    refine XS.aloadN X0.here hexec rfl (hb hbytes d3) rfl rfl ?_
    refine X0.alen hexec (hA.1.mv X0.warmed.alike hh0) rfl rfl (hb hbytes d4) ?_
    refine XS.aconstNull X0.here hexec rfl (hb hbytes d5) ?_
    exact Steps.refl _)
  obtain ⟨v3, T3, X3, E3, g3⟩ := X0.callN hexec (New4.law l a D fV fC b A z 0 A.slots.size) rfl hown (wks W (initW "java/lang/String" 27 New4.yN)) (W New4.tab (by simp only [site, List.mem_cons, List.mem_append, true_or, or_true])) (W := 0) (Nat.le_of_ble_eq_true rfl) (Nat.le_of_ble_eq_true rfl) (Nat.le_refl _) (by show 0 + A.slots.size ≤ A.slots.size; omega) (g := (mkF m 6 #[.val (.ref a), .val (.ref b)] [.null, .int (Int32.ofNat A.slots.size), .int (Int32.ofNat 0), .ref b, .ref a])) rfl (by rw [hml]; rfl) c2 (argsL := [.ref b, .int (Int32.ofNat 0), .int (Int32.ofNat A.slots.size), .null]) (rest := []) rfl rfl (by show 2 * 0 + 0 ≤ _; decide) (hb hbytes d6) (⟨rfl, hB.mv X0.warmed.alike hh0, f1.al X0.warmed.alike, f2.al X0.warmed.alike, hA.mv X0.warmed.alike hh0, s1.there X0.warmed.alike hh0, hz, l0, by omega, l2, fun i hi => by rw [Nat.zero_add]; exact hp i hi⟩)
  have e0 := Got.mv _ s₁ s _ _ hh0.symm (Vm.Alike.refl _) rfl E3
  obtain rfl := e0.1
  have c4 : Steps p.tables e below (s₁.setTop (entryFrame m #[.ref a, .ref b] 2)) (T3.setTop (mkF m 9 #[.val (.ref a), .val (.ref b)] [])) := g3
  exact ⟨T3, none, _, _, _, X3, by simp, rfl, by omega, (fun _ => rfl), e0, fun fs hl => c4.trans (X3.returnOut hexec hret (hb hbytes d9) hl)⟩
theorem pays {l : Launch} {R : Room} {p : Program} {e : Env} {below : List Frame} {s : State} {sargs : Array Value} {len W : Nat} (a : Addr) (D : Cell) (fV fC : Field) (b : Addr) (A : Cell) (z : Int32) (htab : tab.before sargs s = true) (hfr : 4 ≤ R.frames) (hlo : W + 65 ≤ R.locals) :
    Back l R p e below s sargs yN len W (fun A₁ a₁ => A₁.cells + 1 ≤ R.cells ∧ A₁.slots + A.slots.size ≤ R.slots ∧ P a D fV fC b A z a₁ A₁.U) (fun A₁ _ v₁ B₁ => E a D fV fC A v₁ A₁.U B₁.U ∧ B₁.locs = A₁.locs ++ [⟨a, fC.slot⟩, ⟨a, fV.slot⟩] ∧ B₁.cells = A₁.cells + 1 ∧ B₁.slots = A₁.slots + A.slots.size) :=
  (law l a D fV fC b A z).pays htab hfr (by omega)
end New1
end StrChars
namespace StrChars.Road
open Jvm Sem ClassFile Op Lib Jvm.Stand Jvm.Free Jvm.Free.XT
open Jvm.Lib.Cold (StaticIs)
abbrev ST : String := "java/lang/String"
/-- every table word that New1's law asks, flat -/
abbrev words : List Jvm.Cond := [.code New1.yN New1.yB 2 none, .initialized ST, .methodLink ST 27 New4.yN, .instanceMethod New4.yN,
  .code New4.yN New4.yB 6 none, .fieldLink ST 38 ST "COMPACT_STRINGS" "Z", .laysFinal ST ST "value" "[B", .fieldLink ST 9 ST "value" "[B", .laysFinal ST ST "coder" "B", .fieldLink ST 15 ST "coder" "B",
  .methodLink ST 1 Lib.objectInit, .instanceMethod Lib.objectInit, .code Lib.objectInit ⟨#[0xb1]⟩ 1 none, .methodLink ST 177 Cmp3.yN, .static Cmp3.yN, .methodLink ST 47 CodL.yN, .static CodL.yN,
  .code Cmp3.yN Cmp3.yB 6 (some (.array .byte)), .initialized U16, .arrayClass .byte, .methodLink U16 115 Cmp5.yN, .static Cmp5.yN, .code Cmp5.yN Cmp5.yB 7 (some .int), .code CodL.yN CodL.yB 2 (some .byte)]
theorem tab_of {a : Array Value} {s : State} (h : ∀ w ∈ words, w.before a s = true) : New1.tab.before a s = true := by
  have h5 : Cmp5.tab.before a s = true := unparts (wk h (.code Cmp5.yN Cmp5.yB 7 (some .int))) (wks h (.initialized Cmp5.yN.cls :: Cmp5.site))
  have hc : CodL.tab.before a s = true := unparts (wk h (.code CodL.yN CodL.yB 2 (some .byte))) (wks h (.initialized CodL.yN.cls :: CodL.site))
  have q5 : ∀ w ∈ Cmp5.tab :: words, w.before a s = true := fun w hw => (List.mem_cons.mp hw).elim (fun e => e ▸ h5) (h w)
  have h3 : Cmp3.tab.before a s = true := unparts (wk q5 (.code Cmp3.yN Cmp3.yB 6 (some (.array .byte)))) (wks q5 (.initialized Cmp3.yN.cls :: Cmp3.site))
  have q3 : ∀ w ∈ Cmp3.tab :: CodL.tab :: words, w.before a s = true := fun w hw => (List.mem_cons.mp hw).elim (fun e => e ▸ h3) fun hw => (List.mem_cons.mp hw).elim (fun e => e ▸ hc) (h w)
  have h4 : New4.tab.before a s = true := unparts (wk q3 (.code New4.yN New4.yB 6 none)) (wks q3 (.initialized New4.yN.cls :: New4.site))
  have q4 : ∀ w ∈ New4.tab :: words, w.before a s = true := fun w hw => (List.mem_cons.mp hw).elim (fun e => e ▸ h4) (h w)
  exact unparts (wk q4 (.code New1.yN New1.yB 2 none)) (wks q4 (.initialized New1.yN.cls :: New1.site))
/-- the words ride from the start Z to the walk's own state -/
theorem moved {Z s : State} {a0 args : Array Value} (hZ : Z.Warmed39 s.vm) (hw : ∀ d ∈ words, d.before a0 Z = true) : ∀ d ∈ words, d.before args s = true := fun d hd => by
  have q := hw d hd
  have t : ∀ d ∈ words, d = .arrayClass .byte ∨ (d.onTables && d.keepsFace) = true := by decide +kernel
  rcases t d hd with rfl | t
  · exact RoadKit.mvA hZ q
  · exact RoadKit.mv hZ q t
/-- WHAT COMES BACK, over the tables of the start Z: h the heap at the call, h' behind it -/
def Q (Z : State) (x : Addr) (A : Cell) (h : Heap) (v : Option Value) (h' : Heap) (L : List Loc) : Prop := v = none ∧ (∀ y ∈ L, y.base = x) ∧ RoadKit.Keep h h' [x] ∧ h'.size = h.size + 1 ∧ RoadKit.Exa Z h' x ST ∧ RoadKit.Fld Z h' x ST "value" "[B" (.ref h.size) ∧ RoadKit.Fld Z h' x ST "coder" "B" (.int 0) ∧
  (∃ V : Cell, RoadKit.Arr Z h' h.size V .byte ∧ V.vm = .none ∧ Z.vm.findClass "[B" = some V.cls ∧ V.slots.size = A.slots.size ∧ ∀ j, j < A.slots.size → V.slots[j]? = some (.int (lo8 (cv A j)))) ∧
  ∀ (O n d : String) (w : Value), RoadKit.Fld Z h x O n d w → RoadKit.slotOf Z O n d ≠ RoadKit.slotOf Z ST "value" "[B" → RoadKit.slotOf Z O n d ≠ RoadKit.slotOf Z ST "coder" "B" → RoadKit.Fld Z h' x O n d w
/-- **new String(chars) AT A CALL, IN THE ROAD'S FORM**: for specialBack behind newO: x the fresh String, b the char[] with the cell A -/
theorem back {p : Program} {l : Launch} {e : Env} {R : Room} {s : State} {args : Array Value} {below : List Frame} {len W : Nat} {Z : State} {a0 : Array Value} {h : Heap} (hZ : Z.Warmed39 s.vm) (hw : ∀ d ∈ words, d.before a0 Z = true) {kI : Nat} (wi : (Jvm.Cond.instantiable ST kI).before a0 Z = true)
    {x b : Addr} {A : Cell} {z : Int32} {v0 c0 : Value} (E : RoadKit.Exa Z h x ST) (V : RoadKit.Fld Z h x ST "value" "[B" v0) (C : RoadKit.Fld Z h x ST "coder" "B" c0) (K : RoadKit.Arr Z h b A .char) (hty : Typed .char A) (S : RoadKit.Sta Z h ST "COMPACT_STRINGS" "Z" (.int z)) (hz : ¬ z = 0)
    (l0 : 0 < A.slots.size) (l2 : A.slots.size ≤ 536870912) (hp : ∀ i, i < A.slots.size → ¬ 255 < cv A i) (hfr : 4 ≤ R.frames) (hlo : W + 65 ≤ R.locals) :
    Back l R p e below s args New1.yN len W (fun P a => a = #[.ref x, .ref b] ∧ P.U.heap = h ∧ P.cells + 1 ≤ R.cells ∧ P.slots + A.slots.size ≤ R.slots)
      (fun P _ v B => ∃ L, Q Z x A h v B.U.heap L ∧ B.locs = P.locs ++ L ∧ B.cells = P.cells + 1 ∧ B.slots = P.slots + A.slots.size) := by
  intro m meth c P g ig mk a X hg hsize hdg hW hn hp'
  obtain ⟨rfl, rfl, r1, r2⟩ := hp'
  have al : Z.vm.Alike P.U.vm := hZ.alike.trans X.warmed.alike
  obtain ⟨D, cfV, kV, iV, fV, hD, gV, stV, knV, obV, asV, slV⟩ := id V
  obtain ⟨D', cfC, kC, iC, fC, hD', gC, stC, -, -, asC, slC⟩ := id C
  cases hD.symm.trans hD'
  obtain ⟨D2, kD, e1, e2, e3, e4, e5⟩ := id E
  cases hD.symm.trans e1
  obtain ⟨c2, k2, i1, i2, i3, -⟩ := Cond.instantiable_spec wi
  cases e2.symm.trans i1
  cases e3.symm.trans i2
  obtain ⟨kU, u1, u2⟩ := al.2.2 _ _ e3
  have hB : Blank ST x D P.U := ⟨hD, ⟨knV, fun q hq => by rw [hq] at obV; cases obV⟩, by rw [al.findClass]; exact e2, kU, u1, by rw [u2]; exact i3, by rw [u2]; exact e5 i3⟩
  have F1 : Found ST "value" "[B" fV P.U := ⟨SBG.found_only al ⟨cfV, kV, iV, gV⟩, stV⟩
  have F2 : Found ST "coder" "B" fC P.U := ⟨SBG.found_only al ⟨cfC, kC, iC, gC⟩, stC⟩
  have hA : Ch b A P.U := ⟨⟨K.1, State.isArrayOf_alike al K.2.1, K.2.2, by omega⟩, hty⟩
  have hS : StaticIs P.U ST "COMPACT_STRINGS" "Z" (.int z) := by
    obtain ⟨cfS, iS, kS, fS, st, cS, t1, t2, t3, t4, t5, t6, t7⟩ := S
    exact StaticIs.there (s := { Z with heap := P.U.heap }) ⟨cfS, iS, kS, fS, st, cS, t1, t2, t3, t4, t5, (fun q => by rw [q] at t6; cases t6), t7⟩ al rfl
  obtain ⟨v, B, X', ⟨⟨hv, E', V', q1, q2, q3, q4, q5, q6, q7, q8, q9, q10, q11⟩, hl, hc, hs⟩, st⟩ := New1.pays x D fV fC b A z (tab_of (moved hZ hw)) hfr hlo m meth c P g ig mk _ X hg hsize hdg hW hn ⟨r1, r2, rfl, hB, F1, F2, hA, hS, hz, l0, l2, hp⟩
  have al' : Z.vm.Alike B.U.vm := hZ.alike.trans X'.warmed.alike
  have hsz : E'.slots.size = D.slots.size := by
    obtain ⟨-, -, -, kB, w1, w2, w3⟩ := q1
    obtain ⟨kB', y1, y2⟩ := al'.2.2 _ _ e3
    rw [q2.2.1] at w1
    cases w1.symm.trans y1
    rw [w3, e5 i3, y2]
  refine ⟨v, B, X', ⟨_, ⟨hv, ?_, ⟨by omega, fun y cy hy hn' => q10 y cy (by simpa using hn') hy, fun y cy hy => ?_⟩, q11, ⟨E', _, q1.1, by rw [q2.2.1]; exact e2, by rw [q2.2.1]; exact e3, by rw [q2.1]; exact obV, fun _ => by rw [hsz]; exact e5 i3⟩,
    ⟨E', cfV, kV, iV, fV, q1.1, gV, stV, by rw [q2.1]; exact knV, by rw [q2.1]; exact obV, by rw [q2.2.1]; exact asV, q3⟩, ⟨E', cfC, kC, iC, fC, q1.1, gC, stC, by rw [q2.1]; exact knV, by rw [q2.1]; exact obV, by rw [q2.2.1]; exact asC, q4⟩,
    ⟨V', ⟨q5.1, State.isArrayOf_alike al'.symm q5.2.1, q5.2.2.1⟩, q6, by rw [← al'.findClass]; exact q7, q8, fun j hj => by have := q9 j hj; rwa [Nat.zero_add] at this⟩, fun O n d w F n1 n2 => ?_⟩, hl, hc, hs⟩, st⟩
  · intro y hy
    simp only [List.mem_cons, List.not_mem_nil, or_false] at hy
    rcases hy with rfl | rfl <;> rfl
  · by_cases q : y = x
    · subst q
      cases hD.symm.trans hy
      exact ⟨E', q1.1, q2.2.1, q2.1, hsz⟩
    · exact ⟨cy, q10 y cy q hy, rfl, rfl, rfl⟩
  · obtain ⟨D3, cf, k, i, f, g1, g2, g3, g4, g5, g6, g7⟩ := F
    cases hD.symm.trans g1
    simp only [RoadKit.slotOf, g2, gV, gC, Option.map_some, Option.getD_some] at n1 n2
    exact ⟨E', cf, k, i, f, q1.1, g2, g3, by rw [q2.1]; exact g4, by rw [q2.1]; exact g5, by rw [q2.2.1]; exact g6, by rw [q2.2.2 f.slot (by simp [n1, n2])]; exact g7⟩
end StrChars.Road
namespace StrChars.Road
open Jvm Sem ClassFile Op Lib Jvm.Stand Jvm.Free Jvm.Free.XT
/-- WHAT COMES BACK, the byte[] as a list of values -/
def QA (Z : State) (x : Addr) (zn : Int32) (cs : List Int32) (h : Heap) (v : Option Value) (h' : Heap) (L : List Loc) : Prop := v = none ∧ (∀ y ∈ L, y.base = x) ∧ RoadKit.Keep h h' [x] ∧ h'.size = h.size + 1 ∧ RoadKit.Exa Z h' x ST ∧ RoadKit.Fld Z h' x ST "value" "[B" (.ref h.size) ∧ RoadKit.Fld Z h' x ST "coder" "B" (.int 0) ∧
  (∃ kb, Z.vm.findClass "[B" = some kb ∧ RoadKit.Arv Z h' h.size kb .byte zn (cs.map fun c => .int (lo8 c)) (.int 0)) ∧
  ∀ (O n d : String) (w : Value), RoadKit.Fld Z h x O n d w → RoadKit.slotOf Z O n d ≠ RoadKit.slotOf Z ST "value" "[B" → RoadKit.slotOf Z O n d ≠ RoadKit.slotOf Z ST "coder" "B" → RoadKit.Fld Z h' x O n d w
/-- **new String(chars) AT A CALL, THE ARRAYS AS LISTS**: the char[] at b holds cs, not empty, no char above 255 -/
theorem backArv {p : Program} {l : Launch} {e : Env} {R : Room} {s : State} {args : Array Value} {below : List Frame} {len W : Nat} {Z : State} {a0 : Array Value} {h : Heap} (hZ : Z.Warmed39 s.vm) (hw : ∀ d ∈ words, d.before a0 Z = true) {kI : Nat} (wi : (Jvm.Cond.instantiable ST kI).before a0 Z = true)
    {x b : Addr} {k : ClassId} {zn z : Int32} {cs : List Int32} {dv v0 c0 : Value} (E : RoadKit.Exa Z h x ST) (V : RoadKit.Fld Z h x ST "value" "[B" v0) (C : RoadKit.Fld Z h x ST "coder" "B" c0) (K : RoadKit.Arv Z h b k .char zn (cs.map Value.int) dv) (S : RoadKit.Sta Z h ST "COMPACT_STRINGS" "Z" (.int z)) (hz : ¬ z = 0)
    (hlen : zn.toNatClampNeg = cs.length) (h0 : 0 < cs.length) (hbig : cs.length ≤ 536870912) (hall : ∀ c ∈ cs, ¬ 255 < c) (hfr : 4 ≤ R.frames) (hlo : W + 65 ≤ R.locals) :
    Back l R p e below s args New1.yN len W (fun P a => a = #[.ref x, .ref b] ∧ P.U.heap = h ∧ P.cells + 1 ≤ R.cells ∧ P.slots + cs.length ≤ R.slots)
      (fun P _ v B => ∃ L, QA Z x zn cs h v B.U.heap L ∧ B.locs = P.locs ++ L ∧ B.cells = P.cells + 1 ∧ B.slots = P.slots + cs.length) := by
  obtain ⟨A, K1, K2, K3, K4, K5, K6⟩ := K
  have e : A.slots.size = cs.length := K3.trans hlen
  have hat : ∀ (i : Nat) (hi : i < cs.length), A.slots[i]? = some (.int cs[i]) := fun i hi => by rw [K5 i (by omega)]; simp [List.getD_eq_getElem?_getD, hi]
  have hcv : ∀ (i : Nat) (hi : i < cs.length), cv A i = cs[i] := fun i hi => by unfold cv; rw [hat i hi]
  have hty : Typed .char A := fun i v hv => by
    have hi : i < A.slots.size := (Array.getElem?_eq_some_iff.mp hv).1
    have q := K5 i hi
    rw [hv] at q
    rw [Option.some.inj q]
    exact K6 i hi
  refine Back.mono (back hZ hw wi E V C K1 hty S hz (by omega) (by omega) (fun i hi => by rw [hcv i (by omega)]; exact hall _ (List.getElem_mem _)) hfr hlo) (fun P a hp => ⟨hp.1, hp.2.1, hp.2.2.1, by rw [e]; exact hp.2.2.2⟩) (fun P a v B hp hq => ?_)
  obtain ⟨L, ⟨q1, q2, q3, q4, q5, q6, q7, ⟨V', v1, v2, v3, v4, v5⟩, q9⟩, hl, hc, hs⟩ := hq
  refine ⟨L, ⟨q1, q2, q3, q4, q5, q6, q7, ⟨V'.cls, v3, V', v1, rfl, by rw [v4, e, hlen], K4, fun i hi => ?_, fun i hi => ?_⟩, q9⟩, hl, hc, by rw [hs, e]⟩
  · have hi' : i < cs.length := by omega
    rw [v5 i (by omega), hcv i hi']; simp [List.getD_eq_getElem?_getD, hi']
  · have hi' : i < cs.length := by omega
    simp only [List.getD_eq_getElem?_getD, List.getElem?_map, List.getElem?_eq_getElem hi', Option.map_some, Option.getD_some]
    exact fits_lo8 _
end StrChars.Road
namespace StrChars.Road
open Jvm Sem ClassFile Op Lib Jvm.Stand Jvm.Free Jvm.Free.XT
/-- WHAT COMES BACK, in the writer's own shape -/
def QV (Z : State) (x : Addr) (N : Int32) (bs : List Int32) (h : Heap) (n0 : Nat) (v : Option Value) (h' : Heap) (L : List Loc) : Prop := v = none ∧ RoadKit.Fr n0 L ∧ RoadKit.Keep h h' [x] ∧ RoadKit.Exa Z h' x ST ∧ RoadKit.Fld Z h' x ST "coder" "B" (.int 0) ∧
  ∃ (t : Addr) (kb : ClassId), n0 ≤ t ∧ h.size ≤ t ∧ ¬ t = x ∧ RoadKit.Fld Z h' x ST "value" "[B" (.ref t) ∧ RoadKit.Arv Z h' t kb .byte N (bs.map Value.int) (.int 0)
/-- **new String(chars) AT A CALL, FOR THE WRITER**: a char[] of n known ints, each 0 to 255 -/
theorem backV {p : Program} {l : Launch} {e : Env} {R : Room} {s : State} {args : Array Value} {below : List Frame} {len W : Nat} {Z : State} {a0 : Array Value} {h : Heap} (hZ : Z.Warmed39 s.vm) (hw : ∀ d ∈ words, d.before a0 Z = true) {kI : Nat} (wi : (Jvm.Cond.instantiable ST kI).before a0 Z = true)
    {x b : Addr} {kC : ClassId} {cs bs : List Int32} {d v0 c0 : Value} {z N : Int32} {n n0 : Nat} (hx0 : n0 ≤ x) (hh0 : n0 ≤ h.size) (E : RoadKit.Exa Z h x ST) (V : RoadKit.Fld Z h x ST "value" "[B" v0) (C : RoadKit.Fld Z h x ST "coder" "B" c0) (K : RoadKit.Arv Z h b kC .char N (cs.map Value.int) d) (S : RoadKit.Sta Z h ST "COMPACT_STRINGS" "Z" (.int z)) (hz : ¬ z = 0)
    (hn : cs.length = n) (hN : N = Int32.ofNat n) (l0 : 0 < n) (l2 : n ≤ 4000) (hp : ∀ c ∈ cs, ¬ c < 0 ∧ ¬ (255 : Int32) < c) (hb : bs = cs.map (fun c => c.toInt8.toInt32)) (hfr : 4 ≤ R.frames) (hlo : W + 65 ≤ R.locals) :
    Back l R p e below s args (⟨"java/lang/String", "<init>", "([C)V"⟩ : MethodName) len W (fun P a => a = #[.ref x, .ref b] ∧ P.U.heap = h ∧ P.cells + 1 ≤ R.cells ∧ P.slots + n ≤ R.slots)
      (fun P _ v B => ∃ L, QV Z x N bs h n0 v B.U.heap L ∧ B.locs = P.locs ++ L ∧ B.cells = P.cells + 1 ∧ B.slots = P.slots + n) := by
  subst hn hN hb
  refine Back.mono (backArv hZ hw wi E V C K S hz (n32 (by omega)) l0 (by omega) (fun c hc => (hp c hc).2) hfr hlo) (fun P a hp => hp) (fun P a v B hp hq => ?_)
  obtain ⟨L, ⟨q1, q2, q3, q4, q5, q6, q7, ⟨kb, v1, v2⟩, q9⟩, hl, hc, hs⟩ := hq
  exact ⟨L, ⟨q1, fun y hy => by rw [q2 y hy]; exact hx0, q3, q5, q7, h.size, kb, hh0, Nat.le_refl _, Nat.ne_of_gt E.lt, q6, by rw [List.map_map]; exact v2⟩, hl, hc, hs⟩
end StrChars.Road
end Jvm.Pilot.@@N@@
namespace Jvm.Pilot.@@N@@
open Jvm Jvm.ClassFile Sem Op Lib Jvm.Free Jvm.Stand Jvm.LawKit Jvm.RoadKit Bundle Jvm.Pilot.@@N@@.Jvm.D
def own_Go (tb : Tables) (e : Env) (below : List Frame) (P : State → Prop) (A : State) : Prop := ∃ t, Steps tb e below A t ∧ P t
theorem own_go {tb : Tables} {e : Env} {below : List Frame} {P : State → Prop} {A B : State} (h : ∀ t, Steps tb e below B t → Steps tb e below A t) (g : own_Go tb e below P B) : own_Go tb e below P A := by
  obtain ⟨t, h1, h2⟩ := g
  exact ⟨t, h t h1, h2⟩
theorem own_cut {tb : Tables} {e : Env} {below : List Frame} {P : State → Prop} {A : State} (J : (State → Prop) → Prop) (h1 : J P) (h2 : J P → own_Go tb e below P A) : own_Go tb e below P A := h2 h1
theorem own_fin {tb : Tables} {e : Env} {below : List Frame} {A : State} {Qq : Outcome → State → Prop} (g : own_Go tb e below (fun t => ∃ o, t.status = .running ∧ Ended t below o ∧ Qq o t) A) : ∃ t o, Steps tb e below A t ∧ t.status = .running ∧ Ended t below o ∧ Qq o t := by
  obtain ⟨t, h1, o, h2, h3, h4⟩ := g
  exact ⟨t, o, h1, h2, h3, h4⟩
theorem own_ret {tb : Tables} {e : Env} {below : List Frame} {P : State → Prop} {A t : State} (h : Steps tb e below A t) (q : P t) : own_Go tb e below P A := ⟨t, h, q⟩
def own_M (l : Launch) (y : MethodName) (bytes : ByteArray) (maxL : Nat) (ret : Option FieldType) (ws : List Jvm.Cond) (rm : Room) (Z : State) (as : Array Value) (h0 : Heap) (Q : Option Value → Heap → List Loc → Prop) : Prop := MetFree l y (head1 (Jvm.Cond.code y bytes maxL ret :: ws) rm) (fun aR UR => aR = as ∧ Z.Warmed39 UR.vm ∧ UR.heap = h0) (fun _ _ _ _ _ => True) (fun _ UR oR UR' => ∃ vR LR, oR = .returned vR ∧ Q vR UR'.heap LR ∧ FrameEnd UR oR UR' LR rm.cells rm.slots)
theorem own_body {l : Launch} {y : MethodName} {bytes : ByteArray} {maxL : Nat} {ret : Option FieldType} {ws : List Jvm.Cond} {rm : Room} {Z : State} {as : Array Value} {h0 : Heap} {Q : Option Value → Heap → List Loc → Prop} {own : String} {f : MethodId → JFrame} (ho : y.cls = own) (hx : plainFor y = true) (ef : ∀ m, entryFrame m as maxL = f m) (k : ∀ (p : Program) (e : Env) (s : State) (m : MethodId) (below : List Frame) (meth : Method) (c : Code) (s₁ : State), BodyLoose p l y (head1 (Jvm.Cond.code y bytes maxL ret :: ws) rm) bytes maxL ret e s m as below meth c s₁ → c.maxLocals = maxL → Z.Warmed39 s.vm → s.heap = h0 → p.tables.exec = Jvm.exec → c.code = bytes → s.vm.findClass own = some m.cls → Stand p l e rm s m as below meth c s₁ [] 0 0 → s₁.heap = h0 → own_Go p.tables e below (fun t => ∃ o, t.status = .running ∧ Ended t below o ∧ ∃ vR LR, o = .returned vR ∧ Q vR t.heap LR ∧ FrameEnd s o t LR rm.cells rm.slots) (s₁.setTop (f m))) : own_M l y bytes maxL ret ws rm Z as h0 Q := by
  subst ho
  refine MetFree.of_bodySF hx hisR ?_
  intro p e s m args below meth c s₁ Bd hml hP hK
  obtain ⟨rfl, hZ, hh⟩ := hP
  exact own_fin (own_go (fun tT kK => castTop (ef m) kK) (k p e s m below meth c s₁ Bd hml hZ hh Bd.exec Bd.bytes (findClass_of_methodNamed Bd.named) (Stand.of_body Bd) (by rw [← hh, Bd.state]; rfl)))
def own_MH (l : Launch) (y : MethodName) (bytes : ByteArray) (maxL : Nat) (ret : Option FieldType) (ws : List Jvm.Cond) (rm : Room) (Z : State) (as : Array Value) (h0 : Heap) (Q : Option Value → Heap → List Loc → Prop) (EL : List (String × Nat)) : Prop := MetFree l y (head1 (Jvm.Cond.code y bytes maxL ret :: ws) rm) (fun aR UR => aR = as ∧ Z.Warmed39 UR.vm ∧ UR.heap = h0 ∧ CHv Z EL UR.vm h0) (fun _ _ _ _ _ => True) (fun _ UR oR UR' => ∃ vR LR, oR = .returned vR ∧ Q vR UR'.heap LR ∧ CHr Z EL UR.vm UR.heap UR'.vm UR'.heap ∧ ReturnedEndW UR oR UR' LR rm.cells rm.slots)
theorem own_bodyH {l : Launch} {y : MethodName} {bytes : ByteArray} {maxL : Nat} {ret : Option FieldType} {ws : List Jvm.Cond} {rm : Room} {Z : State} {as : Array Value} {h0 : Heap} {Q : Option Value → Heap → List Loc → Prop} {EL : List (String × Nat)} {own : String} {f : MethodId → JFrame} (ho : y.cls = own) (hx : plainFor y = true) (ef : ∀ m, entryFrame m as maxL = f m) (k : ∀ (p : Program) (e : Env) (s : State) (m : MethodId) (below : List Frame) (meth : Method) (c : Code) (s₁ : State), BodyLoose p l y (head1 (Jvm.Cond.code y bytes maxL ret :: ws) rm) bytes maxL ret e s m as below meth c s₁ → c.maxLocals = maxL → Z.Warmed39 s.vm → s.heap = h0 → p.tables.exec = Jvm.exec → c.code = bytes → s.vm.findClass own = some m.cls → Stand p l e rm s m as below meth c s₁ [] 0 0 → s₁.heap = h0 → s.Since s.vm h0.size → CHv Z EL s.vm h0 → own_Go p.tables e below (fun t => ∃ o, t.status = .running ∧ Ended t below o ∧ ∃ vR LR, o = .returned vR ∧ Q vR t.heap LR ∧ CHr Z EL s.vm s.heap t.vm t.heap ∧ ReturnedEndW s o t LR rm.cells rm.slots) (s₁.setTop (f m))) : own_MH l y bytes maxL ret ws rm Z as h0 Q EL := by
  subst ho
  refine MetFree.of_bodySF hx hisR ?_
  intro p e s m args below meth c s₁ Bd hml hP hK
  obtain ⟨rfl, hZ, hh, CH0⟩ := hP
  exact own_fin (own_go (fun tT kK => castTop (ef m) kK) (k p e s m below meth c s₁ Bd hml hZ hh Bd.exec Bd.bytes (findClass_of_methodNamed Bd.named) (Stand.of_body Bd) (by rw [← hh, Bd.state]; rfl) ((State.WarmedH.refl s).since _) CH0))
theorem own_sh {tb : Tables} {e : Env} {below : List Frame} {P : State → Prop} {T : State} {m : MethodId} (pc : Nat) (Ls : Array Slot) (st : List Value) (g : own_Go tb e below P (T.setTop (mkF m pc Ls st))) : own_Go tb e below P (T.setTop (mkF m pc Ls st)) := g
theorem own_nn {a b : Nat} (h : ¬ a = b) : a ≠ b := h
theorem own_ll {a b : Nat} (h : a < b) : a < b := h
theorem own_w {Z : State} {a0 : Array Value} {tab : List Jvm.Cond} (hw : ∀ d ∈ tab, d.before a0 Z = true) (i : Nat) {d : Jvm.Cond} (h : tab[i]? = some d) : d.before a0 Z = true := hw d (List.mem_of_getElem? h)
theorem own_iloadN {tb : Tables} [Ours tb] {e : Env} {below : List Frame} {T : State} {m : MethodId} {c : Code} {P : State → Prop} {pc : Nat} {Ls : Array Slot} {st : List Value} {bc : ByteArray} (h : At T m c below) (hx : tb.exec = Jvm.exec) (hby : c.code = bc) {k : Fin 4} {v : Int32} (hd : decode bc pc = .ok (.iload_n k, 1)) (hl : Ls[k.val]? = some (.val (.int v))) (g : own_Go tb e below P (T.setTop (mkF m (pc + 1) Ls ((.int v) :: st)))) : own_Go tb e below P (T.setTop (mkF m pc Ls (st))) := own_go (fun t k => XS.iloadN h hx rfl (hb hby hd) hl k) g
theorem own_iload {tb : Tables} [Ours tb] {e : Env} {below : List Frame} {T : State} {m : MethodId} {c : Code} {P : State → Prop} {pc : Nat} {Ls : Array Slot} {st : List Value} {bc : ByteArray} (h : At T m c below) (hx : tb.exec = Jvm.exec) (hby : c.code = bc) {k : Nat} {v : Int32} (hd : decode bc pc = .ok (.iload k, 2)) (hl : Ls[k]? = some (.val (.int v))) (g : own_Go tb e below P (T.setTop (mkF m (pc + 2) Ls ((.int v) :: st)))) : own_Go tb e below P (T.setTop (mkF m pc Ls (st))) := own_go (fun t k => XS.iload h hx rfl (hb hby hd) hl k) g
theorem own_aloadN {tb : Tables} [Ours tb] {e : Env} {below : List Frame} {T : State} {m : MethodId} {c : Code} {P : State → Prop} {pc : Nat} {Ls : Array Slot} {st : List Value} {bc : ByteArray} (h : At T m c below) (hx : tb.exec = Jvm.exec) (hby : c.code = bc) {k : Fin 4} {v : Value} (hd : decode bc pc = .ok (.aload_n k, 1)) (hl : Ls[k.val]? = some (.val v)) (hv : v.isRef = true) (g : own_Go tb e below P (T.setTop (mkF m (pc + 1) Ls (v :: st)))) : own_Go tb e below P (T.setTop (mkF m pc Ls (st))) := own_go (fun t k => XS.aloadN h hx rfl (hb hby hd) hl hv k) g
theorem own_aload {tb : Tables} [Ours tb] {e : Env} {below : List Frame} {T : State} {m : MethodId} {c : Code} {P : State → Prop} {pc : Nat} {Ls : Array Slot} {st : List Value} {bc : ByteArray} (h : At T m c below) (hx : tb.exec = Jvm.exec) (hby : c.code = bc) {k : Nat} {v : Value} (hd : decode bc pc = .ok (.aload k, 2)) (hl : Ls[k]? = some (.val v)) (hv : v.isRef = true) (g : own_Go tb e below P (T.setTop (mkF m (pc + 2) Ls (v :: st)))) : own_Go tb e below P (T.setTop (mkF m pc Ls (st))) := own_go (fun t k => XS.aload h hx rfl (hb hby hd) hl hv k) g
theorem own_istoreN {tb : Tables} [Ours tb] {e : Env} {below : List Frame} {T : State} {m : MethodId} {c : Code} {P : State → Prop} {pc : Nat} {Ls : Array Slot} {st : List Value} {bc : ByteArray} (h : At T m c below) (hx : tb.exec = Jvm.exec) (hby : c.code = bc) {k : Fin 4} {x : Int32} {l' : Array Slot} (hd : decode bc pc = .ok (.istore_n k, 1)) (hl : storeLocals Ls k.val (.int x) = some l') (g : own_Go tb e below P (T.setTop (mkF m (pc + 1) l' (st)))) : own_Go tb e below P (T.setTop (mkF m pc Ls ((.int x) :: st))) := own_go (fun t k => XS.istoreN h hx rfl (hb hby hd) rfl hl k) g
theorem own_istore {tb : Tables} [Ours tb] {e : Env} {below : List Frame} {T : State} {m : MethodId} {c : Code} {P : State → Prop} {pc : Nat} {Ls : Array Slot} {st : List Value} {bc : ByteArray} (h : At T m c below) (hx : tb.exec = Jvm.exec) (hby : c.code = bc) {k : Nat} {x : Int32} {l' : Array Slot} (hd : decode bc pc = .ok (.istore k, 2)) (hl : storeLocals Ls k (.int x) = some l') (g : own_Go tb e below P (T.setTop (mkF m (pc + 2) l' (st)))) : own_Go tb e below P (T.setTop (mkF m pc Ls ((.int x) :: st))) := own_go (fun t k => XS.istore h hx rfl (hb hby hd) rfl hl k) g
theorem own_astoreN {tb : Tables} [Ours tb] {e : Env} {below : List Frame} {T : State} {m : MethodId} {c : Code} {P : State → Prop} {pc : Nat} {Ls : Array Slot} {st : List Value} {bc : ByteArray} (h : At T m c below) (hx : tb.exec = Jvm.exec) (hby : c.code = bc) {k : Fin 4} {x : Value} {l' : Array Slot} (hd : decode bc pc = .ok (.astore_n k, 1)) (hv : x.isRef = true) (hl : storeLocals Ls k.val x = some l') (g : own_Go tb e below P (T.setTop (mkF m (pc + 1) l' (st)))) : own_Go tb e below P (T.setTop (mkF m pc Ls (x :: st))) := own_go (fun t k => XS.astoreN h hx rfl (hb hby hd) rfl hv hl k) g
theorem own_astore {tb : Tables} [Ours tb] {e : Env} {below : List Frame} {T : State} {m : MethodId} {c : Code} {P : State → Prop} {pc : Nat} {Ls : Array Slot} {st : List Value} {bc : ByteArray} (h : At T m c below) (hx : tb.exec = Jvm.exec) (hby : c.code = bc) {k : Nat} {x : Value} {l' : Array Slot} (hd : decode bc pc = .ok (.astore k, 2)) (hv : x.isRef = true) (hl : storeLocals Ls k x = some l') (g : own_Go tb e below P (T.setTop (mkF m (pc + 2) l' (st)))) : own_Go tb e below P (T.setTop (mkF m pc Ls (x :: st))) := own_go (fun t k => XS.astore h hx rfl (hb hby hd) rfl hv hl k) g
theorem own_iconst {tb : Tables} [Ours tb] {e : Env} {below : List Frame} {T : State} {m : MethodId} {c : Code} {P : State → Prop} {pc : Nat} {Ls : Array Slot} {st : List Value} {bc : ByteArray} (h : At T m c below) (hx : tb.exec = Jvm.exec) (hby : c.code = bc) {i : Int} {v : Int32} (hd : decode bc pc = .ok (.iconst i, 1)) (hv : Int32.ofInt i = v) (g : own_Go tb e below P (T.setTop (mkF m (pc + 1) Ls ((.int v) :: st)))) : own_Go tb e below P (T.setTop (mkF m pc Ls st)) := by
  subst hv
  exact own_go (fun t k => XS.iconst h hx rfl (hb hby hd) k) g
theorem own_bipush {tb : Tables} [Ours tb] {e : Env} {below : List Frame} {T : State} {m : MethodId} {c : Code} {P : State → Prop} {pc : Nat} {Ls : Array Slot} {st : List Value} {bc : ByteArray} (h : At T m c below) (hx : tb.exec = Jvm.exec) (hby : c.code = bc) {i : Int} {v : Int32} (hd : decode bc pc = .ok (.bipush i, 2)) (hv : (Int8.ofInt i).toInt32 = v) (g : own_Go tb e below P (T.setTop (mkF m (pc + 2) Ls ((.int v) :: st)))) : own_Go tb e below P (T.setTop (mkF m pc Ls st)) := by
  subst hv
  exact own_go (fun t k => XS.bipush h hx rfl (hb hby hd) k) g
theorem own_sipush {tb : Tables} [Ours tb] {e : Env} {below : List Frame} {T : State} {m : MethodId} {c : Code} {P : State → Prop} {pc : Nat} {Ls : Array Slot} {st : List Value} {bc : ByteArray} (h : At T m c below) (hx : tb.exec = Jvm.exec) (hby : c.code = bc) {i : Int} {v : Int32} (hd : decode bc pc = .ok (.sipush i, 3)) (hv : (Int16.ofInt i).toInt32 = v) (g : own_Go tb e below P (T.setTop (mkF m (pc + 3) Ls ((.int v) :: st)))) : own_Go tb e below P (T.setTop (mkF m pc Ls st)) := by
  subst hv
  exact own_go (fun t k => XS.sipush h hx rfl (hb hby hd) k) g
theorem own_aconstNull {tb : Tables} [Ours tb] {e : Env} {below : List Frame} {T : State} {m : MethodId} {c : Code} {P : State → Prop} {pc : Nat} {Ls : Array Slot} {st : List Value} {bc : ByteArray} (h : At T m c below) (hx : tb.exec = Jvm.exec) (hby : c.code = bc)  (hd : decode bc pc = .ok (.aconst_null, 1)) (g : own_Go tb e below P (T.setTop (mkF m (pc + 1) Ls (.null :: st)))) : own_Go tb e below P (T.setTop (mkF m pc Ls (st))) := own_go (fun t k => XS.aconstNull h hx rfl (hb hby hd)  k) g
theorem own_iadd {tb : Tables} [Ours tb] {e : Env} {below : List Frame} {T : State} {m : MethodId} {c : Code} {P : State → Prop} {pc : Nat} {Ls : Array Slot} {st : List Value} {bc : ByteArray} (h : At T m c below) (hx : tb.exec = Jvm.exec) (hby : c.code = bc) {x y v : Int32} (hd : decode bc pc = .ok (.iadd, 1)) (hv : (x + y) = v) (g : own_Go tb e below P (T.setTop (mkF m (pc + 1) Ls ((.int v) :: st)))) : own_Go tb e below P (T.setTop (mkF m pc Ls ((.int y) :: (.int x) :: st))) := by
  subst hv
  exact own_go (fun t k => XS.iadd h hx rfl (hb hby hd) rfl k) g
theorem own_isub {tb : Tables} [Ours tb] {e : Env} {below : List Frame} {T : State} {m : MethodId} {c : Code} {P : State → Prop} {pc : Nat} {Ls : Array Slot} {st : List Value} {bc : ByteArray} (h : At T m c below) (hx : tb.exec = Jvm.exec) (hby : c.code = bc) {x y v : Int32} (hd : decode bc pc = .ok (.isub, 1)) (hv : (x - y) = v) (g : own_Go tb e below P (T.setTop (mkF m (pc + 1) Ls ((.int v) :: st)))) : own_Go tb e below P (T.setTop (mkF m pc Ls ((.int y) :: (.int x) :: st))) := by
  subst hv
  exact own_go (fun t k => XS.isub h hx rfl (hb hby hd) rfl k) g
theorem own_iand {tb : Tables} [Ours tb] {e : Env} {below : List Frame} {T : State} {m : MethodId} {c : Code} {P : State → Prop} {pc : Nat} {Ls : Array Slot} {st : List Value} {bc : ByteArray} (h : At T m c below) (hx : tb.exec = Jvm.exec) (hby : c.code = bc) {x y v : Int32} (hd : decode bc pc = .ok (.iand, 1)) (hv : (x &&& y) = v) (g : own_Go tb e below P (T.setTop (mkF m (pc + 1) Ls ((.int v) :: st)))) : own_Go tb e below P (T.setTop (mkF m pc Ls ((.int y) :: (.int x) :: st))) := by
  subst hv
  exact own_go (fun t k => XS.iand h hx rfl (hb hby hd) rfl k) g
theorem own_ixor {tb : Tables} [Ours tb] {e : Env} {below : List Frame} {T : State} {m : MethodId} {c : Code} {P : State → Prop} {pc : Nat} {Ls : Array Slot} {st : List Value} {bc : ByteArray} (h : At T m c below) (hx : tb.exec = Jvm.exec) (hby : c.code = bc) {x y v : Int32} (hd : decode bc pc = .ok (.ixor, 1)) (hv : (x ^^^ y) = v) (g : own_Go tb e below P (T.setTop (mkF m (pc + 1) Ls ((.int v) :: st)))) : own_Go tb e below P (T.setTop (mkF m pc Ls ((.int y) :: (.int x) :: st))) := by
  subst hv
  exact own_go (fun t k => XS.ixor h hx rfl (hb hby hd) rfl k) g
theorem own_ishr {tb : Tables} [Ours tb] {e : Env} {below : List Frame} {T : State} {m : MethodId} {c : Code} {P : State → Prop} {pc : Nat} {Ls : Array Slot} {st : List Value} {bc : ByteArray} (h : At T m c below) (hx : tb.exec = Jvm.exec) (hby : c.code = bc) {x y v : Int32} (hd : decode bc pc = .ok (.ishr, 1)) (hv : (x >>> (y &&& 31)) = v) (g : own_Go tb e below P (T.setTop (mkF m (pc + 1) Ls ((.int v) :: st)))) : own_Go tb e below P (T.setTop (mkF m pc Ls ((.int y) :: (.int x) :: st))) := by
  subst hv
  exact own_go (fun t k => XS.ishr h hx rfl (hb hby hd) rfl k) g
theorem own_iushr {tb : Tables} [Ours tb] {e : Env} {below : List Frame} {T : State} {m : MethodId} {c : Code} {P : State → Prop} {pc : Nat} {Ls : Array Slot} {st : List Value} {bc : ByteArray} (h : At T m c below) (hx : tb.exec = Jvm.exec) (hby : c.code = bc) {x y v : Int32} (hd : decode bc pc = .ok (.iushr, 1)) (hv : ((x.toUInt32 >>> (y &&& 31).toUInt32).toInt32) = v) (g : own_Go tb e below P (T.setTop (mkF m (pc + 1) Ls ((.int v) :: st)))) : own_Go tb e below P (T.setTop (mkF m pc Ls ((.int y) :: (.int x) :: st))) := by
  subst hv
  exact own_go (fun t k => XS.iushr h hx rfl (hb hby hd) rfl k) g
theorem own_i2b {tb : Tables} [Ours tb] {e : Env} {below : List Frame} {T : State} {m : MethodId} {c : Code} {P : State → Prop} {pc : Nat} {Ls : Array Slot} {st : List Value} {bc : ByteArray} (h : At T m c below) (hx : tb.exec = Jvm.exec) (hby : c.code = bc) {x : Int32} {v : Int32} (hd : decode bc pc = .ok (.i2b, 1)) (hv : (x.toInt8.toInt32) = v) (g : own_Go tb e below P (T.setTop (mkF m (pc + 1) Ls ((.int v) :: st)))) : own_Go tb e below P (T.setTop (mkF m pc Ls ((.int x) :: st))) := by
  subst hv
  exact own_go (fun t k => XS.i2b h hx rfl (hb hby hd) rfl k) g
theorem own_i2c {tb : Tables} [Ours tb] {e : Env} {below : List Frame} {T : State} {m : MethodId} {c : Code} {P : State → Prop} {pc : Nat} {Ls : Array Slot} {st : List Value} {bc : ByteArray} (h : At T m c below) (hx : tb.exec = Jvm.exec) (hby : c.code = bc) {x : Int32} {v : Int32} (hd : decode bc pc = .ok (.i2c, 1)) (hv : (x.toUInt32.toUInt16.toUInt32.toInt32) = v) (g : own_Go tb e below P (T.setTop (mkF m (pc + 1) Ls ((.int v) :: st)))) : own_Go tb e below P (T.setTop (mkF m pc Ls ((.int x) :: st))) := by
  subst hv
  exact own_go (fun t k => XS.i2c h hx rfl (hb hby hd) rfl k) g
theorem own_dup {tb : Tables} [Ours tb] {e : Env} {below : List Frame} {T : State} {m : MethodId} {c : Code} {P : State → Prop} {pc : Nat} {Ls : Array Slot} {st : List Value} {bc : ByteArray} (h : At T m c below) (hx : tb.exec = Jvm.exec) (hby : c.code = bc) {x : Value} (hd : decode bc pc = .ok (.dup, 1)) (hc : x.category = 1) (g : own_Go tb e below P (T.setTop (mkF m (pc + 1) Ls (x :: x :: st)))) : own_Go tb e below P (T.setTop (mkF m pc Ls (x :: st))) := own_go (fun t k => XS.dup h hx rfl (hb hby hd) rfl hc k) g
theorem own_goto {tb : Tables} [Ours tb] {e : Env} {below : List Frame} {T : State} {m : MethodId} {c : Code} {P : State → Prop} {pc : Nat} {Ls : Array Slot} {st : List Value} {bc : ByteArray} (h : At T m c below) (hx : tb.exec = Jvm.exec) (hby : c.code = bc) {o : Int} {pc' : Nat} (hd : decode bc pc = .ok (.goto o, 3)) (ho : 0 ≤ (pc : Int) + o) (hp : ((pc : Int) + o).toNat = pc') (g : own_Go tb e below P (T.setTop (mkF m pc' Ls st))) : own_Go tb e below P (T.setTop (mkF m pc Ls st)) := own_go (fun t k => XS.goto h hx rfl (pc0 := pc) rfl (hb hby hd) ho hp k) g
theorem own_ifYes {tb : Tables} [Ours tb] {e : Env} {below : List Frame} {T : State} {m : MethodId} {c : Code} {P : State → Prop} {pc : Nat} {Ls : Array Slot} {st : List Value} {bc : ByteArray} (h : At T m c below) (hx : tb.exec = Jvm.exec) (hby : c.code = bc) {cd : ClassFile.Cond} {o : Int} {pc' : Nat} {x : Int32} (hd : decode bc pc = .ok (.ifCond cd o, 3)) (hc : ifCond.holds cd x = true) (ho : 0 ≤ (pc : Int) + o) (hp : ((pc : Int) + o).toNat = pc') (g : own_Go tb e below P (T.setTop (mkF m pc' Ls st))) : own_Go tb e below P (T.setTop (mkF m pc Ls ((.int x) :: st))) := own_go (fun t k => XS.ifYes h hx rfl (pc0 := pc) rfl (hb hby hd) rfl hc ho hp k) g
theorem own_ifNo {tb : Tables} [Ours tb] {e : Env} {below : List Frame} {T : State} {m : MethodId} {c : Code} {P : State → Prop} {pc : Nat} {Ls : Array Slot} {st : List Value} {bc : ByteArray} (h : At T m c below) (hx : tb.exec = Jvm.exec) (hby : c.code = bc) {cd : ClassFile.Cond} {o : Int} {x : Int32} (hd : decode bc pc = .ok (.ifCond cd o, 3)) (hc : ifCond.holds cd x = false) (g : own_Go tb e below P (T.setTop (mkF m (pc + 3) Ls st))) : own_Go tb e below P (T.setTop (mkF m pc Ls ((.int x) :: st))) := own_go (fun t k => XS.ifNo h hx rfl (hb hby hd) rfl hc k) g
theorem own_icmpYes {tb : Tables} [Ours tb] {e : Env} {below : List Frame} {T : State} {m : MethodId} {c : Code} {P : State → Prop} {pc : Nat} {Ls : Array Slot} {st : List Value} {bc : ByteArray} (h : At T m c below) (hx : tb.exec = Jvm.exec) (hby : c.code = bc) {cd : ClassFile.Cond} {o : Int} {pc' : Nat} {x y : Int32} (hd : decode bc pc = .ok (.if_icmp cd o, 3)) (hc : if_icmp.holds cd x y = true) (ho : 0 ≤ (pc : Int) + o) (hp : ((pc : Int) + o).toNat = pc') (g : own_Go tb e below P (T.setTop (mkF m pc' Ls st))) : own_Go tb e below P (T.setTop (mkF m pc Ls ((.int y) :: (.int x) :: st))) := own_go (fun t k => XS.icmpYes h hx rfl (pc0 := pc) rfl (hb hby hd) rfl hc ho hp k) g
theorem own_icmpNo {tb : Tables} [Ours tb] {e : Env} {below : List Frame} {T : State} {m : MethodId} {c : Code} {P : State → Prop} {pc : Nat} {Ls : Array Slot} {st : List Value} {bc : ByteArray} (h : At T m c below) (hx : tb.exec = Jvm.exec) (hby : c.code = bc) {cd : ClassFile.Cond} {o : Int} {x y : Int32} (hd : decode bc pc = .ok (.if_icmp cd o, 3)) (hc : if_icmp.holds cd x y = false) (g : own_Go tb e below P (T.setTop (mkF m (pc + 3) Ls st))) : own_Go tb e below P (T.setTop (mkF m pc Ls ((.int y) :: (.int x) :: st))) := own_go (fun t k => XS.icmpNo h hx rfl (hb hby hd) rfl hc k) g
theorem own_ifnullYes {tb : Tables} [Ours tb] {e : Env} {below : List Frame} {T : State} {m : MethodId} {c : Code} {P : State → Prop} {pc : Nat} {Ls : Array Slot} {st : List Value} {bc : ByteArray} (h : At T m c below) (hx : tb.exec = Jvm.exec) (hby : c.code = bc) {o : Int} {pc' : Nat} (hd : decode bc pc = .ok (.ifnull o, 3)) (ho : 0 ≤ (pc : Int) + o) (hp : ((pc : Int) + o).toNat = pc') (g : own_Go tb e below P (T.setTop (mkF m pc' Ls st))) : own_Go tb e below P (T.setTop (mkF m pc Ls (.null :: st))) := own_go (fun t k => XS.ifnullYes h hx rfl (pc0 := pc) rfl (hb hby hd) rfl ho hp k) g
theorem own_ifnullNo {tb : Tables} [Ours tb] {e : Env} {below : List Frame} {T : State} {m : MethodId} {c : Code} {P : State → Prop} {pc : Nat} {Ls : Array Slot} {st : List Value} {bc : ByteArray} (h : At T m c below) (hx : tb.exec = Jvm.exec) (hby : c.code = bc) {o : Int} {b : Addr} (hd : decode bc pc = .ok (.ifnull o, 3)) (g : own_Go tb e below P (T.setTop (mkF m (pc + 3) Ls st))) : own_Go tb e below P (T.setTop (mkF m pc Ls ((.ref b) :: st))) := own_go (fun t k => XS.ifnullNo h hx rfl (hb hby hd) rfl k) g
theorem own_ifnonnullYes {tb : Tables} [Ours tb] {e : Env} {below : List Frame} {T : State} {m : MethodId} {c : Code} {P : State → Prop} {pc : Nat} {Ls : Array Slot} {st : List Value} {bc : ByteArray} (h : At T m c below) (hx : tb.exec = Jvm.exec) (hby : c.code = bc) {o : Int} {pc' : Nat} {b : Addr} (hd : decode bc pc = .ok (.ifnonnull o, 3)) (ho : 0 ≤ (pc : Int) + o) (hp : ((pc : Int) + o).toNat = pc') (g : own_Go tb e below P (T.setTop (mkF m pc' Ls st))) : own_Go tb e below P (T.setTop (mkF m pc Ls ((.ref b) :: st))) := own_go (fun t k => XS.ifnonnullYes h hx rfl (pc0 := pc) rfl (hb hby hd) rfl ho hp k) g
theorem own_ifnonnullNo {tb : Tables} [Ours tb] {e : Env} {below : List Frame} {T : State} {m : MethodId} {c : Code} {P : State → Prop} {pc : Nat} {Ls : Array Slot} {st : List Value} {bc : ByteArray} (h : At T m c below) (hx : tb.exec = Jvm.exec) (hby : c.code = bc) {o : Int} (hd : decode bc pc = .ok (.ifnonnull o, 3)) (g : own_Go tb e below P (T.setTop (mkF m (pc + 3) Ls st))) : own_Go tb e below P (T.setTop (mkF m pc Ls (.null :: st))) := own_go (fun t k => XS.ifnonnullNo h hx rfl (hb hby hd) rfl k) g
theorem own_iinc {tb : Tables} [Ours tb] {e : Env} {below : List Frame} {T : State} {m : MethodId} {c : Code} {P : State → Prop} {pc : Nat} {Ls : Array Slot} {st : List Value} {bc : ByteArray} (h : At T m c below) (hx : tb.exec = Jvm.exec) (hby : c.code = bc) {k : Nat} {cst : Int} {x v : Int32} {l' : Array Slot} (hd : decode bc pc = .ok (.iinc k cst, 3)) (hl : Ls[k]? = some (.val (.int x))) (hv : (x + Int32.ofInt cst) = v) (hl' : storeLocals Ls k (.int v) = some l') (g : own_Go tb e below P (T.setTop (mkF m (pc + 3) l' st))) : own_Go tb e below P (T.setTop (mkF m pc Ls st)) := by
  subst hv
  exact own_go (fun t k => XS.iinc h hx rfl (hb hby hd) hl hl' k) g
section OwnGo
variable {p : Program} {l : Launch} {e : Env} {R : Room} {s : State} {m : MethodId} {args : Array Value} {below : List Frame} {meth : Method} {c : Code} {T : State} {locs : List Loc} {cells slots : Nat} {Z : State} {a0 : Array Value} {h : Heap} {P : State → Prop} {pc : Nat} {Ls : Array Slot} {st : List Value} {bc : ByteArray} {n0 : Nat}
theorem own_acmp (X : Stand p l e R s m args below meth c T locs cells slots) (hx : p.tables.exec = Jvm.exec) {cd : ACond} {x y : Value} {o : Int} {pc' : Nat} {same : Bool} (hby : c.code = bc) (hd : decode bc pc = .ok (.if_acmp cd o, 3)) (h1 : x.isRef = true) (h2 : y.isRef = true) (hq : decide (x = y) = same) (ho : 0 ≤ (pc : Int) + o) (hp : pc' = if acV cd same = true then ((pc : Int) + o).toNat else pc + 3) (k : own_Go p.tables e below P (T.setTop (mkF m pc' Ls st))) : own_Go p.tables e below P (T.setTop (mkF m pc Ls (y :: x :: st))) := by
  exact own_go (fun t k => Jvm.RoadKit.acmp (g := mkF m pc Ls (y :: x :: st)) X hx rfl h1 h2 rfl (hb hby hd) rfl hq ho hp k) k
theorem own_getF (X : Stand p l e R s m args below meth c T locs cells slots) (hx : p.tables.exec = Jvm.exec) (hZ : Z.Warmed39 s.vm) {own R0 O n d host : String} {index : Nat} (hown : s.vm.findClass own = some m.cls) (w : (Cond.fieldLink own index R0 n d).before a0 Z = true ∨ (Cond.fieldLinkNest own index R0 n d host).before a0 Z = true) (via : Via Z R0 O n d) (eT : T.heap = h) {a : Addr} {v : Value} (F : Fld Z h a O n d v) (hby : c.code = bc) (hd : decode bc pc = .ok (.getfield index, 3)) (k : ∀ T', Stand p l e R s m args below meth c T' locs cells slots → T'.heap = h → own_Go p.tables e below P (T'.setTop (mkF m (pc + 3) Ls (v :: st)))) : own_Go p.tables e below P (T.setTop (mkF m pc Ls ((.ref a) :: st))) := by
  obtain ⟨T', X', e', sp⟩ := getF X hx hZ hown w via eT F (g := mkF m pc Ls ((.ref a) :: st)) rfl rfl (hb hby hd)
  exact own_go sp (k T' X' e')
theorem own_getS (X : Stand p l e R s m args below meth c T locs cells slots) (hx : p.tables.exec = Jvm.exec) (hZ : Z.Warmed39 s.vm) {own R0 O n d host : String} {index : Nat} (hown : s.vm.findClass own = some m.cls) (w : (Cond.fieldLink own index R0 n d).before a0 Z = true ∨ (Cond.fieldLinkNest own index R0 n d host).before a0 Z = true) (via : Via Z R0 O n d) (eT : T.heap = h) {v : Value} (F : Sta Z h O n d v) (hby : c.code = bc) (hd : decode bc pc = .ok (.getstatic index, 3)) (k : ∀ T', Stand p l e R s m args below meth c T' locs cells slots → T'.heap = h → own_Go p.tables e below P (T'.setTop (mkF m (pc + 3) Ls (v :: st)))) : own_Go p.tables e below P (T.setTop (mkF m pc Ls st)) := by
  obtain ⟨T', X', e', sp⟩ := getS2 X hx hZ hown w via eT F (g := mkF m pc Ls st) rfl (hb hby hd)
  exact own_go sp (k T' X' e')
theorem own_putF (X : Stand p l e R s m args below meth c T locs cells slots) (hx : p.tables.exec = Jvm.exec) (hZ : Z.Warmed39 s.vm) {C : String} {kk : Nat} {ty : FieldType} {own R0 O n d host : String} {index : Nat} (hown : s.vm.findClass own = some m.cls) (w : (Cond.fieldLink own index R0 n d).before a0 Z = true ∨ (Cond.fieldLinkNest own index R0 n d host).before a0 Z = true) (via : Via Z R0 O n d) (eT : T.heap = h) {a : Addr} {v old : Value} (F : Fld Z h a O n d old) (E : Exa Z h a C) (L : (Cond.lays C O n d).before a0 Z = true ∨ ((Cond.laysFinal C O n d).before a0 Z = true ∧ own = O ∧ meth.name = "<init>")) (wi : (Cond.instantiable C kk).before a0 Z = true) (hty : parseFieldDescriptor d = some ty) (hn : narrow ty v = v) (hf : fits ty v = true) (hby : c.code = bc) (hd : decode bc pc = .ok (.putfield index, 3)) (N : Fr n0 locs) (ge : n0 ≤ a) (k : ∀ T' h' locs', Stand p l e R s m args below meth c T' locs' cells slots → T'.heap = h' → Fr n0 locs' → Wr h h' a (Jvm.RoadKit.slotOf Z O n d) v → Fld Z h' a O n d v → h.size ≤ h'.size → own_Go p.tables e below P (T'.setTop (mkF m (pc + 3) Ls st))) : own_Go p.tables e below P (T.setTop (mkF m pc Ls (v :: (.ref a) :: st))) := by
  obtain ⟨T', h', X', e', W, sp⟩ := putF X hx hZ hown w via eT F E L wi hty hn hf (g := mkF m pc Ls (v :: (.ref a) :: st)) rfl rfl (hb hby hd)
  exact own_go sp (k T' h' _ X' e' (Fr.snoc X' N ge) W (F.same W) (Keep.of_wr W).1)
theorem own_putFN (X : Stand p l e R s m args below meth c T locs cells slots) (hx : p.tables.exec = Jvm.exec) (hZ : Z.Warmed39 s.vm) {own R0 O n d C : String} {index kk : Nat} {ty : FieldType} (hown : s.vm.findClass own = some m.cls) (w : (Cond.fieldLink own index R0 n d).before a0 Z = true) (via : Via Z R0 O n d) (eT : T.heap = h) {a : Addr} {v v' old : Value} (F : Fld Z h a O n d old) (E : Exa Z h a C) (L : (Cond.lays C O n d).before a0 Z = true ∨ ((Cond.laysFinal C O n d).before a0 Z = true ∧ own = O ∧ meth.name = "<init>")) (wi : (Cond.instantiable C kk).before a0 Z = true) (hty : parseFieldDescriptor d = some ty) (hn : narrow ty v = v') (hf : fits ty v' = true) (hby : c.code = bc) (hd : decode bc pc = .ok (.putfield index, 3)) (N : Fr n0 locs) (ge : n0 ≤ a) (k : ∀ T' h' locs', Stand p l e R s m args below meth c T' locs' cells slots → T'.heap = h' → Fr n0 locs' → Wr h h' a (Jvm.RoadKit.slotOf Z O n d) v' → Fld Z h' a O n d v' → h.size ≤ h'.size → own_Go p.tables e below P (T'.setTop (mkF m (pc + 3) Ls st))) : own_Go p.tables e below P (T.setTop (mkF m pc Ls (v :: (.ref a) :: st))) := by
  obtain ⟨T', h', X', e', W, sp⟩ := putFN X hx hZ hown w via eT F E L wi hty hn hf (g := mkF m pc Ls (v :: (.ref a) :: st)) rfl rfl (hb hby hd)
  exact own_go sp (k T' h' _ X' e' (Fr.snoc X' N ge) W (F.same W) (Keep.of_wr W).1)
theorem own_newO (X : Stand p l e R s m args below meth c T locs cells slots) (hx : p.tables.exec = Jvm.exec) (hZ : Z.Warmed39 s.vm) {own C : String} {index n : Nat} (hown : s.vm.findClass own = some m.cls) (w : (Cond.classLink own index C).before a0 Z = true) (wi : (Cond.instantiable C n).before a0 Z = true) (wz : (Cond.initialized C).before a0 Z = true) (eT : T.heap = h) (hby : c.code = bc) (hd : decode bc pc = .ok (.new index, 3)) (hc : cells + 1 ≤ R.cells) (hl : slots + n ≤ R.slots) (k : ∀ T' h' b, Stand p l e R s m args below meth c T' locs (cells + 1) (slots + n) → T'.heap = h' → Ext h h' → b = h.size → Exa Z h' b C → (∀ {O nm d : String} {ty : FieldType}, Laid Z a0 C O nm d → parseFieldDescriptor d = some ty → Fld Z h' b O nm d (defaultValue ty)) → b < h'.size → own_Go p.tables e below P (T'.setTop (mkF m (pc + 3) Ls ((.ref b) :: st)))) : own_Go p.tables e below P (T.setTop (mkF m pc Ls st)) := by
  obtain ⟨T', h', X', e', E, A, D, -, sp⟩ := newO X hx hZ hown w wi wz eT (g := mkF m pc Ls st) rfl (hb hby hd) hc hl
  exact own_go sp (k T' h' _ X' e' E rfl A D A.lt)
theorem own_newP (X : Stand p l e R s m args below meth c T locs cells slots) (hx : p.tables.exec = Jvm.exec) (hZ : Z.Warmed39 s.vm) {aty : ArrayType} (w : (Cond.arrayClass (newarray.typeOf aty)).before a0 Z = true) (eT : T.heap = h) (hby : c.code = bc) (hd : decode bc pc = .ok (.newarray aty, 2)) {n : Int32} (hn : ¬ n < 0) (cap : Nat) (hcap : n.toNatClampNeg ≤ cap) (hb8 : cap * 8 ≤ 536870912) (hc : cells + 1 ≤ R.cells) (hl : slots + cap ≤ R.slots) {ad : String} (had : "[" ++ (newarray.typeOf aty).toString = ad) (k : ∀ T' h' cA b, Stand p l e R s m args below meth c T' locs (cells + 1) (slots + cap) → T'.heap = h' → Ext h h' → b = h.size → Arv Z h' b cA (newarray.typeOf aty) n [] (defaultValue (newarray.typeOf aty)) → Exa Z h' b ad → b < h'.size → own_Go p.tables e below P (T'.setTop (mkF m (pc + 2) Ls ((.ref b) :: st)))) : own_Go p.tables e below P (T.setTop (mkF m pc Ls ((.int n) :: st))) := by
  obtain ⟨T', h', cA, X', e', E, A, C, sp⟩ := newPE X hx hZ w eT (g := mkF m pc Ls ((.int n) :: st)) rfl (hb hby hd) rfl hn (cap := cap) hcap hb8 hc hl had
  exact own_go sp (k T' h' cA _ X' e' E rfl (Arv.new A hn) C C.lt)
theorem own_castore (X : Stand p l e R s m args below meth c T locs cells slots) (hx : p.tables.exec = Jvm.exec) (hZ : Z.Warmed39 s.vm) (eT : T.heap = h) {a : Addr} {kc : ClassId} {z j : Int32} {x : Int32} {w : Value} {vs : List Value} {dv : Value} (V : Arv Z h a kc .char z vs dv) (hj : ¬ j < 0 ∧ j < z) (i : Nat) (hi : j.toNatClampNeg = i) (hl : i < vs.length) (hv : (.int (nar .char x)) = w) (hby : c.code = bc) (hd : decode bc pc = .ok (.castore, 1)) (N : Fr n0 locs) (ge : n0 ≤ a) (k : ∀ T' h' locs', Stand p l e R s m args below meth c T' locs' cells slots → T'.heap = h' → Fr n0 locs' → Wr h h' a i w → Arv Z h' a kc .char z (vs.set i w) dv → h.size ≤ h'.size → own_Go p.tables e below P (T'.setTop (mkF m (pc + 1) Ls st))) : own_Go p.tables e below P (T.setTop (mkF m pc Ls ((.int x) :: (.int j) :: (.ref a) :: st))) := by
  subst hv hi
  obtain ⟨cl, A, q, S, M, H, G⟩ := V
  obtain ⟨T', h', X', e', W, sp⟩ := stC X hx hZ eT A (j := j) (inb_of S hj) (g := mkF m pc Ls ((.int x) :: (.int j) :: (.ref a) :: st)) rfl rfl (hb hby hd)
  exact own_go sp (k T' h' _ X' e' (Fr.snoc X' N ge) W (Arv.set A q S M H G (fits_nar_char _) W _ rfl hl) (Keep.of_wr W).1)
theorem own_bastore (X : Stand p l e R s m args below meth c T locs cells slots) (hx : p.tables.exec = Jvm.exec) (hZ : Z.Warmed39 s.vm) (eT : T.heap = h) {a : Addr} {kc : ClassId} {z j : Int32} {x : Int32} {w : Value} {vs : List Value} {dv : Value} (V : Arv Z h a kc .byte z vs dv) (hj : ¬ j < 0 ∧ j < z) (i : Nat) (hi : j.toNatClampNeg = i) (hl : i < vs.length) (hv : (.int (nar .byte x)) = w) (hby : c.code = bc) (hd : decode bc pc = .ok (.bastore, 1)) (N : Fr n0 locs) (ge : n0 ≤ a) (k : ∀ T' h' locs', Stand p l e R s m args below meth c T' locs' cells slots → T'.heap = h' → Fr n0 locs' → Wr h h' a i w → Arv Z h' a kc .byte z (vs.set i w) dv → h.size ≤ h'.size → own_Go p.tables e below P (T'.setTop (mkF m (pc + 1) Ls st))) : own_Go p.tables e below P (T.setTop (mkF m pc Ls ((.int x) :: (.int j) :: (.ref a) :: st))) := by
  subst hv hi
  obtain ⟨cl, A, q, S, M, H, G⟩ := V
  obtain ⟨T', h', X', e', W, sp⟩ := stB X hx hZ eT A (j := j) (inb_of S hj) (g := mkF m pc Ls ((.int x) :: (.int j) :: (.ref a) :: st)) rfl rfl (hb hby hd)
  exact own_go sp (k T' h' _ X' e' (Fr.snoc X' N ge) W (Arv.set A q S M H G (fits_nar_byte _) W _ rfl hl) (Keep.of_wr W).1)
theorem own_baload (X : Stand p l e R s m args below meth c T locs cells slots) (hx : p.tables.exec = Jvm.exec) (hZ : Z.Warmed39 s.vm) (eT : T.heap = h) {a : Addr} {kc : ClassId} {z j : Int32} {v : Value} {vs : List Value} {dv : Value} (V : Arv Z h a kc .byte z vs dv) (hj : ¬ j < 0 ∧ j < z) (hv : vs.getD j.toNatClampNeg dv = v) (hby : c.code = bc) (hd : decode bc pc = .ok (.baload, 1)) (k : own_Go p.tables e below P (T.setTop (mkF m (pc + 1) Ls (v :: st)))) : own_Go p.tables e below P (T.setTop (mkF m pc Ls ((.int j) :: (.ref a) :: st))) := by
  obtain ⟨cl, A, q, S, M, H, G⟩ := V
  exact own_go (fun t q => X.baloadBytes hx (by rw [eT]; exact A.1) (State.isArrayOf_alike hZ.alike A.2.1) A.2.2 (inb_of S hj) (Has.at H (inb_of S hj) hv) (g := mkF m pc Ls ((.int j) :: (.ref a) :: st)) rfl rfl (hb hby hd) t q) k
theorem own_alen (X : Stand p l e R s m args below meth c T locs cells slots) (hx : p.tables.exec = Jvm.exec) (hZ : Z.Warmed39 s.vm) (eT : T.heap = h) {a : Addr} {kc : ClassId} {ty : FieldType} {z : Int32} {vs : List Value} {dv : Value} (V : Arv Z h a kc ty z vs dv) (hby : c.code = bc) (hd : decode bc pc = .ok (.arraylength, 1)) (k : own_Go p.tables e below P (T.setTop (mkF m (pc + 1) Ls ((.int z) :: st)))) : own_Go p.tables e below P (T.setTop (mkF m pc Ls ((.ref a) :: st))) := by
  obtain ⟨cl, A, q, S, M, H, G⟩ := V
  refine own_go (fun t q => X.arraylength hx (by rw [eT]; exact A.1) (State.isArrayOf_alike hZ.alike A.2.1) (g := mkF m pc Ls ((.ref a) :: st)) rfl rfl (hb hby hd) t q) ?_
  rw [len_of S M]; exact k
theorem own_castY (X : Stand p l e R s m args below meth c T locs cells slots) (hx : p.tables.exec = Jvm.exec) (hZ : Z.Warmed39 s.vm) {own K : String} {index : Nat} (hown : s.vm.findClass own = some m.cls) (w : (Cond.classLink own index K).before a0 Z = true) (eT : T.heap = h) {a : Addr} (F : Ins Z h a K true) (hby : c.code = bc) (hd : decode bc pc = .ok (.checkcast index, 3)) (k : ∀ T', Stand p l e R s m args below meth c T' locs cells slots → T'.heap = h → own_Go p.tables e below P (T'.setTop (mkF m (pc + 3) Ls ((.ref a) :: st)))) : own_Go p.tables e below P (T.setTop (mkF m pc Ls ((.ref a) :: st))) := by
  obtain ⟨T', X', e', sp⟩ := castY X hx hZ hown w eT F (g := mkF m pc Ls ((.ref a) :: st)) rfl rfl (hb hby hd)
  exact own_go sp (k T' X' e')
theorem own_instY (X : Stand p l e R s m args below meth c T locs cells slots) (hx : p.tables.exec = Jvm.exec) (hZ : Z.Warmed39 s.vm) {own K : String} {index : Nat} (hown : s.vm.findClass own = some m.cls) (w : (Cond.classLink own index K).before a0 Z = true) (eT : T.heap = h) {a : Addr} (F : Ins Z h a K true) (hby : c.code = bc) (hd : decode bc pc = .ok (.instanceof index, 3)) (k : ∀ T', Stand p l e R s m args below meth c T' locs cells slots → T'.heap = h → own_Go p.tables e below P (T'.setTop (mkF m (pc + 3) Ls ((.int 1) :: st)))) : own_Go p.tables e below P (T.setTop (mkF m pc Ls ((.ref a) :: st))) := by
  obtain ⟨T', X', e', sp⟩ := instY X hx hZ hown w eT F (g := mkF m pc Ls ((.ref a) :: st)) rfl rfl (hb hby hd)
  exact own_go sp (k T' X' e')
theorem own_initO (X : Stand p l e R s m args below meth c T locs cells slots) (hx : p.tables.exec = Jvm.exec) (hZ : Z.Warmed39 s.vm) {own : String} {idx : Nat} (hown : s.vm.findClass own = some m.cls) (w1 : (Cond.methodLink own idx Lib.objectInit).before a0 Z = true) (w2 : (Cond.instanceMethod Lib.objectInit).before a0 Z = true) (w3 : (Cond.code Lib.objectInit ⟨#[0xb1]⟩ 1 none).before a0 Z = true) (eT : T.heap = h) (hsize : Ls.size = c.maxLocals) {a : Addr} (hby : c.code = bc) (hd : decode bc pc = .ok (.invokespecial idx, 3)) (hf : 1 ≤ R.frames) (W : Nat) (hW : 2 * 0 + (st.map fun v => v.category).sum ≤ W) (hl : W + 12 ≤ R.locals) (k : ∀ T', Stand p l e R s m args below meth c T' locs cells slots → T'.heap = h → own_Go p.tables e below P (T'.setTop (mkF m (pc + 3) Ls st))) : own_Go p.tables e below P (T.setTop (mkF m pc Ls ((.ref a) :: st))) := by
  obtain ⟨T', X', e', sp⟩ := initO X hx hZ hown w1 w2 w3 eT (g := mkF m pc Ls ((.ref a) :: st)) rfl hsize rfl (hb hby hd) hf (W := W) hW hl
  exact own_go sp (k T' X' e')
theorem own_callS (X : Stand p l e R s m args below meth c T locs cells slots) (hx : p.tables.exec = Jvm.exec) (hZ : Z.Warmed39 s.vm) {own : String} {index : Nat} {y : MethodName} {bytes : ByteArray} {maxL : Nat} {ret : Option FieldType} {rm : Room} {Qc : Option Value → Heap → List Loc → Prop} {as' : Array Value} (hown : s.vm.findClass own = some m.cls) (w1 : (Cond.methodLink own index y).before a0 Z = true) (w2 : (Cond.static y).before a0 Z = true) (w3 : (Cond.initialized y.cls).before a0 Z = true) (w4 : (Cond.code y bytes maxL ret).before a0 Z = true) (hy : y.cls ≠ "java/lang/invoke/MethodHandle" ∧ y.cls ≠ "java/lang/invoke/VarHandle") (hM : MetFree l y (head1 [Cond.code y bytes maxL ret] rm) (fun a U => a = as' ∧ Z.Warmed39 U.vm ∧ U.heap = h) (fun _ _ _ _ _ => True) (fun _ U o U' => ∃ v L, o = .returned v ∧ Qc v U'.heap L ∧ FrameEnd U o U' L rm.cells rm.slots)) (W : Nat) (hW : 2 * 0 + (st.map fun v => v.category).sum ≤ W) (hf : rm.frames + 1 ≤ R.frames) (hl : W + (maxL + 11) + rm.locals ≤ R.locals) (hsize : Ls.size = c.maxLocals) {argsL stk : List Value} (hlen : ∀ sig, parseMethodDescriptor y.desc = some sig → argsL.length = sig.parameters.length) (hstk : stk = argsL.reverse ++ st) (has : argsL.toArray = as') (hc : cells + rm.cells ≤ R.cells) (hs : slots + rm.slots ≤ R.slots) (eT : T.heap = h) (hby : c.code = bc) (hd : decode bc pc = .ok (.invokestatic index, 3)) (k : ∀ T' v L, Stand p l e R s m args below meth c T' (locs ++ L) (cells + rm.cells) (slots + rm.slots) → Qc v T'.heap L → own_Go p.tables e below P (T'.setTop (mkF m (pc + 3) Ls (v.toList ++ st)))) : own_Go p.tables e below P (T.setTop (mkF m pc Ls stk)) := by
  subst hstk
  obtain ⟨v, _, ⟨T', L', k', n'⟩, -, X', ⟨L, hQ, hl', hy', hz'⟩, sp⟩ := Jvm.LawKit.callS X hx hown (mvT hZ w1) (mvT hZ w2) (mvT hZ w3) (mvT hZ w4) hy (backOf (W := W) hM hZ w4 w3 hf hl) (g := mkF m pc Ls (argsL.reverse ++ st)) rfl hsize (argsL := argsL) (rest := st) hlen rfl hW (hb hby hd) (fun _ _ => ⟨has, eT, hc, hs⟩)
  dsimp only [Pt.U, Pt.locs, Pt.cells, Pt.slots] at X' hl' hy' hz' sp hQ
  subst hl' hy' hz'
  exact own_go sp (k T' v L X' hQ)
theorem own_special (X : Stand p l e R s m args below meth c T locs cells slots) (hx : p.tables.exec = Jvm.exec) (hZ : Z.Warmed39 s.vm) {own : String} {index : Nat} {y : MethodName} {bytes : ByteArray} {maxL : Nat} {rm : Room} {Qc : Option Value → Heap → List Loc → Prop} {as' : Array Value} (hy1 : y.name = "<init>") (hown : s.vm.findClass own = some m.cls) (w1 : (Cond.methodLink own index y).before a0 Z = true) (w2 : (Cond.instanceMethod y).before a0 Z = true) (w3 : (Cond.initialized y.cls).before a0 Z = true) (w4 : (Cond.code y bytes maxL none).before a0 Z = true) (hy : y.cls ≠ "java/lang/invoke/MethodHandle" ∧ y.cls ≠ "java/lang/invoke/VarHandle") (hM : MetFree l y (head1 [Cond.code y bytes maxL none] rm) (fun a U => a = as' ∧ Z.Warmed39 U.vm ∧ U.heap = h) (fun _ _ _ _ _ => True) (fun _ U o U' => ∃ v L, o = .returned v ∧ Qc v U'.heap L ∧ FrameEnd U o U' L rm.cells rm.slots)) (W : Nat) (hW : 2 * 0 + (st.map fun v => v.category).sum ≤ W) (hf : rm.frames + 1 ≤ R.frames) (hl : W + (maxL + 11) + rm.locals ≤ R.locals) (hsize : Ls.size = c.maxLocals) {argsL stk : List Value} {a : Addr} (hlen : ∀ sig, parseMethodDescriptor y.desc = some sig → argsL.length = sig.parameters.length) (hstk : stk = argsL.reverse ++ (.ref a) :: st) (has : ((.ref a) :: argsL).toArray = as') (hc : cells + rm.cells ≤ R.cells) (hs : slots + rm.slots ≤ R.slots) (eT : T.heap = h) (hby : c.code = bc) (hd : decode bc pc = .ok (.invokespecial index, 3)) (k : ∀ T' v L, Stand p l e R s m args below meth c T' (locs ++ L) (cells + rm.cells) (slots + rm.slots) → Qc v T'.heap L → own_Go p.tables e below P (T'.setTop (mkF m (pc + 3) Ls (v.toList ++ st)))) : own_Go p.tables e below P (T.setTop (mkF m pc Ls stk)) := by
  subst hstk
  obtain ⟨v, _, ⟨T', L', k', n'⟩, -, X', ⟨L, hQ, hl', hy', hz'⟩, sp⟩ := X.specialBack hx hy1 hown (mvT hZ w1) (mvT hZ w2) (mvT hZ w4) hy (backOf (W := W) hM hZ w4 w3 hf hl) (g := mkF m pc Ls (argsL.reverse ++ (.ref a) :: st)) rfl hsize (Steps.refl _) (a := a) (argsL := argsL) (rest := st) hlen rfl hW (hb hby hd) (fun _ _ => ⟨has, eT, hc, hs⟩)
  dsimp only [Pt.U, Pt.locs, Pt.cells, Pt.slots] at X' hl' hy' hz' sp hQ
  subst hl' hy' hz'
  exact own_go (fun t q => sp.trans q) (k T' v L X' hQ)
theorem own_virtual (X : Stand p l e R s m args below meth c T locs cells slots) (hx : p.tables.exec = Jvm.exec) (hZ : Z.Warmed39 s.vm) {own C : String} {index : Nat} {y z : MethodName} {bytes : ByteArray} {maxL : Nat} {ret : Option FieldType} {rm : Room} {Qc : Option Value → Heap → List Loc → Prop} {as' : Array Value} (hown : s.vm.findClass own = some m.cls) (w1 : (Cond.methodLink own index y).before a0 Z = true) (w2 : (Cond.declares y).before a0 Z = true) (nf : NotFace s y) (w5 : (Cond.selects C y z).before a0 Z = true) (w6 : (Cond.instanceMethod z).before a0 Z = true) (w3 : (Cond.initialized z.cls).before a0 Z = true) (w4 : (Cond.code z bytes maxL ret).before a0 Z = true) (hy : y.cls ≠ "java/lang/invoke/MethodHandle" ∧ y.cls ≠ "java/lang/invoke/VarHandle") (hM : MetFree l z (head1 [Cond.code z bytes maxL ret] rm) (fun a U => a = as' ∧ Z.Warmed39 U.vm ∧ U.heap = h) (fun _ _ _ _ _ => True) (fun _ U o U' => ∃ v L, o = .returned v ∧ Qc v U'.heap L ∧ FrameEnd U o U' L rm.cells rm.slots)) (W : Nat) (hW : 2 * 0 + (st.map fun v => v.category).sum ≤ W) (hf : rm.frames + 1 ≤ R.frames) (hl : W + (maxL + 11) + rm.locals ≤ R.locals) (hsize : Ls.size = c.maxLocals) {argsL stk : List Value} {a : Addr} (E : Exa Z h a C) (hlen : ∀ sig, parseMethodDescriptor y.desc = some sig → argsL.length = sig.parameters.length) (hstk : stk = argsL.reverse ++ (.ref a) :: st) (has : ((.ref a) :: argsL).toArray = as') (hc : cells + rm.cells ≤ R.cells) (hs : slots + rm.slots ≤ R.slots) (eT : T.heap = h) (hby : c.code = bc) (hd : decode bc pc = .ok (.invokevirtual index, 3)) (k : ∀ T' v L, Stand p l e R s m args below meth c T' (locs ++ L) (cells + rm.cells) (slots + rm.slots) → Qc v T'.heap L → own_Go p.tables e below P (T'.setTop (mkF m (pc + 3) Ls (v.toList ++ st)))) : own_Go p.tables e below P (T.setTop (mkF m pc Ls stk)) := by
  subst hstk
  obtain ⟨cq, kq, qa, qb, qc⟩ := isOf hZ eT E
  obtain ⟨v, _, ⟨T', L', k', n'⟩, -, X', ⟨L, hQ, hl', hy', hz'⟩, sp⟩ := X.virtualBack hx hown (mvT hZ w1) (mvT hZ w2) nf (mvT hZ w5) (mvT hZ w6) hy (backOf (W := W) hM hZ w4 w3 hf hl) qa qc (g := mkF m pc Ls (argsL.reverse ++ (.ref a) :: st)) rfl hsize (Steps.refl _) (argsL := argsL) (rest := st) hlen rfl hW (hb hby hd) (fun _ _ => ⟨has, eT, hc, hs⟩)
  dsimp only [Pt.U, Pt.locs, Pt.cells, Pt.slots] at X' hl' hy' hz' sp hQ
  subst hl' hy' hz'
  exact own_go (fun t q => sp.trans q) (k T' v L X' hQ)
theorem own_cloneH (X : Stand p l e R s m args below meth c T locs cells slots) (hx : p.tables.exec = Jvm.exec) (hZ : Z.Warmed39 s.vm) {own ad : String} {index : Nat} (hown : s.vm.findClass own = some m.cls) (w1 : (Cond.methodLink own index ⟨ad, "clone", "()Ljava/lang/Object;"⟩).before a0 Z = true) (w2 : (Cond.sameMethod ad "java/lang/Object" "clone" "()Ljava/lang/Object;").before a0 Z = true) (w3 : (Cond.native ⟨"java/lang/Object", "clone", "()Ljava/lang/Object;"⟩).before a0 Z = true) (w4 : (Cond.instanceMethod ⟨"java/lang/Object", "clone", "()Ljava/lang/Object;"⟩).before a0 Z = true) (w5 : (Cond.selects ad ⟨ad, "clone", "()Ljava/lang/Object;"⟩ ⟨"java/lang/Object", "clone", "()Ljava/lang/Object;"⟩).before a0 Z = true) (w6 : (Cond.castable ad "java/lang/Cloneable").before a0 Z = true) (eT : T.heap = h) {a : Addr} {kc : ClassId} {ty : FieldType} {z : Int32} {hs : List (Int32 × Value)} {vs : List Value} {dv : Value} (F : Arh Z h a kc ty z hs vs dv) (E : Exa Z h a ad) (hsize : Ls.size = c.maxLocals) (hby : c.code = bc) (hd : decode bc pc = .ok (.invokevirtual index, 3)) (hf : 1 ≤ R.frames) (W cap : Nat) (hW : 2 * 0 + (st.map fun v => v.category).sum ≤ W) (hl : W + 14 ≤ R.locals) (hcap : z.toNatClampNeg ≤ cap) (hc : cells + 1 ≤ R.cells) (hsl : slots + cap ≤ R.slots) (k : ∀ T' h' b, Stand p l e R s m args below meth c T' locs (cells + 1) (slots + cap) → T'.heap = h' → Ext h h' → b = h.size → Arh Z h' b kc ty z hs vs dv → Exa Z h' b ad → b < h'.size → own_Go p.tables e below P (T'.setTop (mkF m (pc + 3) Ls ((.ref b) :: st)))) : own_Go p.tables e below P (T.setTop (mkF m pc Ls ((.ref a) :: st))) := by
  obtain ⟨T', h', X', e', E', A', C', sp⟩ := cloneH X hx hZ hown w1 w2 w3 w4 w5 w6 eT F E (g := mkF m pc Ls ((.ref a) :: st)) rfl hsize rfl (hb hby hd) hf (W := W) (cap := cap) hW hl hcap hc hsl
  exact own_go sp (k T' h' _ X' e' E' rfl A' C' C'.lt)
theorem own_specialB (X : Stand p l e R s m args below meth c T locs cells slots) (hx : p.tables.exec = Jvm.exec) (hZ : Z.Warmed39 s.vm) {own : String} {index : Nat} {y : MethodName} {bytes : ByteArray} {maxL W : Nat} (hy1 : y.name = "<init>") (hown : s.vm.findClass own = some m.cls) (w1 : (Cond.methodLink own index y).before a0 Z = true) (w2 : (Cond.instanceMethod y).before a0 Z = true) (w4 : (Cond.code y bytes maxL none).before a0 Z = true) (hy : y.cls ≠ "java/lang/invoke/MethodHandle" ∧ y.cls ≠ "java/lang/invoke/VarHandle") {Qc : Option Value → Heap → List Loc → Prop} {as' : Array Value} {kc ks : Nat} (hK : Back l R p e below s args y 3 W (fun A a => a = as' ∧ A.U.heap = h ∧ A.cells + kc ≤ R.cells ∧ A.slots + ks ≤ R.slots) (fun A _ v B => ∃ L, Qc v B.U.heap L ∧ B.locs = A.locs ++ L ∧ B.cells = A.cells + kc ∧ B.slots = A.slots + ks)) (hW : 2 * 0 + (st.map fun v => v.category).sum ≤ W) (hsize : Ls.size = c.maxLocals) {argsL stk : List Value} {a : Addr} (hlen : ∀ sig, parseMethodDescriptor y.desc = some sig → argsL.length = sig.parameters.length) (hstk : stk = argsL.reverse ++ (.ref a) :: st) (has : ((.ref a) :: argsL).toArray = as') (hc : cells + kc ≤ R.cells) (hs : slots + ks ≤ R.slots) (eT : T.heap = h) (hby : c.code = bc) (hd : decode bc pc = .ok (.invokespecial index, 3)) (k : ∀ T' v L, Stand p l e R s m args below meth c T' (locs ++ L) (cells + kc) (slots + ks) → Qc v T'.heap L → own_Go p.tables e below P (T'.setTop (mkF m (pc + 3) Ls (v.toList ++ st)))) : own_Go p.tables e below P (T.setTop (mkF m pc Ls stk)) := by
  subst hstk
  obtain ⟨v, _, ⟨T', L', k', n'⟩, -, X', ⟨L, hQ, hl', hy', hz'⟩, sp⟩ := X.specialBack hx hy1 hown (mvT hZ w1) (mvT hZ w2) (mvT hZ w4) hy hK (g := mkF m pc Ls (argsL.reverse ++ (.ref a) :: st)) rfl hsize (Steps.refl _) (a := a) (argsL := argsL) (rest := st) hlen rfl hW (hb hby hd) (fun _ _ => ⟨has, eT, hc, hs⟩)
  dsimp only [Pt.U, Pt.locs, Pt.cells, Pt.slots] at X' hl' hy' hz' sp hQ
  subst hl' hy' hz'
  exact own_go (fun t q => sp.trans q) (k T' v L X' hQ)
theorem own_ldcCH {vm0 : Vm} (X : Stand p l e R (s.setVm vm0) m args below meth c T locs cells slots) (hx : p.tables.exec = Jvm.exec) (hZ : Z.Warmed39 vm0) {own text : String} {index : Nat} {EL : List (String × Nat)} (hEL : EW Z a0 EL) (hown : vm0.findClass own = some m.cls) (w : (Cond.stringLink own index text).before a0 Z = true) (wS : ∀ a ∈ Bundle.stringAtoms, a.before a0 Z = true) (eT : T.heap = h) {k0 : Nat} (hS : s.Since vm0 k0) (hk : k0 ≤ h.size) (H : CHv Z EL vm0 h) (hmem : (own, index) ∈ EL) {vs : List Value} {z : Int32} (ht : (∀ c ∈ text.toList, c.toNat < 256) ∧ text.toList.map (fun c => Value.int (Jvm.Lit.byteI c.toNat.toUInt16)) = vs) (hz : ¬ z < 0) (hl : z.toNatClampNeg = vs.length) (hby : c.code = bc) (hd : decode bc pc = .ok (.ldc index, 2)) (n : Nat) (hn : 4 * text.toList.length ≤ n) (hbig : n ≤ 536870912) (hc : cells + 2 ≤ R.cells) (hl' : slots + (n + 4) ≤ R.slots) (k : ∀ a T' h' k1 vm1 b kb, Stand p l e R (s.setVm vm1) m args below meth c T' locs (cells + 2) (slots + (n + 4)) → T'.heap = h' → Ext h h' → s.Since vm1 k1 → k1 ≤ h'.size → Z.Warmed39 vm1 → vm1.findClass own = some m.cls → Exa Z h' a "java/lang/String" → Fld Z h' a "java/lang/String" "coder" "B" (.int 0) → Fld Z h' a "java/lang/String" "value" "[B" (.ref b) → Arv Z h' b kb .byte z vs (.int 0) → a < h'.size → b < h'.size → CHr Z EL vm0 h vm1 h' → (∀ x, Safe Z EL vm1 h' x → x ≠ a ∧ x ≠ b) → own_Go p.tables e below P (T'.setTop (mkF m (pc + 2) Ls ((.ref a) :: st)))) : own_Go p.tables e below P (T.setTop (mkF m pc Ls st)) := by
  obtain ⟨a, T', h', k1, b, kb, X', e', E, hS', hk', hZ', hown', q1, q2, q3, q4, q5, q6, q7, -, q8, sp⟩ := ldcCH X hx hZ hown w wS eT hS hk hEL hmem H ht hz hl (g := mkF m pc Ls st) rfl (hb hby hd) hn hbig hc hl'
  exact own_go sp (k a T' h' k1 T'.vm b kb X' e' E hS' hk' hZ' hown' q1 q2 q3 q4 q5 q6 q7 q8)
theorem own_callSH {vm0 : Vm} (X : Stand p l e R (s.setVm vm0) m args below meth c T locs cells slots) (hx : p.tables.exec = Jvm.exec) (hZ : Z.Warmed39 vm0) {EL : List (String × Nat)} (hEL : EW Z a0 EL) {own : String} {index : Nat} {y : MethodName} {bytes : ByteArray} {maxL : Nat} {ret : Option FieldType} {rm : Room} {Qc : Option Value → Heap → List Loc → Prop} {as' : Array Value} (hown : vm0.findClass own = some m.cls) (w1 : (Cond.methodLink own index y).before a0 Z = true) (w2 : (Cond.static y).before a0 Z = true) (w3 : (Cond.initialized y.cls).before a0 Z = true) (w4 : (Cond.code y bytes maxL ret).before a0 Z = true) (hy : y.cls ≠ "java/lang/invoke/MethodHandle" ∧ y.cls ≠ "java/lang/invoke/VarHandle") (hM : MetFree l y (head1 [Cond.code y bytes maxL ret] rm) (fun a U => a = as' ∧ Z.Warmed39 U.vm ∧ U.heap = h ∧ CHv Z EL U.vm h) (fun _ _ _ _ _ => True) (fun _ U o U' => ∃ v L, o = .returned v ∧ Qc v U'.heap L ∧ CHr Z EL U.vm U.heap U'.vm U'.heap ∧ ReturnedEndW U o U' L rm.cells rm.slots)) (W : Nat) (hW : 2 * 0 + (st.map fun v => v.category).sum ≤ W) (hf : rm.frames + 1 ≤ R.frames) (hl : W + (maxL + 11) + rm.locals ≤ R.locals) (hsize : Ls.size = c.maxLocals) {argsL stk : List Value} (hlen : ∀ sig, parseMethodDescriptor y.desc = some sig → argsL.length = sig.parameters.length) (hstk : stk = argsL.reverse ++ st) (has : argsL.toArray = as') (hc : cells + rm.cells ≤ R.cells) (hs : slots + rm.slots ≤ R.slots) (eT : T.heap = h) (hby : c.code = bc) (H : CHv Z EL vm0 h) {k0 : Nat} (hS : s.Since vm0 k0) (hk : k0 ≤ h.size) (hd : decode bc pc = .ok (.invokestatic index, 3)) (k : ∀ T' v L vm1, Stand p l e R (s.setVm vm1) m args below meth c T' (locs ++ L) (cells + rm.cells) (slots + rm.slots) → s.Since vm1 T'.heap.size → Z.Warmed39 vm1 → vm1.findClass own = some m.cls → h.size ≤ T'.heap.size → CHr Z EL vm0 h vm1 T'.heap → Qc v T'.heap L → own_Go p.tables e below P (T'.setTop (mkF m (pc + 3) Ls (v.toList ++ st)))) : own_Go p.tables e below P (T.setTop (mkF m pc Ls stk)) := by
  subst hstk
  obtain ⟨v, _, ⟨T', L', k', n'⟩, -, X', h2', hg', ⟨L, hQ, hl', hy', hz', hC'⟩, sp⟩ := callSS X hx hown (mvT (s := s.setVm vm0) hZ w1) (mvT (s := s.setVm vm0) hZ w2) (mvT (s := s.setVm vm0) hZ w3) (mvT (s := s.setVm vm0) hZ w4) hy (backOfSH (s := s) (W := W) hM hZ w4 w3 hf hl hEL H) (g := mkF m pc Ls (argsL.reverse ++ st)) rfl hsize (argsL := argsL) (rest := st) hlen rfl hW (hb hby hd) (fun _ _ => ⟨has, eT, hc, hs⟩)
  dsimp only [Pt.U, Pt.locs, Pt.cells, Pt.slots] at X' h2' hg' hl' hy' hz' hC' sp hQ
  subst hl' hy' hz'
  obtain ⟨r1, r2, r3, r4⟩ := rebS (Z := Z) (own := own) hS hk X' h2' (by rw [← eT]; exact hg') hZ hown
  exact own_go (fun t q => sp.trans q) (k T' v L _ r1 r2 r3 r4 (by rw [← eT]; exact hg') hC' hQ)
theorem own_specialH {vm0 : Vm} (X : Stand p l e R (s.setVm vm0) m args below meth c T locs cells slots) (hx : p.tables.exec = Jvm.exec) (hZ : Z.Warmed39 vm0) {EL : List (String × Nat)} (hEL : EW Z a0 EL) {own : String} {index : Nat} {y : MethodName} {bytes : ByteArray} {maxL : Nat} {rm : Room} {Qc : Option Value → Heap → List Loc → Prop} {as' : Array Value} (hy1 : y.name = "<init>") (hown : vm0.findClass own = some m.cls) (w1 : (Cond.methodLink own index y).before a0 Z = true) (w2 : (Cond.instanceMethod y).before a0 Z = true) (w3 : (Cond.initialized y.cls).before a0 Z = true) (w4 : (Cond.code y bytes maxL none).before a0 Z = true) (hy : y.cls ≠ "java/lang/invoke/MethodHandle" ∧ y.cls ≠ "java/lang/invoke/VarHandle") (hM : MetFree l y (head1 [Cond.code y bytes maxL none] rm) (fun a U => a = as' ∧ Z.Warmed39 U.vm ∧ U.heap = h ∧ CHv Z EL U.vm h) (fun _ _ _ _ _ => True) (fun _ U o U' => ∃ v L, o = .returned v ∧ Qc v U'.heap L ∧ CHr Z EL U.vm U.heap U'.vm U'.heap ∧ ReturnedEndW U o U' L rm.cells rm.slots)) (W : Nat) (hW : 2 * 0 + (st.map fun v => v.category).sum ≤ W) (hf : rm.frames + 1 ≤ R.frames) (hl : W + (maxL + 11) + rm.locals ≤ R.locals) (hsize : Ls.size = c.maxLocals) {argsL stk : List Value} {a : Addr} (hlen : ∀ sig, parseMethodDescriptor y.desc = some sig → argsL.length = sig.parameters.length) (hstk : stk = argsL.reverse ++ (.ref a) :: st) (has : ((.ref a) :: argsL).toArray = as') (hc : cells + rm.cells ≤ R.cells) (hs : slots + rm.slots ≤ R.slots) (eT : T.heap = h) (hby : c.code = bc) (H : CHv Z EL vm0 h) {k0 : Nat} (hS : s.Since vm0 k0) (hk : k0 ≤ h.size) (hd : decode bc pc = .ok (.invokespecial index, 3)) (k : ∀ T' v L vm1, Stand p l e R (s.setVm vm1) m args below meth c T' (locs ++ L) (cells + rm.cells) (slots + rm.slots) → s.Since vm1 T'.heap.size → Z.Warmed39 vm1 → vm1.findClass own = some m.cls → h.size ≤ T'.heap.size → CHr Z EL vm0 h vm1 T'.heap → Qc v T'.heap L → own_Go p.tables e below P (T'.setTop (mkF m (pc + 3) Ls (v.toList ++ st)))) : own_Go p.tables e below P (T.setTop (mkF m pc Ls stk)) := by
  subst hstk
  obtain ⟨v, _, ⟨T', L', k', n'⟩, -, X', h2', hg', ⟨L, hQ, hl', hy', hz', hC'⟩, sp⟩ := X.specialBackS hx hy1 hown (mvT (s := s.setVm vm0) hZ w1) (mvT (s := s.setVm vm0) hZ w2) (mvT (s := s.setVm vm0) hZ w4) hy (backOfSH (s := s) (W := W) hM hZ w4 w3 hf hl hEL H) (g := mkF m pc Ls (argsL.reverse ++ (.ref a) :: st)) rfl hsize (Steps.refl _) (a := a) (argsL := argsL) (rest := st) hlen rfl hW (hb hby hd) (fun _ _ => ⟨has, eT, hc, hs⟩)
  dsimp only [Pt.U, Pt.locs, Pt.cells, Pt.slots] at X' h2' hg' hl' hy' hz' hC' sp hQ
  subst hl' hy' hz'
  obtain ⟨r1, r2, r3, r4⟩ := rebS (Z := Z) (own := own) hS hk X' h2' (by rw [← eT]; exact hg') hZ hown
  exact own_go (fun t q => sp.trans q) (k T' v L _ r1 r2 r3 r4 (by rw [← eT]; exact hg') hC' hQ)
end OwnGo
theorem own_sta_keep {Z : State} {h h' : Heap} {C n d : String} {v : Value} {ws : List Addr} (F : Sta Z h C n d v) (K : Keep h h' ws) (q : ∀ x ∈ ws, ∀ cell : Cell, h[x]? = some cell → cell.vm.isStatics = false) : Sta Z h' C n d v := by
  obtain ⟨cf, i, k, f, st, cell, h1, h2, h3, h4, h5, h6, h7⟩ := F
  refine ⟨cf, i, k, f, st, cell, h1, h2, h3, h4, K.2.1 st cell h5 fun hm => ?_, h6, h7⟩
  rw [q st hm cell h5] at h6; cases h6
theorem own_exa_plain {Z : State} {h : Heap} {a : Addr} {C : String} (F : Exa Z h a C) : ∀ cell : Cell, h[a]? = some cell → cell.vm.isStatics = false := fun cell hc => by
  obtain ⟨c', k, h1, h2, h3, h4, h5⟩ := F
  cases h1.symm.trans hc; exact h4
theorem own_safe_null {Z : State} {EL : List (String × Nat)} {vm : Vm} {h : Heap} {x : Addr} (hal : Z.vm.Alike vm) (E : Exa Z h x "java/lang/String") (F : Fld Z h x "java/lang/String" "value" "[B" .null) : Safe Z EL vm h x := fun B => by
  obtain ⟨cell, k, e1, e2, e3, -, -⟩ := E
  have nm : ∀ {n : String} {c : ClassId}, vm.findClass n = some c → c = cell.cls → n = "java/lang/String" := fun {n c} f e => by
    subst e
    rw [hal.findClass] at f
    obtain ⟨k1, q1, q2⟩ := Vm.findClass_spec f
    obtain ⟨k2, q3, q4⟩ := Vm.findClass_spec e2
    cases q1.symm.trans q3
    exact q2.symm.trans q4
  obtain ⟨cl, c', k', i', f', g1, g2, -, -, -, -, g7⟩ := F
  obtain ⟨p, -, u, a, -, q, -, G, rfl | rfl⟩ := B
  · cases (show h[q.sa]? = some q.sC from G.ha).symm.trans g1
    obtain ⟨cS, ⟨⟨-, -, -, ⟨c1, k1, i1, f1, -⟩, -, -, -, v1, -⟩, -⟩, -⟩ := G
    obtain ⟨k3, h3, -⟩ := State.fieldFound?_setVm (s := Z) hal g2
    have e4 := (show (Wst Z vm h).fieldFound? _ _ _ = _ from h3).symm.trans f1
    simp only [Option.some.injEq, Prod.mk.injEq] at e4
    rw [← e4.2.2.2, g7] at v1
    simp at v1
  · cases (show h[q.sd]? = some q.SA from G.hd).symm.trans e1
    obtain ⟨cS, -, -, f, -⟩ := G
    exact absurd (nm f rfl) (by decide)
theorem own_ne_oa {Z : State} {h : Heap} {a b : Addr} {C : String} {a0 : Array Value} {kk : Nat} {k : ClassId} {ty : FieldType} {n : Int32} {vs : List Value} {d : Value} (F : Exa Z h a C) (wi : (Cond.instantiable C kk).before a0 Z = true) (G : Arv Z h b k ty n vs d) : a ≠ b := by
  obtain ⟨c, A, -⟩ := G
  exact ne_arr F wi A
theorem own_narc (y : Int32) : nar .char ((y &&& (255 : Int32)).toUInt32.toUInt16.toUInt32.toInt32) = (y &&& (255 : Int32)) := by
  rw [i2c_mask]
  exact i2c_mask y
theorem own_c255 (y : Int32) : ¬ (y &&& (255 : Int32)) < 0 ∧ ¬ (255 : Int32) < (y &&& (255 : Int32)) := by
  have h := c_and y (255 : Int32) (by decide)
  have a : (255 : Int32).toInt = 255 := by decide
  have b : (0 : Int32).toInt = 0 := by decide
  rw [Int32.lt_iff_toInt_lt, Int32.lt_iff_toInt_lt, b]
  omega
theorem own_l0 {P : Int32 → Prop} : ∀ c ∈ ([] : List Int32), P c := fun _ h => nomatch h
theorem own_lS {P : Int32 → Prop} {y : Int32} {L : List Int32} (q : P y) (r : ∀ c ∈ L, P c) : ∀ c ∈ y :: L, P c := fun c h => (List.mem_cons.mp h).elim (fun e => e ▸ q) (r c)
theorem own_i2bb (c : Int32) : nar .byte (c.toInt8.toInt32) = (c.toInt8.toInt32) := by
  show c.toInt8.toInt32.toInt8.toInt32 = c.toInt8.toInt32
  rw [Int8.toInt8_toInt32]
theorem own_low8 (c : Int32) (h0 : ¬ (c < (0 : Int32))) (h1 : ¬ ((255 : Int32) < c)) : ((c.toInt8.toInt32) &&& (255 : Int32)) = c := by
  have a : (255 : Int32).toInt = 255 := by decide
  have b : (0 : Int32).toInt = 0 := by decide
  rw [Int32.lt_iff_toInt_lt, b] at h0
  rw [Int32.lt_iff_toInt_lt, a] at h1
  have h2 := c_mask (c.toInt8.toInt32) 255 8 (by decide) (by decide)
  have h3 := c_i2b c
  have h4 : ((2 ^ 8 : Nat) : Int) = 256 := by decide
  rw [h4] at h2
  apply Int32.toInt_inj.mp
  omega
theorem own_nar8 (c : Int32) (h0 : ¬ (c < (0 : Int32))) (h1 : ¬ ((255 : Int32) < c)) : nar .char c = c := by
  have e := own_low8 c h0 h1
  have q := i2c_mask (c.toInt8.toInt32)
  rw [e] at q
  exact q
theorem own_chr8 (c : Int32) (h0 : ¬ (c < (0 : Int32))) (h1 : ¬ ((255 : Int32) < c)) : nar .char ((((c.toInt8.toInt32)) &&& (255 : Int32)).toUInt32.toUInt16.toUInt32.toInt32) = c := by
  rw [i2c_mask, own_low8 c h0 h1]
  exact own_nar8 c h0 h1
theorem own_and3 (x : Int32) : x &&& (3 : Int32) = (0 : Int32) ∨ x &&& (3 : Int32) = (1 : Int32) ∨ x &&& (3 : Int32) = (2 : Int32) ∨ x &&& (3 : Int32) = (3 : Int32) := by
  obtain ⟨h1, h2⟩ := c_and x 3 (by decide)
  have h3 : (3 : Int32).toInt = 3 := by decide
  rw [h3] at h2
  have h4 : (x &&& 3).toInt = 0 ∨ (x &&& 3).toInt = 1 ∨ (x &&& 3).toInt = 2 ∨ (x &&& 3).toInt = 3 := by omega
  rcases h4 with h | h | h | h
  · exact Or.inl (Int32.toInt_inj.mp (h.trans (by decide)))
  · exact Or.inr (Or.inl (Int32.toInt_inj.mp (h.trans (by decide))))
  · exact Or.inr (Or.inr (Or.inl (Int32.toInt_inj.mp (h.trans (by decide)))))
  · exact Or.inr (Or.inr (Or.inr (Int32.toInt_inj.mp (h.trans (by decide)))))
theorem own_ne_str {Z : State} {h : Heap} {x y t b : Addr} {k k' : ClassId} {ty ty' : FieldType} {n n' : Int32} {vs vs' : List Value} {d d' : Value} (F : Fld Z h x "java/lang/String" "value" "[B" (.ref t)) (G : Fld Z h y "java/lang/String" "value" "[B" (.ref b)) (A : Arv Z h t k ty n vs d) (B : Arv Z h b k' ty' n' vs' d') (q : n.toNatClampNeg = n'.toNatClampNeg → ∃ i, i < n.toNatClampNeg ∧ vs.getD i d ≠ vs'.getD i d') : x ≠ y := by
  intro e
  subst e
  obtain ⟨c1, cf, k1, i1, f1, a1, a2, -, -, -, -, a7⟩ := F
  obtain ⟨c2, cf2, k2, i2, f2, b1, b2, -, -, -, -, b7⟩ := G
  cases a1.symm.trans b1
  have e1 := a2.symm.trans b2
  simp only [Option.some.injEq, Prod.mk.injEq] at e1
  rw [e1.2.2.2, b7] at a7
  have e2 : b = t := by simpa using a7
  subst e2
  obtain ⟨c3, A1, -, A3, -, A5, -⟩ := A
  obtain ⟨c4, B1, -, B3, -, B5, -⟩ := B
  cases A1.1.symm.trans B1.1
  obtain ⟨i, hi, hne⟩ := q (A3.symm.trans B3)
  have u1 := A5 i (by omega)
  have u2 := B5 i (by omega)
  exact hne (Option.some.inj (u1.symm.trans u2))
theorem own_low_ne (c k : Int32) (h0 : ¬ (c < (0 : Int32))) (h1 : ¬ ((255 : Int32) < c)) (hk : k &&& (255 : Int32) = k) (h : ¬ c = k) : ¬ (c.toInt8.toInt32) = k := fun e => h (by
  have q := own_low8 c h0 h1
  rw [e, hk] at q
  exact q.symm)
def own_kindB (n : Int32) (vs : List Value) : Prop := (n = 6 ∧ vs = [.int 66, .int 105, .int 110, .int 97, .int 114, .int 121]) ∨ (n = 7 ∧ vs = [.int 66, .int 105, .int 110, .int 97, .int 114, .int 121, .int 46]) ∨ ∃ u : Int32, n = 8 ∧ vs = [.int 66, .int 105, .int 110, .int 97, .int 114, .int 121, .int 46, .int u]
def own_kindN (n : Int32) (vs : List Value) : Prop := (∃ u : Int32, ¬ u = 46 ∧ n = 7 ∧ vs = [.int 66, .int 105, .int 110, .int 97, .int 114, .int 121, .int u]) ∨ (n = 6 ∧ vs = [.int 83, .int 116, .int 114, .int 105, .int 110, .int 103]) ∨ (n = 6 ∧ vs = [.int 78, .int 117, .int 109, .int 98, .int 101, .int 114]) ∨ (∃ u : Int32, ¬ u = 121 ∧ n = 6 ∧ vs = [.int 66, .int 105, .int 110, .int 97, .int 114, .int u]) ∨ ∃ u : Int32, n = 1 ∧ vs = [.int u]
theorem own_d66 : ((66 : Int32).toInt8.toInt32) = 66 := by decide
theorem own_d105 : ((105 : Int32).toInt8.toInt32) = 105 := by decide
theorem own_d110 : ((110 : Int32).toInt8.toInt32) = 110 := by decide
theorem own_d97 : ((97 : Int32).toInt8.toInt32) = 97 := by decide
theorem own_d114 : ((114 : Int32).toInt8.toInt32) = 114 := by decide
theorem own_d121 : ((121 : Int32).toInt8.toInt32) = 121 := by decide
theorem own_d46 : ((46 : Int32).toInt8.toInt32) = 46 := by decide
theorem own_and7 (x : Int32) : (x &&& (7 : Int32)) = (x &&& (7 : Int32)) := rfl
theorem ef_canEnc (m : MethodId) (x0 : Int32) : entryFrame m #[(.int x0)] 1 = mkF m 0 #[.val (.int x0)] [] := by first | (simp [entryFrame, mkF, argsToLocals, Value.category]; done) | rfl
theorem pn_12 : plainName "java/lang/StringLatin1" = true := by first | (simp [plainName, overriddenIn]; done) | decide +kernel
theorem d12_0 : decode jdk_43_method_3_code 0 = .ok (.iload_n 0, 1) := by decide +kernel
theorem d12_1 : decode jdk_43_method_3_code 1 = .ok (.sipush 255, 3) := by decide +kernel
theorem d12_4 : decode jdk_43_method_3_code 4 = .ok (.if_icmp .gt 7, 3) := by decide +kernel
theorem d12_7 : decode jdk_43_method_3_code 7 = .ok (.iconst 1, 1) := by decide +kernel
theorem d12_8 : decode jdk_43_method_3_code 8 = .ok (.goto 4, 3) := by decide +kernel
theorem d12_12 : decode jdk_43_method_3_code 12 = .ok (.ireturn, 1) := by decide +kernel
def Q_canEnc (Z : State) (ch : Int32) (h0 : Heap) (n0 : Nat) (vR : Option Value) (hR : Heap) (LR : List Loc) : Prop := vR = some (.int 1) ∧ Fr n0 LR ∧ hR = h0
set_option maxRecDepth 65536 in
set_option maxHeartbeats 40000000 in
theorem canEnc (l : Launch) (Z : State) (a0 : Array Value) (hw : ∀ d ∈ tables_1, d.before a0 Z = true) (ws : List Jvm.Cond) (ch : Int32) (h0 : Heap) (n0 : Nat) (Z0 : n0 ≤ h0.size) (hc : ¬ ((255 : Int32) < ch)) :
    own_M l (⟨"java/lang/StringLatin1", "canEncode", "(C)Z"⟩ : MethodName) jdk_43_method_3_code 1 (some .boolean) ws ({ frames := 0, cells := 0, slots := 0, locals := 0 } : Room) Z #[(.int ch)] h0 (Q_canEnc Z ch h0 n0) := by
  refine own_body (own := "java/lang/StringLatin1") rfl (plainFor_of_name pn_12) (fun m => ef_canEnc m ch) ?_
  intro p e s m below meth c s₁ Bd hml hZ hh hx hby hown X0 e0
  have N0 := Fr.nil n0
  refine own_iloadN X0.here hx hby d12_0 rfl ?_
  refine own_sipush X0.here hx hby d12_1 (v := (255 : Int32)) (by decide) ?_
  refine own_icmpNo X0.here hx hby d12_4 (flt hc).2.2.1 ?_
  refine own_iconst X0.here hx hby d12_7 (v := (1 : Int32)) (by decide) ?_
  refine own_goto X0.here hx hby (pc' := 12) d12_8 (by decide) (by decide) ?_
  obtain ⟨fs, hr, hrun, hended, hW, hsame⟩ := X0.leave (v := some (.int 1)) (fun h => by rw [Bd.returns] at h; cases h)
  refine own_ret (t := s₁.setFrames fs) ?_ ⟨_, hrun, hended, _, _, rfl, ?_, ⟨_, rfl⟩, hW, hsame.mono (by decide) (by decide)⟩
  · exact retN X0 hx (t := .boolean) Bd.returns (by simp) (hb hby d12_12) hr
  · show Q_canEnc Z _ h0 n0 _ s₁.heap _
    rw [e0]
    exact ⟨rfl, N0, rfl⟩
theorem ef_toBy1 (m : MethodId) (x0 : Int32) : entryFrame m #[(.int x0)] 1 = mkF m 0 #[.val (.int x0)] [] := by first | (simp [entryFrame, mkF, argsToLocals, Value.category]; done) | rfl
theorem pn_13 : plainName "java/lang/StringLatin1" = true := by first | (simp [plainName, overriddenIn]; done) | decide +kernel
theorem d13_0 : decode jdk_43_method_46_code 0 = .ok (.iconst 1, 1) := by decide +kernel
theorem d13_1 : decode jdk_43_method_46_code 1 = .ok (.newarray .byte, 2) := by decide +kernel
theorem d13_3 : decode jdk_43_method_46_code 3 = .ok (.dup, 1) := by decide +kernel
theorem d13_4 : decode jdk_43_method_46_code 4 = .ok (.iconst 0, 1) := by decide +kernel
theorem d13_5 : decode jdk_43_method_46_code 5 = .ok (.iload_n 0, 1) := by decide +kernel
theorem d13_6 : decode jdk_43_method_46_code 6 = .ok (.i2b, 1) := by decide +kernel
theorem d13_7 : decode jdk_43_method_46_code 7 = .ok (.bastore, 1) := by decide +kernel
theorem d13_8 : decode jdk_43_method_46_code 8 = .ok (.areturn, 1) := by decide +kernel
def Q_toBy1 (Z : State) (ch : Int32) (h0 : Heap) (n0 : Nat) (vR : Option Value) (hR : Heap) (LR : List Loc) : Prop := ∃ (t : Nat) (kb : ClassId), vR = some (.ref t) ∧ Fr n0 LR ∧ Keep h0 hR [] ∧ h0.size ≤ t ∧ (Arv Z hR t kb .byte (1 : Int32) [(.int (ch.toInt8.toInt32))] (.int 0))
set_option maxRecDepth 65536 in
set_option maxHeartbeats 40000000 in
theorem toBy1 (l : Launch) (Z : State) (a0 : Array Value) (hw : ∀ d ∈ tables_1, d.before a0 Z = true) (ws : List Jvm.Cond) (ch : Int32) (h0 : Heap) (n0 : Nat) (Z0 : n0 ≤ h0.size)  :
    own_M l (⟨"java/lang/StringLatin1", "toBytes", "(C)[B"⟩ : MethodName) jdk_43_method_46_code 1 (some (.array .byte)) ws ({ frames := 0, cells := 1, slots := 1, locals := 0 } : Room) Z #[(.int ch)] h0 (Q_toBy1 Z ch h0 n0) := by
  refine own_body (own := "java/lang/StringLatin1") rfl (plainFor_of_name pn_13) (fun m => ef_toBy1 m ch) ?_
  intro p e s m below meth c s₁ Bd hml hZ hh hx hby hown X0 e0
  have N0 := Fr.nil n0
  refine own_iconst X0.here hx hby d13_0 (v := (1 : Int32)) (by decide) ?_
  refine own_newP X0 hx hZ (aty := .byte) (own_w hw 0 rfl) e0 hby d13_1 (by decide) 1 (by decide) (by decide) (by decide) (by decide) (ad := "[B") (by decide) ?_
  intro T1 h1 k1 b1 X1 e1 E1 g1 V1 C1 lt1
  have z2 : h0.size ≤ h1.size := E1.1
  have V3 : Arv Z h1 b1 k1 .byte (1 : Int32) [(.int 0)] (.int 0) := V1.pad (pad_rep [] (.int 0) 1)
  refine own_dup X1.here hx hby d13_3 rfl ?_
  refine own_iconst X1.here hx hby d13_4 (v := (0 : Int32)) (by decide) ?_
  refine own_iloadN X1.here hx hby d13_5 rfl ?_
  refine own_i2b X1.here hx hby d13_6 rfl ?_
  refine own_bastore X1 hx hZ e1 V3 ⟨by decide, by decide⟩ 0 (by decide) (Nat.le_of_ble_eq_true rfl) (w := (.int (ch.toInt8.toInt32))) (congrArg Value.int (own_i2bb ch)) hby d13_7 N0 (by omega) ?_
  intro T4 h4 lo4 X4 e4 N4 W4 V4 z4
  have V5 : Arv Z h4 b1 k1 .byte (1 : Int32) [(.int (ch.toInt8.toInt32))] (.int 0) := V4
  have K6 : Keep h0 h4 [] := (((Keep.refl h0 []).ext E1).wr W4 (Or.inr (by omega)))
  obtain ⟨fs, hr, hrun, hended, hW, hsame⟩ := X4.leave (v := some (.ref b1)) (fun h => by rw [Bd.returns] at h; cases h)
  refine own_ret (t := T4.setFrames fs) ?_ ⟨_, hrun, hended, _, _, rfl, ?_, ⟨_, rfl⟩, hW, hsame.mono (by decide) (by decide)⟩
  · exact retOut X4 hx Bd.returns rfl (Or.inr (Or.inr (Or.inr (Or.inr ⟨rfl, rfl, rfl⟩)))) (hb hby d13_8) hr
  · show Q_toBy1 Z _ h0 n0 _ T4.heap _
    rw [e4]
    exact ⟨b1, k1, rfl, N4, K6, (by omega), V5⟩
theorem ef_bbInit (m : MethodId) (x0 : Nat) (x1 : Nat) (x2 : Int32) : entryFrame m #[(.ref x0), (.ref x1), (.int x2)] 3 = mkF m 0 #[.val (.ref x0), .val (.ref x1), .val (.int x2)] [] := by first | (simp [entryFrame, mkF, argsToLocals, Value.category]; done) | rfl
theorem pn_14 : plainName "java/lang/String" = true := by first | (simp [plainName, overriddenIn]; done) | decide +kernel
theorem d14_0 : decode jdk_42_method_151_code 0 = .ok (.aload_n 0, 1) := by decide +kernel
theorem d14_1 : decode jdk_42_method_151_code 1 = .ok (.invokespecial 1, 3) := by decide +kernel
theorem d14_4 : decode jdk_42_method_151_code 4 = .ok (.aload_n 0, 1) := by decide +kernel
theorem d14_5 : decode jdk_42_method_151_code 5 = .ok (.aload_n 1, 1) := by decide +kernel
theorem d14_6 : decode jdk_42_method_151_code 6 = .ok (.putfield 9, 3) := by decide +kernel
theorem d14_9 : decode jdk_42_method_151_code 9 = .ok (.aload_n 0, 1) := by decide +kernel
theorem d14_10 : decode jdk_42_method_151_code 10 = .ok (.iload_n 2, 1) := by decide +kernel
theorem d14_11 : decode jdk_42_method_151_code 11 = .ok (.putfield 15, 3) := by decide +kernel
theorem d14_14 : decode jdk_42_method_151_code 14 = .ok (.return_, 1) := by decide +kernel
def Q_bbInit (Z : State) (x : Nat) (t : Nat) (h0 : Heap) (n0 : Nat) (vR : Option Value) (hR : Heap) (LR : List Loc) : Prop := vR = none ∧ Fr n0 LR ∧ Keep h0 hR [x] ∧ (Exa Z hR x "java/lang/String") ∧ (Fld Z hR x "java/lang/String" "value" "[B" (.ref t)) ∧ (Fld Z hR x "java/lang/String" "coder" "B" (.int 0))
set_option maxRecDepth 65536 in
set_option maxHeartbeats 40000000 in
theorem bbInit (l : Launch) (Z : State) (a0 : Array Value) (hw : ∀ d ∈ tables_1, d.before a0 Z = true) (ws : List Jvm.Cond) (x : Nat) (t : Nat) (h0 : Heap) (n0 : Nat) (Z0 : n0 ≤ h0.size) (E_x : Exa Z h0 x "java/lang/String") (Fv_x : Fld Z h0 x "java/lang/String" "value" "[B" .null) (Fc_x : Fld Z h0 x "java/lang/String" "coder" "B" (.int 0)) (g_x : n0 ≤ x) :
    own_M l (⟨"java/lang/String", "<init>", "([BB)V"⟩ : MethodName) jdk_42_method_151_code 3 none ws ({ frames := 1, cells := 0, slots := 0, locals := 12 } : Room) Z #[(.ref x), (.ref t), (.int 0)] h0 (Q_bbInit Z x t h0 n0) := by
  refine own_body (own := "java/lang/String") rfl (plainFor_of_name pn_14) (fun m => ef_bbInit m x t (0 : Int32)) ?_
  intro p e s m below meth c s₁ Bd hml hZ hh hx hby hown X0 e0
  have N0 := Fr.nil n0
  have lt1 : h0.size > x := E_x.lt
  refine own_aloadN X0.here hx hby d14_0 rfl rfl ?_
  refine own_initO X0 hx hZ hown (own_w hw 79 rfl) (own_w hw 8 rfl) (own_w hw 9 rfl) e0 (by rw [hml]; rfl) hby d14_1 (by decide) 0 (Nat.le_of_eq rfl) (by decide) ?_
  intro T2 X2 e2
  refine own_aloadN X2.here hx hby d14_4 rfl rfl ?_
  refine own_aloadN X2.here hx hby d14_5 rfl rfl ?_
  refine own_putF X2 hx hZ (ty := (.array .byte)) hown (host := "") (Or.inl (own_w hw 41 rfl)) Via.refl e2 Fv_x E_x (Or.inr ⟨(own_w hw 27 rfl), rfl, (name_of_methodNamed Bd.named Bd.method).1⟩) (own_w hw 26 rfl) (by decide) rfl rfl hby d14_6 N0 g_x ?_
  intro T3 h3 lo3 X3 e3 N3 W3 F3 z3
  refine own_aloadN X3.here hx hby d14_9 rfl rfl ?_
  refine own_iloadN X3.here hx hby d14_10 rfl ?_
  have f4 := (E_x.wr W3)
  have f5 := (Fc_x.other W3 (Or.inr (slot_ne (Or.inr (own_w hw 28 rfl)) (Or.inr (own_w hw 27 rfl)) (by decide) (t := .byte) (t' := (.array .byte)) (by decide) (by decide))))
  refine own_putFN X3 hx hZ (ty := .byte) (v' := (.int 0)) hown (own_w hw 40 rfl) Via.refl e3 f5 f4 (Or.inr ⟨(own_w hw 28 rfl), rfl, (name_of_methodNamed Bd.named Bd.method).1⟩) (own_w hw 26 rfl) (by decide) rfl rfl hby d14_11 N3 g_x ?_
  intro T6 h6 lo6 X6 e6 N6 W6 F6 z6
  have K7 : Keep h0 h6 [x] := (((Keep.refl h0 [x]).wr W3 (Or.inl (List.mem_of_getElem? (i := 0) rfl))).wr W6 (Or.inl (List.mem_of_getElem? (i := 0) rfl)))
  have f8 := (f4.wr W6)
  have f9 := (F3.other W6 (Or.inr (slot_ne (Or.inr (own_w hw 27 rfl)) (Or.inr (own_w hw 28 rfl)) (by decide) (t := (.array .byte)) (t' := .byte) (by decide) (by decide))))
  obtain ⟨fs, hr, hrun, hended, hW, hsame⟩ := X6.leave (v := none) (fun _ => rfl)
  refine own_ret (t := T6.setFrames fs) ?_ ⟨_, hrun, hended, _, _, rfl, ?_, ⟨_, rfl⟩, hW, hsame.mono (by decide) (by decide)⟩
  · exact X6.returnOut hx Bd.returns (hb hby d14_14) hr
  · show Q_bbInit Z _ _ h0 n0 _ T6.heap _
    rw [e6]
    exact ⟨rfl, N6, K7, f8, f9, F6⟩
theorem ef_valOf (m : MethodId) (x0 : Int32) : entryFrame m #[(.int x0)] 1 = mkF m 0 #[.val (.int x0)] [] := by first | (simp [entryFrame, mkF, argsToLocals, Value.category]; done) | rfl
theorem pn_11 : plainName "java/lang/String" = true := by first | (simp [plainName, overriddenIn]; done) | decide +kernel
theorem d11_0 : decode jdk_42_method_139_code 0 = .ok (.getstatic 38, 3) := by decide +kernel
theorem d11_3 : decode jdk_42_method_139_code 3 = .ok (.ifCond .eq 23, 3) := by decide +kernel
theorem d11_6 : decode jdk_42_method_139_code 6 = .ok (.iload_n 0, 1) := by decide +kernel
theorem d11_7 : decode jdk_42_method_139_code 7 = .ok (.invokestatic 1015, 3) := by decide +kernel
theorem pd_0 : parseMethodDescriptor "(C)Z" = some ⟨[.char], some .boolean⟩ := by decide +kernel
theorem d11_10 : decode jdk_42_method_139_code 10 = .ok (.ifCond .eq 16, 3) := by decide +kernel
theorem d11_13 : decode jdk_42_method_139_code 13 = .ok (.new 10, 3) := by decide +kernel
theorem d11_16 : decode jdk_42_method_139_code 16 = .ok (.dup, 1) := by decide +kernel
theorem d11_17 : decode jdk_42_method_139_code 17 = .ok (.iload_n 0, 1) := by decide +kernel
theorem d11_18 : decode jdk_42_method_139_code 18 = .ok (.invokestatic 1018, 3) := by decide +kernel
theorem pd_1 : parseMethodDescriptor "(C)[B" = some ⟨[.char], some (.array .byte)⟩ := by decide +kernel
theorem d11_21 : decode jdk_42_method_139_code 21 = .ok (.iconst 0, 1) := by decide +kernel
theorem d11_22 : decode jdk_42_method_139_code 22 = .ok (.invokespecial 209, 3) := by decide +kernel
theorem pd_2 : parseMethodDescriptor "([BB)V" = some ⟨[(.array .byte), .byte], none⟩ := by decide +kernel
theorem d11_25 : decode jdk_42_method_139_code 25 = .ok (.areturn, 1) := by decide +kernel
def Q_valOf (Z : State) (ch : Int32) (zc : Int32) (h0 : Heap) (n0 : Nat) (vR : Option Value) (hR : Heap) (LR : List Loc) : Prop := ∃ (x : Nat) (t : Nat) (kb : ClassId), vR = some (.ref x) ∧ Fr n0 LR ∧ Keep h0 hR [] ∧ h0.size ≤ x ∧ h0.size ≤ t ∧ (x < t) ∧ (Exa Z hR x "java/lang/String") ∧ (Fld Z hR x "java/lang/String" "coder" "B" (.int 0)) ∧ (Fld Z hR x "java/lang/String" "value" "[B" (.ref t)) ∧ (Arv Z hR t kb .byte (1 : Int32) [(.int (ch.toInt8.toInt32))] (.int 0))
set_option maxRecDepth 65536 in
set_option maxHeartbeats 40000000 in
theorem valOf (l : Launch) (Z : State) (a0 : Array Value) (hw : ∀ d ∈ tables_1, d.before a0 Z = true) (ws : List Jvm.Cond) (ch : Int32) (zc : Int32) (h0 : Heap) (n0 : Nat) (Z0 : n0 ≤ h0.size) (S_C : Sta Z h0 "java/lang/String" "COMPACT_STRINGS" "Z" (.int zc)) (hz : ¬ (zc = (0 : Int32))) (hc : ¬ ((255 : Int32) < ch)) :
    own_M l (⟨"java/lang/String", "valueOf", "(C)Ljava/lang/String;"⟩ : MethodName) jdk_42_method_139_code 1 (some (.object "java/lang/String")) ws ({ frames := 2, cells := 2, slots := 5, locals := 27 } : Room) Z #[(.int ch)] h0 (Q_valOf Z ch zc h0 n0) := by
  refine own_body (own := "java/lang/String") rfl (plainFor_of_name pn_11) (fun m => ef_valOf m ch) ?_
  intro p e s m below meth c s₁ Bd hml hZ hh hx hby hown X0 e0
  have N0 := Fr.nil n0
  refine own_getS X0 hx hZ hown (host := "") (Or.inl (own_w hw 39 rfl)) Via.refl e0 S_C hby d11_0 ?_
  intro T1 X1 e1
  refine own_ifNo X1.here hx hby d11_3 ((if0 _ _).trans (feq hz).1) ?_
  refine own_iloadN X1.here hx hby d11_6 rfl ?_
  refine own_callS X1 hx hZ hown (own_w hw 70 rfl) (own_w hw 71 rfl) (own_w hw 44 rfl) (own_w hw 72 rfl) (by decide) (canEnc l Z a0 hw [] ch h0 n0 Z0 hc) 0 (Nat.le_of_eq rfl) (by decide) (by decide) (by rw [hml]; rfl) (argsL := [(.int ch)]) (st := []) (lenOf pd_0 rfl) rfl rfl (by decide) (by decide) e1 hby d11_7 ?_
  intro T2 v2 L2 X2 hQ2
  obtain ⟨rfl, Nq2, eh2⟩ := hQ2
  have N2 := Fr.app N0 Nq2
  refine own_sh (T := T2) 10 #[.val (.int ch)] [(.int 1)] ?_
  refine own_ifNo X2.here hx hby d11_10 ((if0 _ _).trans (feq (show ¬ ((1 : Int32) = (0 : Int32)) from (by decide))).1) ?_
  refine own_newO X2 hx hZ hown (own_w hw 37 rfl) (own_w hw 26 rfl) (own_w hw 25 rfl) eh2 hby d11_13 (by decide) (by decide) ?_
  intro T3 h3 b3 X3 e3 E3 g3 A3 D3 lt3
  have z4 : h0.size ≤ h3.size := E3.1
  have F5 : Fld Z h3 b3 "java/lang/String" "value" "[B" .null := D3 (Or.inr (own_w hw 27 rfl)) (ty := (.array .byte)) (by decide)
  have F6 : Fld Z h3 b3 "java/lang/String" "coder" "B" (.int 0) := D3 (Or.inr (own_w hw 28 rfl)) (ty := .byte) (by decide)
  refine own_dup X3.here hx hby d11_16 rfl ?_
  refine own_iloadN X3.here hx hby d11_17 rfl ?_
  have z8 : n0 ≤ h3.size := by omega
  refine own_callS X3 hx hZ hown (own_w hw 73 rfl) (own_w hw 74 rfl) (own_w hw 44 rfl) (own_w hw 75 rfl) (by decide) (toBy1 l Z a0 hw [] ch h3 n0 z8 ) 2 (Nat.le_of_eq rfl) (by decide) (by decide) (by rw [hml]; rfl) (argsL := [(.int ch)]) (st := [(.ref b3), (.ref b3)]) (lenOf pd_1 rfl) rfl rfl (by decide) (by decide) e3 hby d11_18 ?_
  intro T7 v7 L7 X7 hQ7
  obtain ⟨t_7, kb_7, rfl, Nq7, K7, P7_0, P7_1⟩ := hQ7
  have N7 := Fr.app N2 Nq7
  have z9 : h3.size ≤ T7.heap.size := K7.1
  have lt10 : T7.heap.size > t_7 := P7_1.lt
  refine own_sh (T := T7) 21 #[.val (.int ch)] [(.ref t_7), (.ref b3), (.ref b3)] ?_
  refine own_iconst X7.here hx hby d11_21 (v := (0 : Int32)) (by decide) ?_
  have f11 := (A3.keep K7)
  have f12 := (F5.keep K7 nin0)
  have f13 := (F6.keep K7 nin0)
  have z15 : n0 ≤ T7.heap.size := by omega
  refine own_special X7 hx hZ rfl hown (own_w hw 76 rfl) (own_w hw 77 rfl) (own_w hw 25 rfl) (own_w hw 78 rfl) (by decide) (bbInit l Z a0 hw [] b3 t_7 T7.heap n0 z15 f11 f12 f13 (by omega)) 1 (Nat.le_of_eq rfl) (by decide) (by decide) (by rw [hml]; rfl) (argsL := [(.ref t_7), (.int 0)]) (st := [(.ref b3)]) (a := b3) (lenOf pd_2 rfl) rfl rfl (by decide) (by decide) rfl hby d11_22 ?_
  intro T14 v14 L14 X14 hQ14
  obtain ⟨rfl, Nq14, K14, P14_0, P14_1, P14_2⟩ := hQ14
  have N14 := Fr.app N7 Nq14
  have z16 : T7.heap.size ≤ T14.heap.size := K14.1
  have lt17 : T14.heap.size > b3 := P14_0.lt
  refine own_sh (T := T14) 25 #[.val (.int ch)] [(.ref b3)] ?_
  have K18 : Keep h0 T14.heap [] := ((((Keep.refl h0 []).ext E3).trans K7 all0).trans K14 (allS (P := fun xq_ => xq_ ∈ [] ∨ h0.size ≤ xq_) (Or.inr (by omega)) all0))
  have f19 := (P7_1.keep K14 (ninS (own_nn (by omega)) nin0))
  obtain ⟨fs, hr, hrun, hended, hW, hsame⟩ := X14.leave (v := some (.ref b3)) (fun h => by rw [Bd.returns] at h; cases h)
  refine own_ret (t := T14.setFrames fs) ?_ ⟨_, hrun, hended, _, _, rfl, ?_, ⟨_, rfl⟩, hW, hsame.mono (by decide) (by decide)⟩
  · exact retOut X14 hx Bd.returns rfl (Or.inr (Or.inr (Or.inr (Or.inr ⟨rfl, rfl, rfl⟩)))) (hb hby d11_25) hr
  · show Q_valOf Z _ _ h0 n0 _ T14.heap _
    exact ⟨b3, t_7, kb_7, rfl, N14, K18, (by omega), (by omega), (by first | decide | omega | assumption), P14_0, P14_2, P14_1, f19⟩
theorem ef_strEqId (m : MethodId) (x0 : Nat) (x1 : Nat) : entryFrame m #[(.ref x0), (.ref x1)] 3 = mkF m 0 #[.val (.ref x0), .val (.ref x1), .unset] [] := by first | (simp [entryFrame, mkF, argsToLocals, Value.category]; done) | rfl
theorem pn_5 : plainName "java/lang/String" = true := by first | (simp [plainName, overriddenIn]; done) | decide +kernel
theorem d5_0 : decode jdk_42_method_66_code 0 = .ok (.aload_n 0, 1) := by decide +kernel
theorem d5_1 : decode jdk_42_method_66_code 1 = .ok (.aload_n 1, 1) := by decide +kernel
theorem d5_2 : decode jdk_42_method_66_code 2 = .ok (.if_acmp .ne 5, 3) := by decide +kernel
theorem d5_5 : decode jdk_42_method_66_code 5 = .ok (.iconst 1, 1) := by decide +kernel
theorem d5_6 : decode jdk_42_method_66_code 6 = .ok (.ireturn, 1) := by decide +kernel
def Q_strEqId (Z : State) (x : Nat) (x2 : Nat) (h0 : Heap) (n0 : Nat) (vR : Option Value) (hR : Heap) (LR : List Loc) : Prop := vR = some (.int 1) ∧ Fr n0 LR ∧ hR = h0
set_option maxRecDepth 65536 in
set_option maxHeartbeats 40000000 in
theorem strEqId (l : Launch) (Z : State) (a0 : Array Value) (hw : ∀ d ∈ tables_1, d.before a0 Z = true) (ws : List Jvm.Cond) (x : Nat) (x2 : Nat) (h0 : Heap) (n0 : Nat) (Z0 : n0 ≤ h0.size) (hxx : x = x2) :
    own_M l (⟨"java/lang/String", "equals", "(Ljava/lang/Object;)Z"⟩ : MethodName) jdk_42_method_66_code 3 (some .boolean) ws ({ frames := 0, cells := 0, slots := 0, locals := 0 } : Room) Z #[(.ref x), (.ref x2)] h0 (Q_strEqId Z x x2 h0 n0) := by
  refine own_body (own := "java/lang/String") rfl (plainFor_of_name pn_5) (fun m => ef_strEqId m x x2) ?_
  intro p e s m below meth c s₁ Bd hml hZ hh hx hby hown X0 e0
  have N0 := Fr.nil n0
  refine own_aloadN X0.here hx hby d5_0 rfl rfl ?_
  refine own_aloadN X0.here hx hby d5_1 rfl rfl ?_
  refine own_acmp X0 hx (same := true) (pc' := 5) hby d5_2 rfl rfl (decide_eq_true (congrArg Value.ref hxx)) (by decide) (by decide) ?_
  refine own_iconst X0.here hx hby d5_5 (v := (1 : Int32)) (by decide) ?_
  obtain ⟨fs, hr, hrun, hended, hW, hsame⟩ := X0.leave (v := some (.int 1)) (fun h => by rw [Bd.returns] at h; cases h)
  refine own_ret (t := s₁.setFrames fs) ?_ ⟨_, hrun, hended, _, _, rfl, ?_, ⟨_, rfl⟩, hW, hsame.mono (by decide) (by decide)⟩
  · exact retN X0 hx (t := .boolean) Bd.returns (by simp) (hb hby d5_6) hr
  · show Q_strEqId Z _ _ h0 n0 _ s₁.heap _
    rw [e0]
    exact ⟨rfl, N0, rfl⟩
theorem ef_l1Eq_b1 (m : MethodId) (x0 : Nat) (x1 : Nat) : entryFrame m #[(.ref x0), (.ref x1)] 3 = mkF m 0 #[.val (.ref x0), .val (.ref x1), .unset] [] := by first | (simp [entryFrame, mkF, argsToLocals, Value.category]; done) | rfl
theorem pn_6 : plainName "java/lang/StringLatin1" = true := by first | (simp [plainName, overriddenIn]; done) | decide +kernel
theorem d6_0 : decode jdk_43_method_13_code 0 = .ok (.aload_n 0, 1) := by decide +kernel
theorem d6_1 : decode jdk_43_method_13_code 1 = .ok (.arraylength, 1) := by decide +kernel
theorem d6_2 : decode jdk_43_method_13_code 2 = .ok (.aload_n 1, 1) := by decide +kernel
theorem d6_3 : decode jdk_43_method_13_code 3 = .ok (.arraylength, 1) := by decide +kernel
theorem d6_4 : decode jdk_43_method_13_code 4 = .ok (.if_icmp .ne 30, 3) := by decide +kernel
theorem d6_7 : decode jdk_43_method_13_code 7 = .ok (.iconst 0, 1) := by decide +kernel
theorem d6_8 : decode jdk_43_method_13_code 8 = .ok (.istore_n 2, 1) := by decide +kernel
theorem d6_9 : decode jdk_43_method_13_code 9 = .ok (.iload_n 2, 1) := by decide +kernel
theorem d6_10 : decode jdk_43_method_13_code 10 = .ok (.aload_n 0, 1) := by decide +kernel
theorem d6_11 : decode jdk_43_method_13_code 11 = .ok (.arraylength, 1) := by decide +kernel
theorem d6_12 : decode jdk_43_method_13_code 12 = .ok (.if_icmp .ge 20, 3) := by decide +kernel
theorem d6_15 : decode jdk_43_method_13_code 15 = .ok (.aload_n 0, 1) := by decide +kernel
theorem d6_16 : decode jdk_43_method_13_code 16 = .ok (.iload_n 2, 1) := by decide +kernel
theorem d6_17 : decode jdk_43_method_13_code 17 = .ok (.baload, 1) := by decide +kernel
theorem d6_18 : decode jdk_43_method_13_code 18 = .ok (.aload_n 1, 1) := by decide +kernel
theorem d6_19 : decode jdk_43_method_13_code 19 = .ok (.iload_n 2, 1) := by decide +kernel
theorem d6_20 : decode jdk_43_method_13_code 20 = .ok (.baload, 1) := by decide +kernel
theorem d6_21 : decode jdk_43_method_13_code 21 = .ok (.if_icmp .eq 5, 3) := by decide +kernel
theorem d6_26 : decode jdk_43_method_13_code 26 = .ok (.iinc 2 1, 3) := by decide +kernel
theorem d6_29 : decode jdk_43_method_13_code 29 = .ok (.goto (-20), 3) := by decide +kernel
theorem d6_32 : decode jdk_43_method_13_code 32 = .ok (.iconst 1, 1) := by decide +kernel
theorem d6_33 : decode jdk_43_method_13_code 33 = .ok (.ireturn, 1) := by decide +kernel
def Q_l1Eq_b1 (Z : State) (t : Nat) (t2 : Nat) (kb : ClassId) (kc : ClassId) (h0 : Heap) (n0 : Nat) (vR : Option Value) (hR : Heap) (LR : List Loc) : Prop := vR = some (.int 1) ∧ Fr n0 LR ∧ hR = h0
set_option maxRecDepth 65536 in
set_option maxHeartbeats 40000000 in
theorem l1Eq_b1 (l : Launch) (Z : State) (a0 : Array Value) (hw : ∀ d ∈ tables_1, d.before a0 Z = true) (ws : List Jvm.Cond) (t : Nat) (t2 : Nat) (kb : ClassId) (kc : ClassId) (h0 : Heap) (n0 : Nat) (Z0 : n0 ≤ h0.size) (V_t : Arv Z h0 t kb .byte (6 : Int32) [(.int 66), (.int 105), (.int 110), (.int 97), (.int 114), (.int 121)] (.int 0)) (V_t2 : Arv Z h0 t2 kc .byte (6 : Int32) [(.int 66), (.int 105), (.int 110), (.int 97), (.int 114), (.int 121)] (.int 0)) :
    own_M l (⟨"java/lang/StringLatin1", "equals", "([B[B)Z"⟩ : MethodName) jdk_43_method_13_code 3 (some .boolean) ws ({ frames := 0, cells := 0, slots := 0, locals := 0 } : Room) Z #[(.ref t), (.ref t2)] h0 (Q_l1Eq_b1 Z t t2 kb kc h0 n0) := by
  refine own_body (own := "java/lang/StringLatin1") rfl (plainFor_of_name pn_6) (fun m => ef_l1Eq_b1 m t t2) ?_
  intro p e s m below meth c s₁ Bd hml hZ hh hx hby hown X0 e0
  have N0 := Fr.nil n0
  have lt1 : h0.size > t := V_t.lt
  have lt3 : h0.size > t2 := V_t2.lt
  refine own_aloadN X0.here hx hby d6_0 rfl rfl ?_
  refine own_alen X0 hx hZ e0 V_t hby d6_1 ?_
  refine own_aloadN X0.here hx hby d6_2 rfl rfl ?_
  refine own_alen X0 hx hZ e0 V_t2 hby d6_3 ?_
  refine own_icmpNo X0.here hx hby d6_4 (teq (show (6 : Int32) = (6 : Int32) from (by decide))).2 ?_
  refine own_iconst X0.here hx hby d6_7 (v := (0 : Int32)) (by decide) ?_
  refine own_istoreN X0.here hx hby d6_8 (l' := #[.val (.ref t), .val (.ref t2), .val (.int 0)]) rfl ?_
  refine own_iloadN X0.here hx hby d6_9 rfl ?_
  refine own_aloadN X0.here hx hby d6_10 rfl rfl ?_
  refine own_alen X0 hx hZ e0 V_t hby d6_11 ?_
  refine own_icmpNo X0.here hx hby d6_12 (tlt (show (0 : Int32) < (6 : Int32) from (by decide))).2.1 ?_
  refine own_aloadN X0.here hx hby d6_15 rfl rfl ?_
  refine own_iloadN X0.here hx hby d6_16 rfl ?_
  refine own_baload X0 hx hZ e0 V_t ⟨by decide, by decide⟩ (v := (.int 66)) rfl hby d6_17 ?_
  refine own_aloadN X0.here hx hby d6_18 rfl rfl ?_
  refine own_iloadN X0.here hx hby d6_19 rfl ?_
  refine own_baload X0 hx hZ e0 V_t2 ⟨by decide, by decide⟩ (v := (.int 66)) rfl hby d6_20 ?_
  refine own_icmpYes X0.here hx hby (pc' := 26) d6_21 (teq (show (66 : Int32) = (66 : Int32) from (by decide))).1 (by decide) (by decide) ?_
  refine own_iinc X0.here hx hby d6_26 rfl (v := (1 : Int32)) (by decide) (l' := #[.val (.ref t), .val (.ref t2), .val (.int 1)]) rfl ?_
  refine own_goto X0.here hx hby (pc' := 9) d6_29 (by decide) (by decide) ?_
  refine own_iloadN X0.here hx hby d6_9 rfl ?_
  refine own_aloadN X0.here hx hby d6_10 rfl rfl ?_
  refine own_alen X0 hx hZ e0 V_t hby d6_11 ?_
  refine own_icmpNo X0.here hx hby d6_12 (tlt (show (1 : Int32) < (6 : Int32) from (by decide))).2.1 ?_
  refine own_aloadN X0.here hx hby d6_15 rfl rfl ?_
  refine own_iloadN X0.here hx hby d6_16 rfl ?_
  refine own_baload X0 hx hZ e0 V_t ⟨by decide, by decide⟩ (v := (.int 105)) rfl hby d6_17 ?_
  refine own_aloadN X0.here hx hby d6_18 rfl rfl ?_
  refine own_iloadN X0.here hx hby d6_19 rfl ?_
  refine own_baload X0 hx hZ e0 V_t2 ⟨by decide, by decide⟩ (v := (.int 105)) rfl hby d6_20 ?_
  refine own_icmpYes X0.here hx hby (pc' := 26) d6_21 (teq (show (105 : Int32) = (105 : Int32) from (by decide))).1 (by decide) (by decide) ?_
  refine own_iinc X0.here hx hby d6_26 rfl (v := (2 : Int32)) (by decide) (l' := #[.val (.ref t), .val (.ref t2), .val (.int 2)]) rfl ?_
  refine own_goto X0.here hx hby (pc' := 9) d6_29 (by decide) (by decide) ?_
  refine own_iloadN X0.here hx hby d6_9 rfl ?_
  refine own_aloadN X0.here hx hby d6_10 rfl rfl ?_
  refine own_alen X0 hx hZ e0 V_t hby d6_11 ?_
  refine own_icmpNo X0.here hx hby d6_12 (tlt (show (2 : Int32) < (6 : Int32) from (by decide))).2.1 ?_
  refine own_aloadN X0.here hx hby d6_15 rfl rfl ?_
  refine own_iloadN X0.here hx hby d6_16 rfl ?_
  refine own_baload X0 hx hZ e0 V_t ⟨by decide, by decide⟩ (v := (.int 110)) rfl hby d6_17 ?_
  refine own_aloadN X0.here hx hby d6_18 rfl rfl ?_
  refine own_iloadN X0.here hx hby d6_19 rfl ?_
  refine own_baload X0 hx hZ e0 V_t2 ⟨by decide, by decide⟩ (v := (.int 110)) rfl hby d6_20 ?_
  refine own_icmpYes X0.here hx hby (pc' := 26) d6_21 (teq (show (110 : Int32) = (110 : Int32) from (by decide))).1 (by decide) (by decide) ?_
  refine own_iinc X0.here hx hby d6_26 rfl (v := (3 : Int32)) (by decide) (l' := #[.val (.ref t), .val (.ref t2), .val (.int 3)]) rfl ?_
  refine own_goto X0.here hx hby (pc' := 9) d6_29 (by decide) (by decide) ?_
  refine own_iloadN X0.here hx hby d6_9 rfl ?_
  refine own_aloadN X0.here hx hby d6_10 rfl rfl ?_
  refine own_alen X0 hx hZ e0 V_t hby d6_11 ?_
  refine own_icmpNo X0.here hx hby d6_12 (tlt (show (3 : Int32) < (6 : Int32) from (by decide))).2.1 ?_
  refine own_aloadN X0.here hx hby d6_15 rfl rfl ?_
  refine own_iloadN X0.here hx hby d6_16 rfl ?_
  refine own_baload X0 hx hZ e0 V_t ⟨by decide, by decide⟩ (v := (.int 97)) rfl hby d6_17 ?_
  refine own_aloadN X0.here hx hby d6_18 rfl rfl ?_
  refine own_iloadN X0.here hx hby d6_19 rfl ?_
  refine own_baload X0 hx hZ e0 V_t2 ⟨by decide, by decide⟩ (v := (.int 97)) rfl hby d6_20 ?_
  refine own_icmpYes X0.here hx hby (pc' := 26) d6_21 (teq (show (97 : Int32) = (97 : Int32) from (by decide))).1 (by decide) (by decide) ?_
  refine own_iinc X0.here hx hby d6_26 rfl (v := (4 : Int32)) (by decide) (l' := #[.val (.ref t), .val (.ref t2), .val (.int 4)]) rfl ?_
  refine own_goto X0.here hx hby (pc' := 9) d6_29 (by decide) (by decide) ?_
  refine own_iloadN X0.here hx hby d6_9 rfl ?_
  refine own_aloadN X0.here hx hby d6_10 rfl rfl ?_
  refine own_alen X0 hx hZ e0 V_t hby d6_11 ?_
  refine own_icmpNo X0.here hx hby d6_12 (tlt (show (4 : Int32) < (6 : Int32) from (by decide))).2.1 ?_
  refine own_aloadN X0.here hx hby d6_15 rfl rfl ?_
  refine own_iloadN X0.here hx hby d6_16 rfl ?_
  refine own_baload X0 hx hZ e0 V_t ⟨by decide, by decide⟩ (v := (.int 114)) rfl hby d6_17 ?_
  refine own_aloadN X0.here hx hby d6_18 rfl rfl ?_
  refine own_iloadN X0.here hx hby d6_19 rfl ?_
  refine own_baload X0 hx hZ e0 V_t2 ⟨by decide, by decide⟩ (v := (.int 114)) rfl hby d6_20 ?_
  refine own_icmpYes X0.here hx hby (pc' := 26) d6_21 (teq (show (114 : Int32) = (114 : Int32) from (by decide))).1 (by decide) (by decide) ?_
  refine own_iinc X0.here hx hby d6_26 rfl (v := (5 : Int32)) (by decide) (l' := #[.val (.ref t), .val (.ref t2), .val (.int 5)]) rfl ?_
  refine own_goto X0.here hx hby (pc' := 9) d6_29 (by decide) (by decide) ?_
  refine own_iloadN X0.here hx hby d6_9 rfl ?_
  refine own_aloadN X0.here hx hby d6_10 rfl rfl ?_
  refine own_alen X0 hx hZ e0 V_t hby d6_11 ?_
  refine own_icmpNo X0.here hx hby d6_12 (tlt (show (5 : Int32) < (6 : Int32) from (by decide))).2.1 ?_
  refine own_aloadN X0.here hx hby d6_15 rfl rfl ?_
  refine own_iloadN X0.here hx hby d6_16 rfl ?_
  refine own_baload X0 hx hZ e0 V_t ⟨by decide, by decide⟩ (v := (.int 121)) rfl hby d6_17 ?_
  refine own_aloadN X0.here hx hby d6_18 rfl rfl ?_
  refine own_iloadN X0.here hx hby d6_19 rfl ?_
  refine own_baload X0 hx hZ e0 V_t2 ⟨by decide, by decide⟩ (v := (.int 121)) rfl hby d6_20 ?_
  refine own_icmpYes X0.here hx hby (pc' := 26) d6_21 (teq (show (121 : Int32) = (121 : Int32) from (by decide))).1 (by decide) (by decide) ?_
  refine own_iinc X0.here hx hby d6_26 rfl (v := (6 : Int32)) (by decide) (l' := #[.val (.ref t), .val (.ref t2), .val (.int 6)]) rfl ?_
  refine own_goto X0.here hx hby (pc' := 9) d6_29 (by decide) (by decide) ?_
  refine own_iloadN X0.here hx hby d6_9 rfl ?_
  refine own_aloadN X0.here hx hby d6_10 rfl rfl ?_
  refine own_alen X0 hx hZ e0 V_t hby d6_11 ?_
  refine own_icmpYes X0.here hx hby (pc' := 32) d6_12 (flt (show ¬ ((6 : Int32) < (6 : Int32)) from (by decide))).2.1 (by decide) (by decide) ?_
  refine own_iconst X0.here hx hby d6_32 (v := (1 : Int32)) (by decide) ?_
  obtain ⟨fs, hr, hrun, hended, hW, hsame⟩ := X0.leave (v := some (.int 1)) (fun h => by rw [Bd.returns] at h; cases h)
  refine own_ret (t := s₁.setFrames fs) ?_ ⟨_, hrun, hended, _, _, rfl, ?_, ⟨_, rfl⟩, hW, hsame.mono (by decide) (by decide)⟩
  · exact retN X0 hx (t := .boolean) Bd.returns (by simp) (hb hby d6_33) hr
  · show Q_l1Eq_b1 Z _ _ _ _ h0 n0 _ s₁.heap _
    rw [e0]
    exact ⟨rfl, N0, rfl⟩
theorem d5_7 : decode jdk_42_method_66_code 7 = .ok (.aload_n 1, 1) := by decide +kernel
theorem d5_8 : decode jdk_42_method_66_code 8 = .ok (.instanceof 10, 3) := by decide +kernel
theorem d5_11 : decode jdk_42_method_66_code 11 = .ok (.ifCond .eq 43, 3) := by decide +kernel
theorem d5_14 : decode jdk_42_method_66_code 14 = .ok (.aload_n 1, 1) := by decide +kernel
theorem d5_15 : decode jdk_42_method_66_code 15 = .ok (.checkcast 10, 3) := by decide +kernel
theorem d5_18 : decode jdk_42_method_66_code 18 = .ok (.astore_n 2, 1) := by decide +kernel
theorem d5_19 : decode jdk_42_method_66_code 19 = .ok (.getstatic 38, 3) := by decide +kernel
theorem d5_22 : decode jdk_42_method_66_code 22 = .ok (.ifCond .eq 14, 3) := by decide +kernel
theorem d5_25 : decode jdk_42_method_66_code 25 = .ok (.aload_n 0, 1) := by decide +kernel
theorem d5_26 : decode jdk_42_method_66_code 26 = .ok (.getfield 15, 3) := by decide +kernel
theorem d5_29 : decode jdk_42_method_66_code 29 = .ok (.aload_n 2, 1) := by decide +kernel
theorem d5_30 : decode jdk_42_method_66_code 30 = .ok (.getfield 15, 3) := by decide +kernel
theorem d5_33 : decode jdk_42_method_66_code 33 = .ok (.if_icmp .ne 21, 3) := by decide +kernel
theorem d5_36 : decode jdk_42_method_66_code 36 = .ok (.aload_n 0, 1) := by decide +kernel
theorem d5_37 : decode jdk_42_method_66_code 37 = .ok (.getfield 9, 3) := by decide +kernel
theorem d5_40 : decode jdk_42_method_66_code 40 = .ok (.aload_n 2, 1) := by decide +kernel
theorem d5_41 : decode jdk_42_method_66_code 41 = .ok (.getfield 9, 3) := by decide +kernel
theorem d5_44 : decode jdk_42_method_66_code 44 = .ok (.invokestatic 541, 3) := by decide +kernel
theorem pd_3 : parseMethodDescriptor "([B[B)Z" = some ⟨[(.array .byte), (.array .byte)], some .boolean⟩ := by decide +kernel
theorem d5_47 : decode jdk_42_method_66_code 47 = .ok (.ifCond .eq 7, 3) := by decide +kernel
theorem d5_50 : decode jdk_42_method_66_code 50 = .ok (.iconst 1, 1) := by decide +kernel
theorem d5_51 : decode jdk_42_method_66_code 51 = .ok (.goto 4, 3) := by decide +kernel
theorem d5_55 : decode jdk_42_method_66_code 55 = .ok (.ireturn, 1) := by decide +kernel
def Q_strEq_b1 (Z : State) (x : Nat) (x2 : Nat) (t : Nat) (t2 : Nat) (kb : ClassId) (kc : ClassId) (zc : Int32) (h0 : Heap) (n0 : Nat) (vR : Option Value) (hR : Heap) (LR : List Loc) : Prop := vR = some (.int 1) ∧ Fr n0 LR ∧ hR = h0
set_option maxRecDepth 65536 in
set_option maxHeartbeats 40000000 in
theorem strEq_b1 (l : Launch) (Z : State) (a0 : Array Value) (hw : ∀ d ∈ tables_1, d.before a0 Z = true) (ws : List Jvm.Cond) (x : Nat) (x2 : Nat) (t : Nat) (t2 : Nat) (kb : ClassId) (kc : ClassId) (zc : Int32) (h0 : Heap) (n0 : Nat) (Z0 : n0 ≤ h0.size) (E_x : Exa Z h0 x "java/lang/String") (E_x2 : Exa Z h0 x2 "java/lang/String") (hne : x ≠ x2) (Fc_x : Fld Z h0 x "java/lang/String" "coder" "B" (.int 0)) (Fv_x : Fld Z h0 x "java/lang/String" "value" "[B" (.ref t)) (V_t : Arv Z h0 t kb .byte (6 : Int32) [(.int 66), (.int 105), (.int 110), (.int 97), (.int 114), (.int 121)] (.int 0)) (Fc_x2 : Fld Z h0 x2 "java/lang/String" "coder" "B" (.int 0)) (Fv_x2 : Fld Z h0 x2 "java/lang/String" "value" "[B" (.ref t2)) (V_t2 : Arv Z h0 t2 kc .byte (6 : Int32) [(.int 66), (.int 105), (.int 110), (.int 97), (.int 114), (.int 121)] (.int 0)) (S_C : Sta Z h0 "java/lang/String" "COMPACT_STRINGS" "Z" (.int zc)) (hz : ¬ (zc = (0 : Int32))) :
    own_M l (⟨"java/lang/String", "equals", "(Ljava/lang/Object;)Z"⟩ : MethodName) jdk_42_method_66_code 3 (some .boolean) ws ({ frames := 1, cells := 0, slots := 0, locals := 14 } : Room) Z #[(.ref x), (.ref x2)] h0 (Q_strEq_b1 Z x x2 t t2 kb kc zc h0 n0) := by
  refine own_body (own := "java/lang/String") rfl (plainFor_of_name pn_5) (fun m => ef_strEqId m x x2) ?_
  intro p e s m below meth c s₁ Bd hml hZ hh hx hby hown X0 e0
  have N0 := Fr.nil n0
  have lt1 : h0.size > x := E_x.lt
  have lt3 : h0.size > x2 := E_x2.lt
  have lt4 : h0.size > t := V_t.lt
  have lt5 : h0.size > t2 := V_t2.lt
  refine own_aloadN X0.here hx hby d5_0 rfl rfl ?_
  refine own_aloadN X0.here hx hby d5_1 rfl rfl ?_
  refine own_acmp X0 hx (same := false) (pc' := 7) hby d5_2 rfl rfl (decide_eq_false fun q => absurd (Value.ref.inj q) hne) (by decide) (by decide) ?_
  refine own_aloadN X0.here hx hby d5_7 rfl rfl ?_
  refine own_instY X0 hx hZ hown (own_w hw 37 rfl) e0 (Ins.self E_x2) hby d5_8 ?_
  intro T6 X6 e6
  refine own_ifNo X6.here hx hby d5_11 ((if0 _ _).trans (feq (show ¬ ((1 : Int32) = (0 : Int32)) from (by decide))).1) ?_
  refine own_aloadN X6.here hx hby d5_14 rfl rfl ?_
  refine own_castY X6 hx hZ hown (own_w hw 37 rfl) e6 (Ins.self E_x2) hby d5_15 ?_
  intro T7 X7 e7
  refine own_astoreN X7.here hx hby d5_18 rfl (l' := #[.val (.ref x), .val (.ref x2), .val (.ref x2)]) rfl ?_
  refine own_getS X7 hx hZ hown (host := "") (Or.inl (own_w hw 39 rfl)) Via.refl e7 S_C hby d5_19 ?_
  intro T8 X8 e8
  refine own_ifNo X8.here hx hby d5_22 ((if0 _ _).trans (feq hz).1) ?_
  refine own_aloadN X8.here hx hby d5_25 rfl rfl ?_
  refine own_getF X8 hx hZ hown (host := "") (Or.inl (own_w hw 40 rfl)) Via.refl e8 Fc_x hby d5_26 ?_
  intro T9 X9 e9
  refine own_aloadN X9.here hx hby d5_29 rfl rfl ?_
  refine own_getF X9 hx hZ hown (host := "") (Or.inl (own_w hw 40 rfl)) Via.refl e9 Fc_x2 hby d5_30 ?_
  intro T10 X10 e10
  refine own_icmpNo X10.here hx hby d5_33 (teq (show (0 : Int32) = (0 : Int32) from (by decide))).2 ?_
  refine own_aloadN X10.here hx hby d5_36 rfl rfl ?_
  refine own_getF X10 hx hZ hown (host := "") (Or.inl (own_w hw 41 rfl)) Via.refl e10 Fv_x hby d5_37 ?_
  intro T11 X11 e11
  refine own_aloadN X11.here hx hby d5_40 rfl rfl ?_
  refine own_getF X11 hx hZ hown (host := "") (Or.inl (own_w hw 41 rfl)) Via.refl e11 Fv_x2 hby d5_41 ?_
  intro T12 X12 e12
  refine own_callS X12 hx hZ hown (own_w hw 42 rfl) (own_w hw 43 rfl) (own_w hw 44 rfl) (own_w hw 45 rfl) (by decide) (l1Eq_b1 l Z a0 hw [] t t2 kb kc h0 n0 Z0 V_t V_t2) 0 (Nat.le_of_eq rfl) (by decide) (by decide) (by rw [hml]; rfl) (argsL := [(.ref t), (.ref t2)]) (st := []) (lenOf pd_3 rfl) rfl rfl (by decide) (by decide) e12 hby d5_44 ?_
  intro T13 v13 L13 X13 hQ13
  obtain ⟨rfl, Nq13, eh13⟩ := hQ13
  have N13 := Fr.app N0 Nq13
  refine own_sh (T := T13) 47 #[.val (.ref x), .val (.ref x2), .val (.ref x2)] [(.int 1)] ?_
  refine own_ifNo X13.here hx hby d5_47 ((if0 _ _).trans (feq (show ¬ ((1 : Int32) = (0 : Int32)) from (by decide))).1) ?_
  refine own_iconst X13.here hx hby d5_50 (v := (1 : Int32)) (by decide) ?_
  refine own_goto X13.here hx hby (pc' := 55) d5_51 (by decide) (by decide) ?_
  obtain ⟨fs, hr, hrun, hended, hW, hsame⟩ := X13.leave (v := some (.int 1)) (fun h => by rw [Bd.returns] at h; cases h)
  refine own_ret (t := T13.setFrames fs) ?_ ⟨_, hrun, hended, _, _, rfl, ?_, ⟨_, rfl⟩, hW, hsame.mono (by decide) (by decide)⟩
  · exact retN X13 hx (t := .boolean) Bd.returns (by simp) (hb hby d5_55) hr
  · show Q_strEq_b1 Z _ _ _ _ _ _ _ h0 n0 _ T13.heap _
    rw [eh13]
    exact ⟨rfl, N13, rfl⟩
theorem d6_34 : decode jdk_43_method_13_code 34 = .ok (.iconst 0, 1) := by decide +kernel
theorem d6_35 : decode jdk_43_method_13_code 35 = .ok (.ireturn, 1) := by decide +kernel
def Q_l1Eq_b2 (Z : State) (t : Nat) (t2 : Nat) (kb : ClassId) (kc : ClassId) (h0 : Heap) (n0 : Nat) (vR : Option Value) (hR : Heap) (LR : List Loc) : Prop := vR = some (.int 0) ∧ Fr n0 LR ∧ hR = h0
set_option maxRecDepth 65536 in
set_option maxHeartbeats 40000000 in
theorem l1Eq_b2 (l : Launch) (Z : State) (a0 : Array Value) (hw : ∀ d ∈ tables_1, d.before a0 Z = true) (ws : List Jvm.Cond) (t : Nat) (t2 : Nat) (kb : ClassId) (kc : ClassId) (h0 : Heap) (n0 : Nat) (Z0 : n0 ≤ h0.size) (V_t : Arv Z h0 t kb .byte (7 : Int32) [(.int 66), (.int 105), (.int 110), (.int 97), (.int 114), (.int 121), (.int 46)] (.int 0)) (V_t2 : Arv Z h0 t2 kc .byte (6 : Int32) [(.int 66), (.int 105), (.int 110), (.int 97), (.int 114), (.int 121)] (.int 0)) :
    own_M l (⟨"java/lang/StringLatin1", "equals", "([B[B)Z"⟩ : MethodName) jdk_43_method_13_code 3 (some .boolean) ws ({ frames := 0, cells := 0, slots := 0, locals := 0 } : Room) Z #[(.ref t), (.ref t2)] h0 (Q_l1Eq_b2 Z t t2 kb kc h0 n0) := by
  refine own_body (own := "java/lang/StringLatin1") rfl (plainFor_of_name pn_6) (fun m => ef_l1Eq_b1 m t t2) ?_
  intro p e s m below meth c s₁ Bd hml hZ hh hx hby hown X0 e0
  have N0 := Fr.nil n0
  have lt1 : h0.size > t := V_t.lt
  have lt3 : h0.size > t2 := V_t2.lt
  refine own_aloadN X0.here hx hby d6_0 rfl rfl ?_
  refine own_alen X0 hx hZ e0 V_t hby d6_1 ?_
  refine own_aloadN X0.here hx hby d6_2 rfl rfl ?_
  refine own_alen X0 hx hZ e0 V_t2 hby d6_3 ?_
  refine own_icmpYes X0.here hx hby (pc' := 34) d6_4 (feq (show ¬ ((7 : Int32) = (6 : Int32)) from (by decide))).2 (by decide) (by decide) ?_
  refine own_iconst X0.here hx hby d6_34 (v := (0 : Int32)) (by decide) ?_
  obtain ⟨fs, hr, hrun, hended, hW, hsame⟩ := X0.leave (v := some (.int 0)) (fun h => by rw [Bd.returns] at h; cases h)
  refine own_ret (t := s₁.setFrames fs) ?_ ⟨_, hrun, hended, _, _, rfl, ?_, ⟨_, rfl⟩, hW, hsame.mono (by decide) (by decide)⟩
  · exact retN X0 hx (t := .boolean) Bd.returns (by simp) (hb hby d6_35) hr
  · show Q_l1Eq_b2 Z _ _ _ _ h0 n0 _ s₁.heap _
    rw [e0]
    exact ⟨rfl, N0, rfl⟩
theorem d5_54 : decode jdk_42_method_66_code 54 = .ok (.iconst 0, 1) := by decide +kernel
def Q_strEq_b2 (Z : State) (x : Nat) (x2 : Nat) (t : Nat) (t2 : Nat) (kb : ClassId) (kc : ClassId) (zc : Int32) (h0 : Heap) (n0 : Nat) (vR : Option Value) (hR : Heap) (LR : List Loc) : Prop := vR = some (.int 0) ∧ Fr n0 LR ∧ hR = h0
set_option maxRecDepth 65536 in
set_option maxHeartbeats 40000000 in
theorem strEq_b2 (l : Launch) (Z : State) (a0 : Array Value) (hw : ∀ d ∈ tables_1, d.before a0 Z = true) (ws : List Jvm.Cond) (x : Nat) (x2 : Nat) (t : Nat) (t2 : Nat) (kb : ClassId) (kc : ClassId) (zc : Int32) (h0 : Heap) (n0 : Nat) (Z0 : n0 ≤ h0.size) (E_x : Exa Z h0 x "java/lang/String") (E_x2 : Exa Z h0 x2 "java/lang/String") (hne : x ≠ x2) (Fc_x : Fld Z h0 x "java/lang/String" "coder" "B" (.int 0)) (Fv_x : Fld Z h0 x "java/lang/String" "value" "[B" (.ref t)) (V_t : Arv Z h0 t kb .byte (7 : Int32) [(.int 66), (.int 105), (.int 110), (.int 97), (.int 114), (.int 121), (.int 46)] (.int 0)) (Fc_x2 : Fld Z h0 x2 "java/lang/String" "coder" "B" (.int 0)) (Fv_x2 : Fld Z h0 x2 "java/lang/String" "value" "[B" (.ref t2)) (V_t2 : Arv Z h0 t2 kc .byte (6 : Int32) [(.int 66), (.int 105), (.int 110), (.int 97), (.int 114), (.int 121)] (.int 0)) (S_C : Sta Z h0 "java/lang/String" "COMPACT_STRINGS" "Z" (.int zc)) (hz : ¬ (zc = (0 : Int32))) :
    own_M l (⟨"java/lang/String", "equals", "(Ljava/lang/Object;)Z"⟩ : MethodName) jdk_42_method_66_code 3 (some .boolean) ws ({ frames := 1, cells := 0, slots := 0, locals := 14 } : Room) Z #[(.ref x), (.ref x2)] h0 (Q_strEq_b2 Z x x2 t t2 kb kc zc h0 n0) := by
  refine own_body (own := "java/lang/String") rfl (plainFor_of_name pn_5) (fun m => ef_strEqId m x x2) ?_
  intro p e s m below meth c s₁ Bd hml hZ hh hx hby hown X0 e0
  have N0 := Fr.nil n0
  have lt1 : h0.size > x := E_x.lt
  have lt3 : h0.size > x2 := E_x2.lt
  have lt4 : h0.size > t := V_t.lt
  have lt5 : h0.size > t2 := V_t2.lt
  refine own_aloadN X0.here hx hby d5_0 rfl rfl ?_
  refine own_aloadN X0.here hx hby d5_1 rfl rfl ?_
  refine own_acmp X0 hx (same := false) (pc' := 7) hby d5_2 rfl rfl (decide_eq_false fun q => absurd (Value.ref.inj q) hne) (by decide) (by decide) ?_
  refine own_aloadN X0.here hx hby d5_7 rfl rfl ?_
  refine own_instY X0 hx hZ hown (own_w hw 37 rfl) e0 (Ins.self E_x2) hby d5_8 ?_
  intro T6 X6 e6
  refine own_ifNo X6.here hx hby d5_11 ((if0 _ _).trans (feq (show ¬ ((1 : Int32) = (0 : Int32)) from (by decide))).1) ?_
  refine own_aloadN X6.here hx hby d5_14 rfl rfl ?_
  refine own_castY X6 hx hZ hown (own_w hw 37 rfl) e6 (Ins.self E_x2) hby d5_15 ?_
  intro T7 X7 e7
  refine own_astoreN X7.here hx hby d5_18 rfl (l' := #[.val (.ref x), .val (.ref x2), .val (.ref x2)]) rfl ?_
  refine own_getS X7 hx hZ hown (host := "") (Or.inl (own_w hw 39 rfl)) Via.refl e7 S_C hby d5_19 ?_
  intro T8 X8 e8
  refine own_ifNo X8.here hx hby d5_22 ((if0 _ _).trans (feq hz).1) ?_
  refine own_aloadN X8.here hx hby d5_25 rfl rfl ?_
  refine own_getF X8 hx hZ hown (host := "") (Or.inl (own_w hw 40 rfl)) Via.refl e8 Fc_x hby d5_26 ?_
  intro T9 X9 e9
  refine own_aloadN X9.here hx hby d5_29 rfl rfl ?_
  refine own_getF X9 hx hZ hown (host := "") (Or.inl (own_w hw 40 rfl)) Via.refl e9 Fc_x2 hby d5_30 ?_
  intro T10 X10 e10
  refine own_icmpNo X10.here hx hby d5_33 (teq (show (0 : Int32) = (0 : Int32) from (by decide))).2 ?_
  refine own_aloadN X10.here hx hby d5_36 rfl rfl ?_
  refine own_getF X10 hx hZ hown (host := "") (Or.inl (own_w hw 41 rfl)) Via.refl e10 Fv_x hby d5_37 ?_
  intro T11 X11 e11
  refine own_aloadN X11.here hx hby d5_40 rfl rfl ?_
  refine own_getF X11 hx hZ hown (host := "") (Or.inl (own_w hw 41 rfl)) Via.refl e11 Fv_x2 hby d5_41 ?_
  intro T12 X12 e12
  refine own_callS X12 hx hZ hown (own_w hw 42 rfl) (own_w hw 43 rfl) (own_w hw 44 rfl) (own_w hw 45 rfl) (by decide) (l1Eq_b2 l Z a0 hw [] t t2 kb kc h0 n0 Z0 V_t V_t2) 0 (Nat.le_of_eq rfl) (by decide) (by decide) (by rw [hml]; rfl) (argsL := [(.ref t), (.ref t2)]) (st := []) (lenOf pd_3 rfl) rfl rfl (by decide) (by decide) e12 hby d5_44 ?_
  intro T13 v13 L13 X13 hQ13
  obtain ⟨rfl, Nq13, eh13⟩ := hQ13
  have N13 := Fr.app N0 Nq13
  refine own_sh (T := T13) 47 #[.val (.ref x), .val (.ref x2), .val (.ref x2)] [(.int 0)] ?_
  refine own_ifYes X13.here hx hby (pc' := 54) d5_47 ((if0 _ _).trans (teq (show (0 : Int32) = (0 : Int32) from (by decide))).1) (by decide) (by decide) ?_
  refine own_iconst X13.here hx hby d5_54 (v := (0 : Int32)) (by decide) ?_
  obtain ⟨fs, hr, hrun, hended, hW, hsame⟩ := X13.leave (v := some (.int 0)) (fun h => by rw [Bd.returns] at h; cases h)
  refine own_ret (t := T13.setFrames fs) ?_ ⟨_, hrun, hended, _, _, rfl, ?_, ⟨_, rfl⟩, hW, hsame.mono (by decide) (by decide)⟩
  · exact retN X13 hx (t := .boolean) Bd.returns (by simp) (hb hby d5_55) hr
  · show Q_strEq_b2 Z _ _ _ _ _ _ _ h0 n0 _ T13.heap _
    rw [eh13]
    exact ⟨rfl, N13, rfl⟩
def Q_l1Eq_b3 (Z : State) (t : Nat) (t2 : Nat) (kb : ClassId) (kc : ClassId) (u : Int32) (h0 : Heap) (n0 : Nat) (vR : Option Value) (hR : Heap) (LR : List Loc) : Prop := vR = some (.int 0) ∧ Fr n0 LR ∧ hR = h0
set_option maxRecDepth 65536 in
set_option maxHeartbeats 40000000 in
theorem l1Eq_b3 (l : Launch) (Z : State) (a0 : Array Value) (hw : ∀ d ∈ tables_1, d.before a0 Z = true) (ws : List Jvm.Cond) (t : Nat) (t2 : Nat) (kb : ClassId) (kc : ClassId) (u : Int32) (h0 : Heap) (n0 : Nat) (Z0 : n0 ≤ h0.size) (V_t : Arv Z h0 t kb .byte (8 : Int32) [(.int 66), (.int 105), (.int 110), (.int 97), (.int 114), (.int 121), (.int 46), (.int u)] (.int 0)) (V_t2 : Arv Z h0 t2 kc .byte (6 : Int32) [(.int 66), (.int 105), (.int 110), (.int 97), (.int 114), (.int 121)] (.int 0)) :
    own_M l (⟨"java/lang/StringLatin1", "equals", "([B[B)Z"⟩ : MethodName) jdk_43_method_13_code 3 (some .boolean) ws ({ frames := 0, cells := 0, slots := 0, locals := 0 } : Room) Z #[(.ref t), (.ref t2)] h0 (Q_l1Eq_b3 Z t t2 kb kc u h0 n0) := by
  refine own_body (own := "java/lang/StringLatin1") rfl (plainFor_of_name pn_6) (fun m => ef_l1Eq_b1 m t t2) ?_
  intro p e s m below meth c s₁ Bd hml hZ hh hx hby hown X0 e0
  have N0 := Fr.nil n0
  have lt1 : h0.size > t := V_t.lt
  have lt3 : h0.size > t2 := V_t2.lt
  refine own_aloadN X0.here hx hby d6_0 rfl rfl ?_
  refine own_alen X0 hx hZ e0 V_t hby d6_1 ?_
  refine own_aloadN X0.here hx hby d6_2 rfl rfl ?_
  refine own_alen X0 hx hZ e0 V_t2 hby d6_3 ?_
  refine own_icmpYes X0.here hx hby (pc' := 34) d6_4 (feq (show ¬ ((8 : Int32) = (6 : Int32)) from (by decide))).2 (by decide) (by decide) ?_
  refine own_iconst X0.here hx hby d6_34 (v := (0 : Int32)) (by decide) ?_
  obtain ⟨fs, hr, hrun, hended, hW, hsame⟩ := X0.leave (v := some (.int 0)) (fun h => by rw [Bd.returns] at h; cases h)
  refine own_ret (t := s₁.setFrames fs) ?_ ⟨_, hrun, hended, _, _, rfl, ?_, ⟨_, rfl⟩, hW, hsame.mono (by decide) (by decide)⟩
  · exact retN X0 hx (t := .boolean) Bd.returns (by simp) (hb hby d6_35) hr
  · show Q_l1Eq_b3 Z _ _ _ _ _ h0 n0 _ s₁.heap _
    rw [e0]
    exact ⟨rfl, N0, rfl⟩
def Q_strEq_b3 (Z : State) (x : Nat) (x2 : Nat) (t : Nat) (t2 : Nat) (kb : ClassId) (kc : ClassId) (zc : Int32) (u : Int32) (h0 : Heap) (n0 : Nat) (vR : Option Value) (hR : Heap) (LR : List Loc) : Prop := vR = some (.int 0) ∧ Fr n0 LR ∧ hR = h0
set_option maxRecDepth 65536 in
set_option maxHeartbeats 40000000 in
theorem strEq_b3 (l : Launch) (Z : State) (a0 : Array Value) (hw : ∀ d ∈ tables_1, d.before a0 Z = true) (ws : List Jvm.Cond) (x : Nat) (x2 : Nat) (t : Nat) (t2 : Nat) (kb : ClassId) (kc : ClassId) (zc : Int32) (u : Int32) (h0 : Heap) (n0 : Nat) (Z0 : n0 ≤ h0.size) (E_x : Exa Z h0 x "java/lang/String") (E_x2 : Exa Z h0 x2 "java/lang/String") (hne : x ≠ x2) (Fc_x : Fld Z h0 x "java/lang/String" "coder" "B" (.int 0)) (Fv_x : Fld Z h0 x "java/lang/String" "value" "[B" (.ref t)) (V_t : Arv Z h0 t kb .byte (8 : Int32) [(.int 66), (.int 105), (.int 110), (.int 97), (.int 114), (.int 121), (.int 46), (.int u)] (.int 0)) (Fc_x2 : Fld Z h0 x2 "java/lang/String" "coder" "B" (.int 0)) (Fv_x2 : Fld Z h0 x2 "java/lang/String" "value" "[B" (.ref t2)) (V_t2 : Arv Z h0 t2 kc .byte (6 : Int32) [(.int 66), (.int 105), (.int 110), (.int 97), (.int 114), (.int 121)] (.int 0)) (S_C : Sta Z h0 "java/lang/String" "COMPACT_STRINGS" "Z" (.int zc)) (hz : ¬ (zc = (0 : Int32))) :
    own_M l (⟨"java/lang/String", "equals", "(Ljava/lang/Object;)Z"⟩ : MethodName) jdk_42_method_66_code 3 (some .boolean) ws ({ frames := 1, cells := 0, slots := 0, locals := 14 } : Room) Z #[(.ref x), (.ref x2)] h0 (Q_strEq_b3 Z x x2 t t2 kb kc zc u h0 n0) := by
  refine own_body (own := "java/lang/String") rfl (plainFor_of_name pn_5) (fun m => ef_strEqId m x x2) ?_
  intro p e s m below meth c s₁ Bd hml hZ hh hx hby hown X0 e0
  have N0 := Fr.nil n0
  have lt1 : h0.size > x := E_x.lt
  have lt3 : h0.size > x2 := E_x2.lt
  have lt4 : h0.size > t := V_t.lt
  have lt5 : h0.size > t2 := V_t2.lt
  refine own_aloadN X0.here hx hby d5_0 rfl rfl ?_
  refine own_aloadN X0.here hx hby d5_1 rfl rfl ?_
  refine own_acmp X0 hx (same := false) (pc' := 7) hby d5_2 rfl rfl (decide_eq_false fun q => absurd (Value.ref.inj q) hne) (by decide) (by decide) ?_
  refine own_aloadN X0.here hx hby d5_7 rfl rfl ?_
  refine own_instY X0 hx hZ hown (own_w hw 37 rfl) e0 (Ins.self E_x2) hby d5_8 ?_
  intro T6 X6 e6
  refine own_ifNo X6.here hx hby d5_11 ((if0 _ _).trans (feq (show ¬ ((1 : Int32) = (0 : Int32)) from (by decide))).1) ?_
  refine own_aloadN X6.here hx hby d5_14 rfl rfl ?_
  refine own_castY X6 hx hZ hown (own_w hw 37 rfl) e6 (Ins.self E_x2) hby d5_15 ?_
  intro T7 X7 e7
  refine own_astoreN X7.here hx hby d5_18 rfl (l' := #[.val (.ref x), .val (.ref x2), .val (.ref x2)]) rfl ?_
  refine own_getS X7 hx hZ hown (host := "") (Or.inl (own_w hw 39 rfl)) Via.refl e7 S_C hby d5_19 ?_
  intro T8 X8 e8
  refine own_ifNo X8.here hx hby d5_22 ((if0 _ _).trans (feq hz).1) ?_
  refine own_aloadN X8.here hx hby d5_25 rfl rfl ?_
  refine own_getF X8 hx hZ hown (host := "") (Or.inl (own_w hw 40 rfl)) Via.refl e8 Fc_x hby d5_26 ?_
  intro T9 X9 e9
  refine own_aloadN X9.here hx hby d5_29 rfl rfl ?_
  refine own_getF X9 hx hZ hown (host := "") (Or.inl (own_w hw 40 rfl)) Via.refl e9 Fc_x2 hby d5_30 ?_
  intro T10 X10 e10
  refine own_icmpNo X10.here hx hby d5_33 (teq (show (0 : Int32) = (0 : Int32) from (by decide))).2 ?_
  refine own_aloadN X10.here hx hby d5_36 rfl rfl ?_
  refine own_getF X10 hx hZ hown (host := "") (Or.inl (own_w hw 41 rfl)) Via.refl e10 Fv_x hby d5_37 ?_
  intro T11 X11 e11
  refine own_aloadN X11.here hx hby d5_40 rfl rfl ?_
  refine own_getF X11 hx hZ hown (host := "") (Or.inl (own_w hw 41 rfl)) Via.refl e11 Fv_x2 hby d5_41 ?_
  intro T12 X12 e12
  refine own_callS X12 hx hZ hown (own_w hw 42 rfl) (own_w hw 43 rfl) (own_w hw 44 rfl) (own_w hw 45 rfl) (by decide) (l1Eq_b3 l Z a0 hw [] t t2 kb kc u h0 n0 Z0 V_t V_t2) 0 (Nat.le_of_eq rfl) (by decide) (by decide) (by rw [hml]; rfl) (argsL := [(.ref t), (.ref t2)]) (st := []) (lenOf pd_3 rfl) rfl rfl (by decide) (by decide) e12 hby d5_44 ?_
  intro T13 v13 L13 X13 hQ13
  obtain ⟨rfl, Nq13, eh13⟩ := hQ13
  have N13 := Fr.app N0 Nq13
  refine own_sh (T := T13) 47 #[.val (.ref x), .val (.ref x2), .val (.ref x2)] [(.int 0)] ?_
  refine own_ifYes X13.here hx hby (pc' := 54) d5_47 ((if0 _ _).trans (teq (show (0 : Int32) = (0 : Int32) from (by decide))).1) (by decide) (by decide) ?_
  refine own_iconst X13.here hx hby d5_54 (v := (0 : Int32)) (by decide) ?_
  obtain ⟨fs, hr, hrun, hended, hW, hsame⟩ := X13.leave (v := some (.int 0)) (fun h => by rw [Bd.returns] at h; cases h)
  refine own_ret (t := T13.setFrames fs) ?_ ⟨_, hrun, hended, _, _, rfl, ?_, ⟨_, rfl⟩, hW, hsame.mono (by decide) (by decide)⟩
  · exact retN X13 hx (t := .boolean) Bd.returns (by simp) (hb hby d5_55) hr
  · show Q_strEq_b3 Z _ _ _ _ _ _ _ _ h0 n0 _ T13.heap _
    rw [eh13]
    exact ⟨rfl, N13, rfl⟩
def Q_l1Eq_n1 (Z : State) (t : Nat) (t2 : Nat) (kb : ClassId) (kc : ClassId) (u : Int32) (h0 : Heap) (n0 : Nat) (vR : Option Value) (hR : Heap) (LR : List Loc) : Prop := vR = some (.int 0) ∧ Fr n0 LR ∧ hR = h0
set_option maxRecDepth 65536 in
set_option maxHeartbeats 40000000 in
theorem l1Eq_n1 (l : Launch) (Z : State) (a0 : Array Value) (hw : ∀ d ∈ tables_1, d.before a0 Z = true) (ws : List Jvm.Cond) (t : Nat) (t2 : Nat) (kb : ClassId) (kc : ClassId) (u : Int32) (h0 : Heap) (n0 : Nat) (Z0 : n0 ≤ h0.size) (V_t : Arv Z h0 t kb .byte (7 : Int32) [(.int 66), (.int 105), (.int 110), (.int 97), (.int 114), (.int 121), (.int u)] (.int 0)) (V_t2 : Arv Z h0 t2 kc .byte (6 : Int32) [(.int 66), (.int 105), (.int 110), (.int 97), (.int 114), (.int 121)] (.int 0)) :
    own_M l (⟨"java/lang/StringLatin1", "equals", "([B[B)Z"⟩ : MethodName) jdk_43_method_13_code 3 (some .boolean) ws ({ frames := 0, cells := 0, slots := 0, locals := 0 } : Room) Z #[(.ref t), (.ref t2)] h0 (Q_l1Eq_n1 Z t t2 kb kc u h0 n0) := by
  refine own_body (own := "java/lang/StringLatin1") rfl (plainFor_of_name pn_6) (fun m => ef_l1Eq_b1 m t t2) ?_
  intro p e s m below meth c s₁ Bd hml hZ hh hx hby hown X0 e0
  have N0 := Fr.nil n0
  have lt1 : h0.size > t := V_t.lt
  have lt3 : h0.size > t2 := V_t2.lt
  refine own_aloadN X0.here hx hby d6_0 rfl rfl ?_
  refine own_alen X0 hx hZ e0 V_t hby d6_1 ?_
  refine own_aloadN X0.here hx hby d6_2 rfl rfl ?_
  refine own_alen X0 hx hZ e0 V_t2 hby d6_3 ?_
  refine own_icmpYes X0.here hx hby (pc' := 34) d6_4 (feq (show ¬ ((7 : Int32) = (6 : Int32)) from (by decide))).2 (by decide) (by decide) ?_
  refine own_iconst X0.here hx hby d6_34 (v := (0 : Int32)) (by decide) ?_
  obtain ⟨fs, hr, hrun, hended, hW, hsame⟩ := X0.leave (v := some (.int 0)) (fun h => by rw [Bd.returns] at h; cases h)
  refine own_ret (t := s₁.setFrames fs) ?_ ⟨_, hrun, hended, _, _, rfl, ?_, ⟨_, rfl⟩, hW, hsame.mono (by decide) (by decide)⟩
  · exact retN X0 hx (t := .boolean) Bd.returns (by simp) (hb hby d6_35) hr
  · show Q_l1Eq_n1 Z _ _ _ _ _ h0 n0 _ s₁.heap _
    rw [e0]
    exact ⟨rfl, N0, rfl⟩
def Q_strEq_n1 (Z : State) (x : Nat) (x2 : Nat) (t : Nat) (t2 : Nat) (kb : ClassId) (kc : ClassId) (zc : Int32) (u : Int32) (h0 : Heap) (n0 : Nat) (vR : Option Value) (hR : Heap) (LR : List Loc) : Prop := vR = some (.int 0) ∧ Fr n0 LR ∧ hR = h0
set_option maxRecDepth 65536 in
set_option maxHeartbeats 40000000 in
theorem strEq_n1 (l : Launch) (Z : State) (a0 : Array Value) (hw : ∀ d ∈ tables_1, d.before a0 Z = true) (ws : List Jvm.Cond) (x : Nat) (x2 : Nat) (t : Nat) (t2 : Nat) (kb : ClassId) (kc : ClassId) (zc : Int32) (u : Int32) (h0 : Heap) (n0 : Nat) (Z0 : n0 ≤ h0.size) (E_x : Exa Z h0 x "java/lang/String") (E_x2 : Exa Z h0 x2 "java/lang/String") (hne : x ≠ x2) (Fc_x : Fld Z h0 x "java/lang/String" "coder" "B" (.int 0)) (Fv_x : Fld Z h0 x "java/lang/String" "value" "[B" (.ref t)) (V_t : Arv Z h0 t kb .byte (7 : Int32) [(.int 66), (.int 105), (.int 110), (.int 97), (.int 114), (.int 121), (.int u)] (.int 0)) (Fc_x2 : Fld Z h0 x2 "java/lang/String" "coder" "B" (.int 0)) (Fv_x2 : Fld Z h0 x2 "java/lang/String" "value" "[B" (.ref t2)) (V_t2 : Arv Z h0 t2 kc .byte (6 : Int32) [(.int 66), (.int 105), (.int 110), (.int 97), (.int 114), (.int 121)] (.int 0)) (S_C : Sta Z h0 "java/lang/String" "COMPACT_STRINGS" "Z" (.int zc)) (hz : ¬ (zc = (0 : Int32))) :
    own_M l (⟨"java/lang/String", "equals", "(Ljava/lang/Object;)Z"⟩ : MethodName) jdk_42_method_66_code 3 (some .boolean) ws ({ frames := 1, cells := 0, slots := 0, locals := 14 } : Room) Z #[(.ref x), (.ref x2)] h0 (Q_strEq_n1 Z x x2 t t2 kb kc zc u h0 n0) := by
  refine own_body (own := "java/lang/String") rfl (plainFor_of_name pn_5) (fun m => ef_strEqId m x x2) ?_
  intro p e s m below meth c s₁ Bd hml hZ hh hx hby hown X0 e0
  have N0 := Fr.nil n0
  have lt1 : h0.size > x := E_x.lt
  have lt3 : h0.size > x2 := E_x2.lt
  have lt4 : h0.size > t := V_t.lt
  have lt5 : h0.size > t2 := V_t2.lt
  refine own_aloadN X0.here hx hby d5_0 rfl rfl ?_
  refine own_aloadN X0.here hx hby d5_1 rfl rfl ?_
  refine own_acmp X0 hx (same := false) (pc' := 7) hby d5_2 rfl rfl (decide_eq_false fun q => absurd (Value.ref.inj q) hne) (by decide) (by decide) ?_
  refine own_aloadN X0.here hx hby d5_7 rfl rfl ?_
  refine own_instY X0 hx hZ hown (own_w hw 37 rfl) e0 (Ins.self E_x2) hby d5_8 ?_
  intro T6 X6 e6
  refine own_ifNo X6.here hx hby d5_11 ((if0 _ _).trans (feq (show ¬ ((1 : Int32) = (0 : Int32)) from (by decide))).1) ?_
  refine own_aloadN X6.here hx hby d5_14 rfl rfl ?_
  refine own_castY X6 hx hZ hown (own_w hw 37 rfl) e6 (Ins.self E_x2) hby d5_15 ?_
  intro T7 X7 e7
  refine own_astoreN X7.here hx hby d5_18 rfl (l' := #[.val (.ref x), .val (.ref x2), .val (.ref x2)]) rfl ?_
  refine own_getS X7 hx hZ hown (host := "") (Or.inl (own_w hw 39 rfl)) Via.refl e7 S_C hby d5_19 ?_
  intro T8 X8 e8
  refine own_ifNo X8.here hx hby d5_22 ((if0 _ _).trans (feq hz).1) ?_
  refine own_aloadN X8.here hx hby d5_25 rfl rfl ?_
  refine own_getF X8 hx hZ hown (host := "") (Or.inl (own_w hw 40 rfl)) Via.refl e8 Fc_x hby d5_26 ?_
  intro T9 X9 e9
  refine own_aloadN X9.here hx hby d5_29 rfl rfl ?_
  refine own_getF X9 hx hZ hown (host := "") (Or.inl (own_w hw 40 rfl)) Via.refl e9 Fc_x2 hby d5_30 ?_
  intro T10 X10 e10
  refine own_icmpNo X10.here hx hby d5_33 (teq (show (0 : Int32) = (0 : Int32) from (by decide))).2 ?_
  refine own_aloadN X10.here hx hby d5_36 rfl rfl ?_
  refine own_getF X10 hx hZ hown (host := "") (Or.inl (own_w hw 41 rfl)) Via.refl e10 Fv_x hby d5_37 ?_
  intro T11 X11 e11
  refine own_aloadN X11.here hx hby d5_40 rfl rfl ?_
  refine own_getF X11 hx hZ hown (host := "") (Or.inl (own_w hw 41 rfl)) Via.refl e11 Fv_x2 hby d5_41 ?_
  intro T12 X12 e12
  refine own_callS X12 hx hZ hown (own_w hw 42 rfl) (own_w hw 43 rfl) (own_w hw 44 rfl) (own_w hw 45 rfl) (by decide) (l1Eq_n1 l Z a0 hw [] t t2 kb kc u h0 n0 Z0 V_t V_t2) 0 (Nat.le_of_eq rfl) (by decide) (by decide) (by rw [hml]; rfl) (argsL := [(.ref t), (.ref t2)]) (st := []) (lenOf pd_3 rfl) rfl rfl (by decide) (by decide) e12 hby d5_44 ?_
  intro T13 v13 L13 X13 hQ13
  obtain ⟨rfl, Nq13, eh13⟩ := hQ13
  have N13 := Fr.app N0 Nq13
  refine own_sh (T := T13) 47 #[.val (.ref x), .val (.ref x2), .val (.ref x2)] [(.int 0)] ?_
  refine own_ifYes X13.here hx hby (pc' := 54) d5_47 ((if0 _ _).trans (teq (show (0 : Int32) = (0 : Int32) from (by decide))).1) (by decide) (by decide) ?_
  refine own_iconst X13.here hx hby d5_54 (v := (0 : Int32)) (by decide) ?_
  obtain ⟨fs, hr, hrun, hended, hW, hsame⟩ := X13.leave (v := some (.int 0)) (fun h => by rw [Bd.returns] at h; cases h)
  refine own_ret (t := T13.setFrames fs) ?_ ⟨_, hrun, hended, _, _, rfl, ?_, ⟨_, rfl⟩, hW, hsame.mono (by decide) (by decide)⟩
  · exact retN X13 hx (t := .boolean) Bd.returns (by simp) (hb hby d5_55) hr
  · show Q_strEq_n1 Z _ _ _ _ _ _ _ _ h0 n0 _ T13.heap _
    rw [eh13]
    exact ⟨rfl, N13, rfl⟩
theorem d6_24 : decode jdk_43_method_13_code 24 = .ok (.iconst 0, 1) := by decide +kernel
theorem d6_25 : decode jdk_43_method_13_code 25 = .ok (.ireturn, 1) := by decide +kernel
def Q_l1Eq_n2 (Z : State) (t : Nat) (t2 : Nat) (kb : ClassId) (kc : ClassId) (h0 : Heap) (n0 : Nat) (vR : Option Value) (hR : Heap) (LR : List Loc) : Prop := vR = some (.int 0) ∧ Fr n0 LR ∧ hR = h0
set_option maxRecDepth 65536 in
set_option maxHeartbeats 40000000 in
theorem l1Eq_n2 (l : Launch) (Z : State) (a0 : Array Value) (hw : ∀ d ∈ tables_1, d.before a0 Z = true) (ws : List Jvm.Cond) (t : Nat) (t2 : Nat) (kb : ClassId) (kc : ClassId) (h0 : Heap) (n0 : Nat) (Z0 : n0 ≤ h0.size) (V_t : Arv Z h0 t kb .byte (6 : Int32) [(.int 83), (.int 116), (.int 114), (.int 105), (.int 110), (.int 103)] (.int 0)) (V_t2 : Arv Z h0 t2 kc .byte (6 : Int32) [(.int 66), (.int 105), (.int 110), (.int 97), (.int 114), (.int 121)] (.int 0)) :
    own_M l (⟨"java/lang/StringLatin1", "equals", "([B[B)Z"⟩ : MethodName) jdk_43_method_13_code 3 (some .boolean) ws ({ frames := 0, cells := 0, slots := 0, locals := 0 } : Room) Z #[(.ref t), (.ref t2)] h0 (Q_l1Eq_n2 Z t t2 kb kc h0 n0) := by
  refine own_body (own := "java/lang/StringLatin1") rfl (plainFor_of_name pn_6) (fun m => ef_l1Eq_b1 m t t2) ?_
  intro p e s m below meth c s₁ Bd hml hZ hh hx hby hown X0 e0
  have N0 := Fr.nil n0
  have lt1 : h0.size > t := V_t.lt
  have lt3 : h0.size > t2 := V_t2.lt
  refine own_aloadN X0.here hx hby d6_0 rfl rfl ?_
  refine own_alen X0 hx hZ e0 V_t hby d6_1 ?_
  refine own_aloadN X0.here hx hby d6_2 rfl rfl ?_
  refine own_alen X0 hx hZ e0 V_t2 hby d6_3 ?_
  refine own_icmpNo X0.here hx hby d6_4 (teq (show (6 : Int32) = (6 : Int32) from (by decide))).2 ?_
  refine own_iconst X0.here hx hby d6_7 (v := (0 : Int32)) (by decide) ?_
  refine own_istoreN X0.here hx hby d6_8 (l' := #[.val (.ref t), .val (.ref t2), .val (.int 0)]) rfl ?_
  refine own_iloadN X0.here hx hby d6_9 rfl ?_
  refine own_aloadN X0.here hx hby d6_10 rfl rfl ?_
  refine own_alen X0 hx hZ e0 V_t hby d6_11 ?_
  refine own_icmpNo X0.here hx hby d6_12 (tlt (show (0 : Int32) < (6 : Int32) from (by decide))).2.1 ?_
  refine own_aloadN X0.here hx hby d6_15 rfl rfl ?_
  refine own_iloadN X0.here hx hby d6_16 rfl ?_
  refine own_baload X0 hx hZ e0 V_t ⟨by decide, by decide⟩ (v := (.int 83)) rfl hby d6_17 ?_
  refine own_aloadN X0.here hx hby d6_18 rfl rfl ?_
  refine own_iloadN X0.here hx hby d6_19 rfl ?_
  refine own_baload X0 hx hZ e0 V_t2 ⟨by decide, by decide⟩ (v := (.int 66)) rfl hby d6_20 ?_
  refine own_icmpNo X0.here hx hby d6_21 (feq (show ¬ ((83 : Int32) = (66 : Int32)) from (by decide))).1 ?_
  refine own_iconst X0.here hx hby d6_24 (v := (0 : Int32)) (by decide) ?_
  obtain ⟨fs, hr, hrun, hended, hW, hsame⟩ := X0.leave (v := some (.int 0)) (fun h => by rw [Bd.returns] at h; cases h)
  refine own_ret (t := s₁.setFrames fs) ?_ ⟨_, hrun, hended, _, _, rfl, ?_, ⟨_, rfl⟩, hW, hsame.mono (by decide) (by decide)⟩
  · exact retN X0 hx (t := .boolean) Bd.returns (by simp) (hb hby d6_25) hr
  · show Q_l1Eq_n2 Z _ _ _ _ h0 n0 _ s₁.heap _
    rw [e0]
    exact ⟨rfl, N0, rfl⟩
def Q_strEq_n2 (Z : State) (x : Nat) (x2 : Nat) (t : Nat) (t2 : Nat) (kb : ClassId) (kc : ClassId) (zc : Int32) (h0 : Heap) (n0 : Nat) (vR : Option Value) (hR : Heap) (LR : List Loc) : Prop := vR = some (.int 0) ∧ Fr n0 LR ∧ hR = h0
set_option maxRecDepth 65536 in
set_option maxHeartbeats 40000000 in
theorem strEq_n2 (l : Launch) (Z : State) (a0 : Array Value) (hw : ∀ d ∈ tables_1, d.before a0 Z = true) (ws : List Jvm.Cond) (x : Nat) (x2 : Nat) (t : Nat) (t2 : Nat) (kb : ClassId) (kc : ClassId) (zc : Int32) (h0 : Heap) (n0 : Nat) (Z0 : n0 ≤ h0.size) (E_x : Exa Z h0 x "java/lang/String") (E_x2 : Exa Z h0 x2 "java/lang/String") (hne : x ≠ x2) (Fc_x : Fld Z h0 x "java/lang/String" "coder" "B" (.int 0)) (Fv_x : Fld Z h0 x "java/lang/String" "value" "[B" (.ref t)) (V_t : Arv Z h0 t kb .byte (6 : Int32) [(.int 83), (.int 116), (.int 114), (.int 105), (.int 110), (.int 103)] (.int 0)) (Fc_x2 : Fld Z h0 x2 "java/lang/String" "coder" "B" (.int 0)) (Fv_x2 : Fld Z h0 x2 "java/lang/String" "value" "[B" (.ref t2)) (V_t2 : Arv Z h0 t2 kc .byte (6 : Int32) [(.int 66), (.int 105), (.int 110), (.int 97), (.int 114), (.int 121)] (.int 0)) (S_C : Sta Z h0 "java/lang/String" "COMPACT_STRINGS" "Z" (.int zc)) (hz : ¬ (zc = (0 : Int32))) :
    own_M l (⟨"java/lang/String", "equals", "(Ljava/lang/Object;)Z"⟩ : MethodName) jdk_42_method_66_code 3 (some .boolean) ws ({ frames := 1, cells := 0, slots := 0, locals := 14 } : Room) Z #[(.ref x), (.ref x2)] h0 (Q_strEq_n2 Z x x2 t t2 kb kc zc h0 n0) := by
  refine own_body (own := "java/lang/String") rfl (plainFor_of_name pn_5) (fun m => ef_strEqId m x x2) ?_
  intro p e s m below meth c s₁ Bd hml hZ hh hx hby hown X0 e0
  have N0 := Fr.nil n0
  have lt1 : h0.size > x := E_x.lt
  have lt3 : h0.size > x2 := E_x2.lt
  have lt4 : h0.size > t := V_t.lt
  have lt5 : h0.size > t2 := V_t2.lt
  refine own_aloadN X0.here hx hby d5_0 rfl rfl ?_
  refine own_aloadN X0.here hx hby d5_1 rfl rfl ?_
  refine own_acmp X0 hx (same := false) (pc' := 7) hby d5_2 rfl rfl (decide_eq_false fun q => absurd (Value.ref.inj q) hne) (by decide) (by decide) ?_
  refine own_aloadN X0.here hx hby d5_7 rfl rfl ?_
  refine own_instY X0 hx hZ hown (own_w hw 37 rfl) e0 (Ins.self E_x2) hby d5_8 ?_
  intro T6 X6 e6
  refine own_ifNo X6.here hx hby d5_11 ((if0 _ _).trans (feq (show ¬ ((1 : Int32) = (0 : Int32)) from (by decide))).1) ?_
  refine own_aloadN X6.here hx hby d5_14 rfl rfl ?_
  refine own_castY X6 hx hZ hown (own_w hw 37 rfl) e6 (Ins.self E_x2) hby d5_15 ?_
  intro T7 X7 e7
  refine own_astoreN X7.here hx hby d5_18 rfl (l' := #[.val (.ref x), .val (.ref x2), .val (.ref x2)]) rfl ?_
  refine own_getS X7 hx hZ hown (host := "") (Or.inl (own_w hw 39 rfl)) Via.refl e7 S_C hby d5_19 ?_
  intro T8 X8 e8
  refine own_ifNo X8.here hx hby d5_22 ((if0 _ _).trans (feq hz).1) ?_
  refine own_aloadN X8.here hx hby d5_25 rfl rfl ?_
  refine own_getF X8 hx hZ hown (host := "") (Or.inl (own_w hw 40 rfl)) Via.refl e8 Fc_x hby d5_26 ?_
  intro T9 X9 e9
  refine own_aloadN X9.here hx hby d5_29 rfl rfl ?_
  refine own_getF X9 hx hZ hown (host := "") (Or.inl (own_w hw 40 rfl)) Via.refl e9 Fc_x2 hby d5_30 ?_
  intro T10 X10 e10
  refine own_icmpNo X10.here hx hby d5_33 (teq (show (0 : Int32) = (0 : Int32) from (by decide))).2 ?_
  refine own_aloadN X10.here hx hby d5_36 rfl rfl ?_
  refine own_getF X10 hx hZ hown (host := "") (Or.inl (own_w hw 41 rfl)) Via.refl e10 Fv_x hby d5_37 ?_
  intro T11 X11 e11
  refine own_aloadN X11.here hx hby d5_40 rfl rfl ?_
  refine own_getF X11 hx hZ hown (host := "") (Or.inl (own_w hw 41 rfl)) Via.refl e11 Fv_x2 hby d5_41 ?_
  intro T12 X12 e12
  refine own_callS X12 hx hZ hown (own_w hw 42 rfl) (own_w hw 43 rfl) (own_w hw 44 rfl) (own_w hw 45 rfl) (by decide) (l1Eq_n2 l Z a0 hw [] t t2 kb kc h0 n0 Z0 V_t V_t2) 0 (Nat.le_of_eq rfl) (by decide) (by decide) (by rw [hml]; rfl) (argsL := [(.ref t), (.ref t2)]) (st := []) (lenOf pd_3 rfl) rfl rfl (by decide) (by decide) e12 hby d5_44 ?_
  intro T13 v13 L13 X13 hQ13
  obtain ⟨rfl, Nq13, eh13⟩ := hQ13
  have N13 := Fr.app N0 Nq13
  refine own_sh (T := T13) 47 #[.val (.ref x), .val (.ref x2), .val (.ref x2)] [(.int 0)] ?_
  refine own_ifYes X13.here hx hby (pc' := 54) d5_47 ((if0 _ _).trans (teq (show (0 : Int32) = (0 : Int32) from (by decide))).1) (by decide) (by decide) ?_
  refine own_iconst X13.here hx hby d5_54 (v := (0 : Int32)) (by decide) ?_
  obtain ⟨fs, hr, hrun, hended, hW, hsame⟩ := X13.leave (v := some (.int 0)) (fun h => by rw [Bd.returns] at h; cases h)
  refine own_ret (t := T13.setFrames fs) ?_ ⟨_, hrun, hended, _, _, rfl, ?_, ⟨_, rfl⟩, hW, hsame.mono (by decide) (by decide)⟩
  · exact retN X13 hx (t := .boolean) Bd.returns (by simp) (hb hby d5_55) hr
  · show Q_strEq_n2 Z _ _ _ _ _ _ _ h0 n0 _ T13.heap _
    rw [eh13]
    exact ⟨rfl, N13, rfl⟩
def Q_l1Eq_n3 (Z : State) (t : Nat) (t2 : Nat) (kb : ClassId) (kc : ClassId) (h0 : Heap) (n0 : Nat) (vR : Option Value) (hR : Heap) (LR : List Loc) : Prop := vR = some (.int 0) ∧ Fr n0 LR ∧ hR = h0
set_option maxRecDepth 65536 in
set_option maxHeartbeats 40000000 in
theorem l1Eq_n3 (l : Launch) (Z : State) (a0 : Array Value) (hw : ∀ d ∈ tables_1, d.before a0 Z = true) (ws : List Jvm.Cond) (t : Nat) (t2 : Nat) (kb : ClassId) (kc : ClassId) (h0 : Heap) (n0 : Nat) (Z0 : n0 ≤ h0.size) (V_t : Arv Z h0 t kb .byte (6 : Int32) [(.int 78), (.int 117), (.int 109), (.int 98), (.int 101), (.int 114)] (.int 0)) (V_t2 : Arv Z h0 t2 kc .byte (6 : Int32) [(.int 66), (.int 105), (.int 110), (.int 97), (.int 114), (.int 121)] (.int 0)) :
    own_M l (⟨"java/lang/StringLatin1", "equals", "([B[B)Z"⟩ : MethodName) jdk_43_method_13_code 3 (some .boolean) ws ({ frames := 0, cells := 0, slots := 0, locals := 0 } : Room) Z #[(.ref t), (.ref t2)] h0 (Q_l1Eq_n3 Z t t2 kb kc h0 n0) := by
  refine own_body (own := "java/lang/StringLatin1") rfl (plainFor_of_name pn_6) (fun m => ef_l1Eq_b1 m t t2) ?_
  intro p e s m below meth c s₁ Bd hml hZ hh hx hby hown X0 e0
  have N0 := Fr.nil n0
  have lt1 : h0.size > t := V_t.lt
  have lt3 : h0.size > t2 := V_t2.lt
  refine own_aloadN X0.here hx hby d6_0 rfl rfl ?_
  refine own_alen X0 hx hZ e0 V_t hby d6_1 ?_
  refine own_aloadN X0.here hx hby d6_2 rfl rfl ?_
  refine own_alen X0 hx hZ e0 V_t2 hby d6_3 ?_
  refine own_icmpNo X0.here hx hby d6_4 (teq (show (6 : Int32) = (6 : Int32) from (by decide))).2 ?_
  refine own_iconst X0.here hx hby d6_7 (v := (0 : Int32)) (by decide) ?_
  refine own_istoreN X0.here hx hby d6_8 (l' := #[.val (.ref t), .val (.ref t2), .val (.int 0)]) rfl ?_
  refine own_iloadN X0.here hx hby d6_9 rfl ?_
  refine own_aloadN X0.here hx hby d6_10 rfl rfl ?_
  refine own_alen X0 hx hZ e0 V_t hby d6_11 ?_
  refine own_icmpNo X0.here hx hby d6_12 (tlt (show (0 : Int32) < (6 : Int32) from (by decide))).2.1 ?_
  refine own_aloadN X0.here hx hby d6_15 rfl rfl ?_
  refine own_iloadN X0.here hx hby d6_16 rfl ?_
  refine own_baload X0 hx hZ e0 V_t ⟨by decide, by decide⟩ (v := (.int 78)) rfl hby d6_17 ?_
  refine own_aloadN X0.here hx hby d6_18 rfl rfl ?_
  refine own_iloadN X0.here hx hby d6_19 rfl ?_
  refine own_baload X0 hx hZ e0 V_t2 ⟨by decide, by decide⟩ (v := (.int 66)) rfl hby d6_20 ?_
  refine own_icmpNo X0.here hx hby d6_21 (feq (show ¬ ((78 : Int32) = (66 : Int32)) from (by decide))).1 ?_
  refine own_iconst X0.here hx hby d6_24 (v := (0 : Int32)) (by decide) ?_
  obtain ⟨fs, hr, hrun, hended, hW, hsame⟩ := X0.leave (v := some (.int 0)) (fun h => by rw [Bd.returns] at h; cases h)
  refine own_ret (t := s₁.setFrames fs) ?_ ⟨_, hrun, hended, _, _, rfl, ?_, ⟨_, rfl⟩, hW, hsame.mono (by decide) (by decide)⟩
  · exact retN X0 hx (t := .boolean) Bd.returns (by simp) (hb hby d6_25) hr
  · show Q_l1Eq_n3 Z _ _ _ _ h0 n0 _ s₁.heap _
    rw [e0]
    exact ⟨rfl, N0, rfl⟩
def Q_strEq_n3 (Z : State) (x : Nat) (x2 : Nat) (t : Nat) (t2 : Nat) (kb : ClassId) (kc : ClassId) (zc : Int32) (h0 : Heap) (n0 : Nat) (vR : Option Value) (hR : Heap) (LR : List Loc) : Prop := vR = some (.int 0) ∧ Fr n0 LR ∧ hR = h0
set_option maxRecDepth 65536 in
set_option maxHeartbeats 40000000 in
theorem strEq_n3 (l : Launch) (Z : State) (a0 : Array Value) (hw : ∀ d ∈ tables_1, d.before a0 Z = true) (ws : List Jvm.Cond) (x : Nat) (x2 : Nat) (t : Nat) (t2 : Nat) (kb : ClassId) (kc : ClassId) (zc : Int32) (h0 : Heap) (n0 : Nat) (Z0 : n0 ≤ h0.size) (E_x : Exa Z h0 x "java/lang/String") (E_x2 : Exa Z h0 x2 "java/lang/String") (hne : x ≠ x2) (Fc_x : Fld Z h0 x "java/lang/String" "coder" "B" (.int 0)) (Fv_x : Fld Z h0 x "java/lang/String" "value" "[B" (.ref t)) (V_t : Arv Z h0 t kb .byte (6 : Int32) [(.int 78), (.int 117), (.int 109), (.int 98), (.int 101), (.int 114)] (.int 0)) (Fc_x2 : Fld Z h0 x2 "java/lang/String" "coder" "B" (.int 0)) (Fv_x2 : Fld Z h0 x2 "java/lang/String" "value" "[B" (.ref t2)) (V_t2 : Arv Z h0 t2 kc .byte (6 : Int32) [(.int 66), (.int 105), (.int 110), (.int 97), (.int 114), (.int 121)] (.int 0)) (S_C : Sta Z h0 "java/lang/String" "COMPACT_STRINGS" "Z" (.int zc)) (hz : ¬ (zc = (0 : Int32))) :
    own_M l (⟨"java/lang/String", "equals", "(Ljava/lang/Object;)Z"⟩ : MethodName) jdk_42_method_66_code 3 (some .boolean) ws ({ frames := 1, cells := 0, slots := 0, locals := 14 } : Room) Z #[(.ref x), (.ref x2)] h0 (Q_strEq_n3 Z x x2 t t2 kb kc zc h0 n0) := by
  refine own_body (own := "java/lang/String") rfl (plainFor_of_name pn_5) (fun m => ef_strEqId m x x2) ?_
  intro p e s m below meth c s₁ Bd hml hZ hh hx hby hown X0 e0
  have N0 := Fr.nil n0
  have lt1 : h0.size > x := E_x.lt
  have lt3 : h0.size > x2 := E_x2.lt
  have lt4 : h0.size > t := V_t.lt
  have lt5 : h0.size > t2 := V_t2.lt
  refine own_aloadN X0.here hx hby d5_0 rfl rfl ?_
  refine own_aloadN X0.here hx hby d5_1 rfl rfl ?_
  refine own_acmp X0 hx (same := false) (pc' := 7) hby d5_2 rfl rfl (decide_eq_false fun q => absurd (Value.ref.inj q) hne) (by decide) (by decide) ?_
  refine own_aloadN X0.here hx hby d5_7 rfl rfl ?_
  refine own_instY X0 hx hZ hown (own_w hw 37 rfl) e0 (Ins.self E_x2) hby d5_8 ?_
  intro T6 X6 e6
  refine own_ifNo X6.here hx hby d5_11 ((if0 _ _).trans (feq (show ¬ ((1 : Int32) = (0 : Int32)) from (by decide))).1) ?_
  refine own_aloadN X6.here hx hby d5_14 rfl rfl ?_
  refine own_castY X6 hx hZ hown (own_w hw 37 rfl) e6 (Ins.self E_x2) hby d5_15 ?_
  intro T7 X7 e7
  refine own_astoreN X7.here hx hby d5_18 rfl (l' := #[.val (.ref x), .val (.ref x2), .val (.ref x2)]) rfl ?_
  refine own_getS X7 hx hZ hown (host := "") (Or.inl (own_w hw 39 rfl)) Via.refl e7 S_C hby d5_19 ?_
  intro T8 X8 e8
  refine own_ifNo X8.here hx hby d5_22 ((if0 _ _).trans (feq hz).1) ?_
  refine own_aloadN X8.here hx hby d5_25 rfl rfl ?_
  refine own_getF X8 hx hZ hown (host := "") (Or.inl (own_w hw 40 rfl)) Via.refl e8 Fc_x hby d5_26 ?_
  intro T9 X9 e9
  refine own_aloadN X9.here hx hby d5_29 rfl rfl ?_
  refine own_getF X9 hx hZ hown (host := "") (Or.inl (own_w hw 40 rfl)) Via.refl e9 Fc_x2 hby d5_30 ?_
  intro T10 X10 e10
  refine own_icmpNo X10.here hx hby d5_33 (teq (show (0 : Int32) = (0 : Int32) from (by decide))).2 ?_
  refine own_aloadN X10.here hx hby d5_36 rfl rfl ?_
  refine own_getF X10 hx hZ hown (host := "") (Or.inl (own_w hw 41 rfl)) Via.refl e10 Fv_x hby d5_37 ?_
  intro T11 X11 e11
  refine own_aloadN X11.here hx hby d5_40 rfl rfl ?_
  refine own_getF X11 hx hZ hown (host := "") (Or.inl (own_w hw 41 rfl)) Via.refl e11 Fv_x2 hby d5_41 ?_
  intro T12 X12 e12
  refine own_callS X12 hx hZ hown (own_w hw 42 rfl) (own_w hw 43 rfl) (own_w hw 44 rfl) (own_w hw 45 rfl) (by decide) (l1Eq_n3 l Z a0 hw [] t t2 kb kc h0 n0 Z0 V_t V_t2) 0 (Nat.le_of_eq rfl) (by decide) (by decide) (by rw [hml]; rfl) (argsL := [(.ref t), (.ref t2)]) (st := []) (lenOf pd_3 rfl) rfl rfl (by decide) (by decide) e12 hby d5_44 ?_
  intro T13 v13 L13 X13 hQ13
  obtain ⟨rfl, Nq13, eh13⟩ := hQ13
  have N13 := Fr.app N0 Nq13
  refine own_sh (T := T13) 47 #[.val (.ref x), .val (.ref x2), .val (.ref x2)] [(.int 0)] ?_
  refine own_ifYes X13.here hx hby (pc' := 54) d5_47 ((if0 _ _).trans (teq (show (0 : Int32) = (0 : Int32) from (by decide))).1) (by decide) (by decide) ?_
  refine own_iconst X13.here hx hby d5_54 (v := (0 : Int32)) (by decide) ?_
  obtain ⟨fs, hr, hrun, hended, hW, hsame⟩ := X13.leave (v := some (.int 0)) (fun h => by rw [Bd.returns] at h; cases h)
  refine own_ret (t := T13.setFrames fs) ?_ ⟨_, hrun, hended, _, _, rfl, ?_, ⟨_, rfl⟩, hW, hsame.mono (by decide) (by decide)⟩
  · exact retN X13 hx (t := .boolean) Bd.returns (by simp) (hb hby d5_55) hr
  · show Q_strEq_n3 Z _ _ _ _ _ _ _ h0 n0 _ T13.heap _
    rw [eh13]
    exact ⟨rfl, N13, rfl⟩
def Q_l1Eq_n4 (Z : State) (t : Nat) (t2 : Nat) (kb : ClassId) (kc : ClassId) (u : Int32) (h0 : Heap) (n0 : Nat) (vR : Option Value) (hR : Heap) (LR : List Loc) : Prop := vR = some (.int 0) ∧ Fr n0 LR ∧ hR = h0
set_option maxRecDepth 65536 in
set_option maxHeartbeats 40000000 in
theorem l1Eq_n4 (l : Launch) (Z : State) (a0 : Array Value) (hw : ∀ d ∈ tables_1, d.before a0 Z = true) (ws : List Jvm.Cond) (t : Nat) (t2 : Nat) (kb : ClassId) (kc : ClassId) (u : Int32) (h0 : Heap) (n0 : Nat) (Z0 : n0 ≤ h0.size) (V_t : Arv Z h0 t kb .byte (6 : Int32) [(.int 66), (.int 105), (.int 110), (.int 97), (.int 114), (.int u)] (.int 0)) (V_t2 : Arv Z h0 t2 kc .byte (6 : Int32) [(.int 66), (.int 105), (.int 110), (.int 97), (.int 114), (.int 121)] (.int 0)) (hu : ¬ (u = (121 : Int32))) :
    own_M l (⟨"java/lang/StringLatin1", "equals", "([B[B)Z"⟩ : MethodName) jdk_43_method_13_code 3 (some .boolean) ws ({ frames := 0, cells := 0, slots := 0, locals := 0 } : Room) Z #[(.ref t), (.ref t2)] h0 (Q_l1Eq_n4 Z t t2 kb kc u h0 n0) := by
  refine own_body (own := "java/lang/StringLatin1") rfl (plainFor_of_name pn_6) (fun m => ef_l1Eq_b1 m t t2) ?_
  intro p e s m below meth c s₁ Bd hml hZ hh hx hby hown X0 e0
  have N0 := Fr.nil n0
  have lt1 : h0.size > t := V_t.lt
  have lt3 : h0.size > t2 := V_t2.lt
  refine own_aloadN X0.here hx hby d6_0 rfl rfl ?_
  refine own_alen X0 hx hZ e0 V_t hby d6_1 ?_
  refine own_aloadN X0.here hx hby d6_2 rfl rfl ?_
  refine own_alen X0 hx hZ e0 V_t2 hby d6_3 ?_
  refine own_icmpNo X0.here hx hby d6_4 (teq (show (6 : Int32) = (6 : Int32) from (by decide))).2 ?_
  refine own_iconst X0.here hx hby d6_7 (v := (0 : Int32)) (by decide) ?_
  refine own_istoreN X0.here hx hby d6_8 (l' := #[.val (.ref t), .val (.ref t2), .val (.int 0)]) rfl ?_
  refine own_iloadN X0.here hx hby d6_9 rfl ?_
  refine own_aloadN X0.here hx hby d6_10 rfl rfl ?_
  refine own_alen X0 hx hZ e0 V_t hby d6_11 ?_
  refine own_icmpNo X0.here hx hby d6_12 (tlt (show (0 : Int32) < (6 : Int32) from (by decide))).2.1 ?_
  refine own_aloadN X0.here hx hby d6_15 rfl rfl ?_
  refine own_iloadN X0.here hx hby d6_16 rfl ?_
  refine own_baload X0 hx hZ e0 V_t ⟨by decide, by decide⟩ (v := (.int 66)) rfl hby d6_17 ?_
  refine own_aloadN X0.here hx hby d6_18 rfl rfl ?_
  refine own_iloadN X0.here hx hby d6_19 rfl ?_
  refine own_baload X0 hx hZ e0 V_t2 ⟨by decide, by decide⟩ (v := (.int 66)) rfl hby d6_20 ?_
  refine own_icmpYes X0.here hx hby (pc' := 26) d6_21 (teq (show (66 : Int32) = (66 : Int32) from (by decide))).1 (by decide) (by decide) ?_
  refine own_iinc X0.here hx hby d6_26 rfl (v := (1 : Int32)) (by decide) (l' := #[.val (.ref t), .val (.ref t2), .val (.int 1)]) rfl ?_
  refine own_goto X0.here hx hby (pc' := 9) d6_29 (by decide) (by decide) ?_
  refine own_iloadN X0.here hx hby d6_9 rfl ?_
  refine own_aloadN X0.here hx hby d6_10 rfl rfl ?_
  refine own_alen X0 hx hZ e0 V_t hby d6_11 ?_
  refine own_icmpNo X0.here hx hby d6_12 (tlt (show (1 : Int32) < (6 : Int32) from (by decide))).2.1 ?_
  refine own_aloadN X0.here hx hby d6_15 rfl rfl ?_
  refine own_iloadN X0.here hx hby d6_16 rfl ?_
  refine own_baload X0 hx hZ e0 V_t ⟨by decide, by decide⟩ (v := (.int 105)) rfl hby d6_17 ?_
  refine own_aloadN X0.here hx hby d6_18 rfl rfl ?_
  refine own_iloadN X0.here hx hby d6_19 rfl ?_
  refine own_baload X0 hx hZ e0 V_t2 ⟨by decide, by decide⟩ (v := (.int 105)) rfl hby d6_20 ?_
  refine own_icmpYes X0.here hx hby (pc' := 26) d6_21 (teq (show (105 : Int32) = (105 : Int32) from (by decide))).1 (by decide) (by decide) ?_
  refine own_iinc X0.here hx hby d6_26 rfl (v := (2 : Int32)) (by decide) (l' := #[.val (.ref t), .val (.ref t2), .val (.int 2)]) rfl ?_
  refine own_goto X0.here hx hby (pc' := 9) d6_29 (by decide) (by decide) ?_
  refine own_iloadN X0.here hx hby d6_9 rfl ?_
  refine own_aloadN X0.here hx hby d6_10 rfl rfl ?_
  refine own_alen X0 hx hZ e0 V_t hby d6_11 ?_
  refine own_icmpNo X0.here hx hby d6_12 (tlt (show (2 : Int32) < (6 : Int32) from (by decide))).2.1 ?_
  refine own_aloadN X0.here hx hby d6_15 rfl rfl ?_
  refine own_iloadN X0.here hx hby d6_16 rfl ?_
  refine own_baload X0 hx hZ e0 V_t ⟨by decide, by decide⟩ (v := (.int 110)) rfl hby d6_17 ?_
  refine own_aloadN X0.here hx hby d6_18 rfl rfl ?_
  refine own_iloadN X0.here hx hby d6_19 rfl ?_
  refine own_baload X0 hx hZ e0 V_t2 ⟨by decide, by decide⟩ (v := (.int 110)) rfl hby d6_20 ?_
  refine own_icmpYes X0.here hx hby (pc' := 26) d6_21 (teq (show (110 : Int32) = (110 : Int32) from (by decide))).1 (by decide) (by decide) ?_
  refine own_iinc X0.here hx hby d6_26 rfl (v := (3 : Int32)) (by decide) (l' := #[.val (.ref t), .val (.ref t2), .val (.int 3)]) rfl ?_
  refine own_goto X0.here hx hby (pc' := 9) d6_29 (by decide) (by decide) ?_
  refine own_iloadN X0.here hx hby d6_9 rfl ?_
  refine own_aloadN X0.here hx hby d6_10 rfl rfl ?_
  refine own_alen X0 hx hZ e0 V_t hby d6_11 ?_
  refine own_icmpNo X0.here hx hby d6_12 (tlt (show (3 : Int32) < (6 : Int32) from (by decide))).2.1 ?_
  refine own_aloadN X0.here hx hby d6_15 rfl rfl ?_
  refine own_iloadN X0.here hx hby d6_16 rfl ?_
  refine own_baload X0 hx hZ e0 V_t ⟨by decide, by decide⟩ (v := (.int 97)) rfl hby d6_17 ?_
  refine own_aloadN X0.here hx hby d6_18 rfl rfl ?_
  refine own_iloadN X0.here hx hby d6_19 rfl ?_
  refine own_baload X0 hx hZ e0 V_t2 ⟨by decide, by decide⟩ (v := (.int 97)) rfl hby d6_20 ?_
  refine own_icmpYes X0.here hx hby (pc' := 26) d6_21 (teq (show (97 : Int32) = (97 : Int32) from (by decide))).1 (by decide) (by decide) ?_
  refine own_iinc X0.here hx hby d6_26 rfl (v := (4 : Int32)) (by decide) (l' := #[.val (.ref t), .val (.ref t2), .val (.int 4)]) rfl ?_
  refine own_goto X0.here hx hby (pc' := 9) d6_29 (by decide) (by decide) ?_
  refine own_iloadN X0.here hx hby d6_9 rfl ?_
  refine own_aloadN X0.here hx hby d6_10 rfl rfl ?_
  refine own_alen X0 hx hZ e0 V_t hby d6_11 ?_
  refine own_icmpNo X0.here hx hby d6_12 (tlt (show (4 : Int32) < (6 : Int32) from (by decide))).2.1 ?_
  refine own_aloadN X0.here hx hby d6_15 rfl rfl ?_
  refine own_iloadN X0.here hx hby d6_16 rfl ?_
  refine own_baload X0 hx hZ e0 V_t ⟨by decide, by decide⟩ (v := (.int 114)) rfl hby d6_17 ?_
  refine own_aloadN X0.here hx hby d6_18 rfl rfl ?_
  refine own_iloadN X0.here hx hby d6_19 rfl ?_
  refine own_baload X0 hx hZ e0 V_t2 ⟨by decide, by decide⟩ (v := (.int 114)) rfl hby d6_20 ?_
  refine own_icmpYes X0.here hx hby (pc' := 26) d6_21 (teq (show (114 : Int32) = (114 : Int32) from (by decide))).1 (by decide) (by decide) ?_
  refine own_iinc X0.here hx hby d6_26 rfl (v := (5 : Int32)) (by decide) (l' := #[.val (.ref t), .val (.ref t2), .val (.int 5)]) rfl ?_
  refine own_goto X0.here hx hby (pc' := 9) d6_29 (by decide) (by decide) ?_
  refine own_iloadN X0.here hx hby d6_9 rfl ?_
  refine own_aloadN X0.here hx hby d6_10 rfl rfl ?_
  refine own_alen X0 hx hZ e0 V_t hby d6_11 ?_
  refine own_icmpNo X0.here hx hby d6_12 (tlt (show (5 : Int32) < (6 : Int32) from (by decide))).2.1 ?_
  refine own_aloadN X0.here hx hby d6_15 rfl rfl ?_
  refine own_iloadN X0.here hx hby d6_16 rfl ?_
  refine own_baload X0 hx hZ e0 V_t ⟨by decide, by decide⟩ (v := (.int u)) rfl hby d6_17 ?_
  refine own_aloadN X0.here hx hby d6_18 rfl rfl ?_
  refine own_iloadN X0.here hx hby d6_19 rfl ?_
  refine own_baload X0 hx hZ e0 V_t2 ⟨by decide, by decide⟩ (v := (.int 121)) rfl hby d6_20 ?_
  refine own_icmpNo X0.here hx hby d6_21 (feq hu).1 ?_
  refine own_iconst X0.here hx hby d6_24 (v := (0 : Int32)) (by decide) ?_
  obtain ⟨fs, hr, hrun, hended, hW, hsame⟩ := X0.leave (v := some (.int 0)) (fun h => by rw [Bd.returns] at h; cases h)
  refine own_ret (t := s₁.setFrames fs) ?_ ⟨_, hrun, hended, _, _, rfl, ?_, ⟨_, rfl⟩, hW, hsame.mono (by decide) (by decide)⟩
  · exact retN X0 hx (t := .boolean) Bd.returns (by simp) (hb hby d6_25) hr
  · show Q_l1Eq_n4 Z _ _ _ _ _ h0 n0 _ s₁.heap _
    rw [e0]
    exact ⟨rfl, N0, rfl⟩
def Q_strEq_n4 (Z : State) (x : Nat) (x2 : Nat) (t : Nat) (t2 : Nat) (kb : ClassId) (kc : ClassId) (zc : Int32) (u : Int32) (h0 : Heap) (n0 : Nat) (vR : Option Value) (hR : Heap) (LR : List Loc) : Prop := vR = some (.int 0) ∧ Fr n0 LR ∧ hR = h0
set_option maxRecDepth 65536 in
set_option maxHeartbeats 40000000 in
theorem strEq_n4 (l : Launch) (Z : State) (a0 : Array Value) (hw : ∀ d ∈ tables_1, d.before a0 Z = true) (ws : List Jvm.Cond) (x : Nat) (x2 : Nat) (t : Nat) (t2 : Nat) (kb : ClassId) (kc : ClassId) (zc : Int32) (u : Int32) (h0 : Heap) (n0 : Nat) (Z0 : n0 ≤ h0.size) (E_x : Exa Z h0 x "java/lang/String") (E_x2 : Exa Z h0 x2 "java/lang/String") (hne : x ≠ x2) (Fc_x : Fld Z h0 x "java/lang/String" "coder" "B" (.int 0)) (Fv_x : Fld Z h0 x "java/lang/String" "value" "[B" (.ref t)) (V_t : Arv Z h0 t kb .byte (6 : Int32) [(.int 66), (.int 105), (.int 110), (.int 97), (.int 114), (.int u)] (.int 0)) (Fc_x2 : Fld Z h0 x2 "java/lang/String" "coder" "B" (.int 0)) (Fv_x2 : Fld Z h0 x2 "java/lang/String" "value" "[B" (.ref t2)) (V_t2 : Arv Z h0 t2 kc .byte (6 : Int32) [(.int 66), (.int 105), (.int 110), (.int 97), (.int 114), (.int 121)] (.int 0)) (S_C : Sta Z h0 "java/lang/String" "COMPACT_STRINGS" "Z" (.int zc)) (hz : ¬ (zc = (0 : Int32))) (hu : ¬ (u = (121 : Int32))) :
    own_M l (⟨"java/lang/String", "equals", "(Ljava/lang/Object;)Z"⟩ : MethodName) jdk_42_method_66_code 3 (some .boolean) ws ({ frames := 1, cells := 0, slots := 0, locals := 14 } : Room) Z #[(.ref x), (.ref x2)] h0 (Q_strEq_n4 Z x x2 t t2 kb kc zc u h0 n0) := by
  refine own_body (own := "java/lang/String") rfl (plainFor_of_name pn_5) (fun m => ef_strEqId m x x2) ?_
  intro p e s m below meth c s₁ Bd hml hZ hh hx hby hown X0 e0
  have N0 := Fr.nil n0
  have lt1 : h0.size > x := E_x.lt
  have lt3 : h0.size > x2 := E_x2.lt
  have lt4 : h0.size > t := V_t.lt
  have lt5 : h0.size > t2 := V_t2.lt
  refine own_aloadN X0.here hx hby d5_0 rfl rfl ?_
  refine own_aloadN X0.here hx hby d5_1 rfl rfl ?_
  refine own_acmp X0 hx (same := false) (pc' := 7) hby d5_2 rfl rfl (decide_eq_false fun q => absurd (Value.ref.inj q) hne) (by decide) (by decide) ?_
  refine own_aloadN X0.here hx hby d5_7 rfl rfl ?_
  refine own_instY X0 hx hZ hown (own_w hw 37 rfl) e0 (Ins.self E_x2) hby d5_8 ?_
  intro T6 X6 e6
  refine own_ifNo X6.here hx hby d5_11 ((if0 _ _).trans (feq (show ¬ ((1 : Int32) = (0 : Int32)) from (by decide))).1) ?_
  refine own_aloadN X6.here hx hby d5_14 rfl rfl ?_
  refine own_castY X6 hx hZ hown (own_w hw 37 rfl) e6 (Ins.self E_x2) hby d5_15 ?_
  intro T7 X7 e7
  refine own_astoreN X7.here hx hby d5_18 rfl (l' := #[.val (.ref x), .val (.ref x2), .val (.ref x2)]) rfl ?_
  refine own_getS X7 hx hZ hown (host := "") (Or.inl (own_w hw 39 rfl)) Via.refl e7 S_C hby d5_19 ?_
  intro T8 X8 e8
  refine own_ifNo X8.here hx hby d5_22 ((if0 _ _).trans (feq hz).1) ?_
  refine own_aloadN X8.here hx hby d5_25 rfl rfl ?_
  refine own_getF X8 hx hZ hown (host := "") (Or.inl (own_w hw 40 rfl)) Via.refl e8 Fc_x hby d5_26 ?_
  intro T9 X9 e9
  refine own_aloadN X9.here hx hby d5_29 rfl rfl ?_
  refine own_getF X9 hx hZ hown (host := "") (Or.inl (own_w hw 40 rfl)) Via.refl e9 Fc_x2 hby d5_30 ?_
  intro T10 X10 e10
  refine own_icmpNo X10.here hx hby d5_33 (teq (show (0 : Int32) = (0 : Int32) from (by decide))).2 ?_
  refine own_aloadN X10.here hx hby d5_36 rfl rfl ?_
  refine own_getF X10 hx hZ hown (host := "") (Or.inl (own_w hw 41 rfl)) Via.refl e10 Fv_x hby d5_37 ?_
  intro T11 X11 e11
  refine own_aloadN X11.here hx hby d5_40 rfl rfl ?_
  refine own_getF X11 hx hZ hown (host := "") (Or.inl (own_w hw 41 rfl)) Via.refl e11 Fv_x2 hby d5_41 ?_
  intro T12 X12 e12
  refine own_callS X12 hx hZ hown (own_w hw 42 rfl) (own_w hw 43 rfl) (own_w hw 44 rfl) (own_w hw 45 rfl) (by decide) (l1Eq_n4 l Z a0 hw [] t t2 kb kc u h0 n0 Z0 V_t V_t2 hu) 0 (Nat.le_of_eq rfl) (by decide) (by decide) (by rw [hml]; rfl) (argsL := [(.ref t), (.ref t2)]) (st := []) (lenOf pd_3 rfl) rfl rfl (by decide) (by decide) e12 hby d5_44 ?_
  intro T13 v13 L13 X13 hQ13
  obtain ⟨rfl, Nq13, eh13⟩ := hQ13
  have N13 := Fr.app N0 Nq13
  refine own_sh (T := T13) 47 #[.val (.ref x), .val (.ref x2), .val (.ref x2)] [(.int 0)] ?_
  refine own_ifYes X13.here hx hby (pc' := 54) d5_47 ((if0 _ _).trans (teq (show (0 : Int32) = (0 : Int32) from (by decide))).1) (by decide) (by decide) ?_
  refine own_iconst X13.here hx hby d5_54 (v := (0 : Int32)) (by decide) ?_
  obtain ⟨fs, hr, hrun, hended, hW, hsame⟩ := X13.leave (v := some (.int 0)) (fun h => by rw [Bd.returns] at h; cases h)
  refine own_ret (t := T13.setFrames fs) ?_ ⟨_, hrun, hended, _, _, rfl, ?_, ⟨_, rfl⟩, hW, hsame.mono (by decide) (by decide)⟩
  · exact retN X13 hx (t := .boolean) Bd.returns (by simp) (hb hby d5_55) hr
  · show Q_strEq_n4 Z _ _ _ _ _ _ _ _ h0 n0 _ T13.heap _
    rw [eh13]
    exact ⟨rfl, N13, rfl⟩
def Q_l1Eq_n5 (Z : State) (t : Nat) (t2 : Nat) (kb : ClassId) (kc : ClassId) (u : Int32) (h0 : Heap) (n0 : Nat) (vR : Option Value) (hR : Heap) (LR : List Loc) : Prop := vR = some (.int 0) ∧ Fr n0 LR ∧ hR = h0
set_option maxRecDepth 65536 in
set_option maxHeartbeats 40000000 in
theorem l1Eq_n5 (l : Launch) (Z : State) (a0 : Array Value) (hw : ∀ d ∈ tables_1, d.before a0 Z = true) (ws : List Jvm.Cond) (t : Nat) (t2 : Nat) (kb : ClassId) (kc : ClassId) (u : Int32) (h0 : Heap) (n0 : Nat) (Z0 : n0 ≤ h0.size) (V_t : Arv Z h0 t kb .byte (1 : Int32) [(.int u)] (.int 0)) (V_t2 : Arv Z h0 t2 kc .byte (6 : Int32) [(.int 66), (.int 105), (.int 110), (.int 97), (.int 114), (.int 121)] (.int 0)) :
    own_M l (⟨"java/lang/StringLatin1", "equals", "([B[B)Z"⟩ : MethodName) jdk_43_method_13_code 3 (some .boolean) ws ({ frames := 0, cells := 0, slots := 0, locals := 0 } : Room) Z #[(.ref t), (.ref t2)] h0 (Q_l1Eq_n5 Z t t2 kb kc u h0 n0) := by
  refine own_body (own := "java/lang/StringLatin1") rfl (plainFor_of_name pn_6) (fun m => ef_l1Eq_b1 m t t2) ?_
  intro p e s m below meth c s₁ Bd hml hZ hh hx hby hown X0 e0
  have N0 := Fr.nil n0
  have lt1 : h0.size > t := V_t.lt
  have lt3 : h0.size > t2 := V_t2.lt
  refine own_aloadN X0.here hx hby d6_0 rfl rfl ?_
  refine own_alen X0 hx hZ e0 V_t hby d6_1 ?_
  refine own_aloadN X0.here hx hby d6_2 rfl rfl ?_
  refine own_alen X0 hx hZ e0 V_t2 hby d6_3 ?_
  refine own_icmpYes X0.here hx hby (pc' := 34) d6_4 (feq (show ¬ ((1 : Int32) = (6 : Int32)) from (by decide))).2 (by decide) (by decide) ?_
  refine own_iconst X0.here hx hby d6_34 (v := (0 : Int32)) (by decide) ?_
  obtain ⟨fs, hr, hrun, hended, hW, hsame⟩ := X0.leave (v := some (.int 0)) (fun h => by rw [Bd.returns] at h; cases h)
  refine own_ret (t := s₁.setFrames fs) ?_ ⟨_, hrun, hended, _, _, rfl, ?_, ⟨_, rfl⟩, hW, hsame.mono (by decide) (by decide)⟩
  · exact retN X0 hx (t := .boolean) Bd.returns (by simp) (hb hby d6_35) hr
  · show Q_l1Eq_n5 Z _ _ _ _ _ h0 n0 _ s₁.heap _
    rw [e0]
    exact ⟨rfl, N0, rfl⟩
def Q_strEq_n5 (Z : State) (x : Nat) (x2 : Nat) (t : Nat) (t2 : Nat) (kb : ClassId) (kc : ClassId) (zc : Int32) (u : Int32) (h0 : Heap) (n0 : Nat) (vR : Option Value) (hR : Heap) (LR : List Loc) : Prop := vR = some (.int 0) ∧ Fr n0 LR ∧ hR = h0
set_option maxRecDepth 65536 in
set_option maxHeartbeats 40000000 in
theorem strEq_n5 (l : Launch) (Z : State) (a0 : Array Value) (hw : ∀ d ∈ tables_1, d.before a0 Z = true) (ws : List Jvm.Cond) (x : Nat) (x2 : Nat) (t : Nat) (t2 : Nat) (kb : ClassId) (kc : ClassId) (zc : Int32) (u : Int32) (h0 : Heap) (n0 : Nat) (Z0 : n0 ≤ h0.size) (E_x : Exa Z h0 x "java/lang/String") (E_x2 : Exa Z h0 x2 "java/lang/String") (hne : x ≠ x2) (Fc_x : Fld Z h0 x "java/lang/String" "coder" "B" (.int 0)) (Fv_x : Fld Z h0 x "java/lang/String" "value" "[B" (.ref t)) (V_t : Arv Z h0 t kb .byte (1 : Int32) [(.int u)] (.int 0)) (Fc_x2 : Fld Z h0 x2 "java/lang/String" "coder" "B" (.int 0)) (Fv_x2 : Fld Z h0 x2 "java/lang/String" "value" "[B" (.ref t2)) (V_t2 : Arv Z h0 t2 kc .byte (6 : Int32) [(.int 66), (.int 105), (.int 110), (.int 97), (.int 114), (.int 121)] (.int 0)) (S_C : Sta Z h0 "java/lang/String" "COMPACT_STRINGS" "Z" (.int zc)) (hz : ¬ (zc = (0 : Int32))) :
    own_M l (⟨"java/lang/String", "equals", "(Ljava/lang/Object;)Z"⟩ : MethodName) jdk_42_method_66_code 3 (some .boolean) ws ({ frames := 1, cells := 0, slots := 0, locals := 14 } : Room) Z #[(.ref x), (.ref x2)] h0 (Q_strEq_n5 Z x x2 t t2 kb kc zc u h0 n0) := by
  refine own_body (own := "java/lang/String") rfl (plainFor_of_name pn_5) (fun m => ef_strEqId m x x2) ?_
  intro p e s m below meth c s₁ Bd hml hZ hh hx hby hown X0 e0
  have N0 := Fr.nil n0
  have lt1 : h0.size > x := E_x.lt
  have lt3 : h0.size > x2 := E_x2.lt
  have lt4 : h0.size > t := V_t.lt
  have lt5 : h0.size > t2 := V_t2.lt
  refine own_aloadN X0.here hx hby d5_0 rfl rfl ?_
  refine own_aloadN X0.here hx hby d5_1 rfl rfl ?_
  refine own_acmp X0 hx (same := false) (pc' := 7) hby d5_2 rfl rfl (decide_eq_false fun q => absurd (Value.ref.inj q) hne) (by decide) (by decide) ?_
  refine own_aloadN X0.here hx hby d5_7 rfl rfl ?_
  refine own_instY X0 hx hZ hown (own_w hw 37 rfl) e0 (Ins.self E_x2) hby d5_8 ?_
  intro T6 X6 e6
  refine own_ifNo X6.here hx hby d5_11 ((if0 _ _).trans (feq (show ¬ ((1 : Int32) = (0 : Int32)) from (by decide))).1) ?_
  refine own_aloadN X6.here hx hby d5_14 rfl rfl ?_
  refine own_castY X6 hx hZ hown (own_w hw 37 rfl) e6 (Ins.self E_x2) hby d5_15 ?_
  intro T7 X7 e7
  refine own_astoreN X7.here hx hby d5_18 rfl (l' := #[.val (.ref x), .val (.ref x2), .val (.ref x2)]) rfl ?_
  refine own_getS X7 hx hZ hown (host := "") (Or.inl (own_w hw 39 rfl)) Via.refl e7 S_C hby d5_19 ?_
  intro T8 X8 e8
  refine own_ifNo X8.here hx hby d5_22 ((if0 _ _).trans (feq hz).1) ?_
  refine own_aloadN X8.here hx hby d5_25 rfl rfl ?_
  refine own_getF X8 hx hZ hown (host := "") (Or.inl (own_w hw 40 rfl)) Via.refl e8 Fc_x hby d5_26 ?_
  intro T9 X9 e9
  refine own_aloadN X9.here hx hby d5_29 rfl rfl ?_
  refine own_getF X9 hx hZ hown (host := "") (Or.inl (own_w hw 40 rfl)) Via.refl e9 Fc_x2 hby d5_30 ?_
  intro T10 X10 e10
  refine own_icmpNo X10.here hx hby d5_33 (teq (show (0 : Int32) = (0 : Int32) from (by decide))).2 ?_
  refine own_aloadN X10.here hx hby d5_36 rfl rfl ?_
  refine own_getF X10 hx hZ hown (host := "") (Or.inl (own_w hw 41 rfl)) Via.refl e10 Fv_x hby d5_37 ?_
  intro T11 X11 e11
  refine own_aloadN X11.here hx hby d5_40 rfl rfl ?_
  refine own_getF X11 hx hZ hown (host := "") (Or.inl (own_w hw 41 rfl)) Via.refl e11 Fv_x2 hby d5_41 ?_
  intro T12 X12 e12
  refine own_callS X12 hx hZ hown (own_w hw 42 rfl) (own_w hw 43 rfl) (own_w hw 44 rfl) (own_w hw 45 rfl) (by decide) (l1Eq_n5 l Z a0 hw [] t t2 kb kc u h0 n0 Z0 V_t V_t2) 0 (Nat.le_of_eq rfl) (by decide) (by decide) (by rw [hml]; rfl) (argsL := [(.ref t), (.ref t2)]) (st := []) (lenOf pd_3 rfl) rfl rfl (by decide) (by decide) e12 hby d5_44 ?_
  intro T13 v13 L13 X13 hQ13
  obtain ⟨rfl, Nq13, eh13⟩ := hQ13
  have N13 := Fr.app N0 Nq13
  refine own_sh (T := T13) 47 #[.val (.ref x), .val (.ref x2), .val (.ref x2)] [(.int 0)] ?_
  refine own_ifYes X13.here hx hby (pc' := 54) d5_47 ((if0 _ _).trans (teq (show (0 : Int32) = (0 : Int32) from (by decide))).1) (by decide) (by decide) ?_
  refine own_iconst X13.here hx hby d5_54 (v := (0 : Int32)) (by decide) ?_
  obtain ⟨fs, hr, hrun, hended, hW, hsame⟩ := X13.leave (v := some (.int 0)) (fun h => by rw [Bd.returns] at h; cases h)
  refine own_ret (t := T13.setFrames fs) ?_ ⟨_, hrun, hended, _, _, rfl, ?_, ⟨_, rfl⟩, hW, hsame.mono (by decide) (by decide)⟩
  · exact retN X13 hx (t := .boolean) Bd.returns (by simp) (hb hby d5_55) hr
  · show Q_strEq_n5 Z _ _ _ _ _ _ _ _ h0 n0 _ T13.heap _
    rw [eh13]
    exact ⟨rfl, N13, rfl⟩
theorem ef_strCoder (m : MethodId) (x0 : Nat) : entryFrame m #[(.ref x0)] 1 = mkF m 0 #[.val (.ref x0)] [] := by first | (simp [entryFrame, mkF, argsToLocals, Value.category]; done) | rfl
theorem pn_10 : plainName "java/lang/String" = true := by first | (simp [plainName, overriddenIn]; done) | decide +kernel
theorem d10_0 : decode jdk_42_method_152_code 0 = .ok (.getstatic 38, 3) := by decide +kernel
theorem d10_3 : decode jdk_42_method_152_code 3 = .ok (.ifCond .eq 10, 3) := by decide +kernel
theorem d10_6 : decode jdk_42_method_152_code 6 = .ok (.aload_n 0, 1) := by decide +kernel
theorem d10_7 : decode jdk_42_method_152_code 7 = .ok (.getfield 15, 3) := by decide +kernel
theorem d10_10 : decode jdk_42_method_152_code 10 = .ok (.goto 4, 3) := by decide +kernel
theorem d10_14 : decode jdk_42_method_152_code 14 = .ok (.ireturn, 1) := by decide +kernel
def Q_strCoder (Z : State) (x : Nat) (zc : Int32) (h0 : Heap) (n0 : Nat) (vR : Option Value) (hR : Heap) (LR : List Loc) : Prop := vR = some (.int 0) ∧ Fr n0 LR ∧ hR = h0
set_option maxRecDepth 65536 in
set_option maxHeartbeats 40000000 in
theorem strCoder (l : Launch) (Z : State) (a0 : Array Value) (hw : ∀ d ∈ tables_1, d.before a0 Z = true) (ws : List Jvm.Cond) (x : Nat) (zc : Int32) (h0 : Heap) (n0 : Nat) (Z0 : n0 ≤ h0.size) (Fc_x : Fld Z h0 x "java/lang/String" "coder" "B" (.int 0)) (S_C : Sta Z h0 "java/lang/String" "COMPACT_STRINGS" "Z" (.int zc)) (hz : ¬ (zc = (0 : Int32))) :
    own_M l (⟨"java/lang/String", "coder", "()B"⟩ : MethodName) jdk_42_method_152_code 1 (some .byte) ws ({ frames := 0, cells := 0, slots := 0, locals := 0 } : Room) Z #[(.ref x)] h0 (Q_strCoder Z x zc h0 n0) := by
  refine own_body (own := "java/lang/String") rfl (plainFor_of_name pn_10) (fun m => ef_strCoder m x) ?_
  intro p e s m below meth c s₁ Bd hml hZ hh hx hby hown X0 e0
  have N0 := Fr.nil n0
  have lt1 : h0.size > x := Fc_x.lt
  refine own_getS X0 hx hZ hown (host := "") (Or.inl (own_w hw 39 rfl)) Via.refl e0 S_C hby d10_0 ?_
  intro T2 X2 e2
  refine own_ifNo X2.here hx hby d10_3 ((if0 _ _).trans (feq hz).1) ?_
  refine own_aloadN X2.here hx hby d10_6 rfl rfl ?_
  refine own_getF X2 hx hZ hown (host := "") (Or.inl (own_w hw 40 rfl)) Via.refl e2 Fc_x hby d10_7 ?_
  intro T3 X3 e3
  refine own_goto X3.here hx hby (pc' := 14) d10_10 (by decide) (by decide) ?_
  obtain ⟨fs, hr, hrun, hended, hW, hsame⟩ := X3.leave (v := some (.int 0)) (fun h => by rw [Bd.returns] at h; cases h)
  refine own_ret (t := T3.setFrames fs) ?_ ⟨_, hrun, hended, _, _, rfl, ?_, ⟨_, rfl⟩, hW, hsame.mono (by decide) (by decide)⟩
  · exact retN X3 hx (t := .byte) Bd.returns (by simp) (hb hby d10_14) hr
  · show Q_strCoder Z _ _ h0 n0 _ T3.heap _
    rw [e3]
    exact ⟨rfl, N0, rfl⟩
theorem ef_strLen_7 (m : MethodId) (x0 : Nat) : entryFrame m #[(.ref x0)] 1 = mkF m 0 #[.val (.ref x0)] [] := by first | (simp [entryFrame, mkF, argsToLocals, Value.category]; done) | rfl
theorem pn_9 : plainName "java/lang/String" = true := by first | (simp [plainName, overriddenIn]; done) | decide +kernel
theorem d9_0 : decode jdk_42_method_54_code 0 = .ok (.aload_n 0, 1) := by decide +kernel
theorem d9_1 : decode jdk_42_method_54_code 1 = .ok (.getfield 9, 3) := by decide +kernel
theorem d9_4 : decode jdk_42_method_54_code 4 = .ok (.arraylength, 1) := by decide +kernel
theorem d9_5 : decode jdk_42_method_54_code 5 = .ok (.aload_n 0, 1) := by decide +kernel
theorem d9_6 : decode jdk_42_method_54_code 6 = .ok (.invokevirtual 335, 3) := by decide +kernel
theorem pd_4 : parseMethodDescriptor "()B" = some ⟨[], some .byte⟩ := by decide +kernel
theorem d9_9 : decode jdk_42_method_54_code 9 = .ok (.ishr, 1) := by decide +kernel
theorem d9_10 : decode jdk_42_method_54_code 10 = .ok (.ireturn, 1) := by decide +kernel
def Q_strLen_7 (Z : State) (x : Nat) (t : Nat) (kb : ClassId) (zc : Int32) (vs_ : List Value) (h0 : Heap) (n0 : Nat) (vR : Option Value) (hR : Heap) (LR : List Loc) : Prop := vR = some (.int 7) ∧ Fr n0 LR ∧ hR = h0
set_option maxRecDepth 65536 in
set_option maxHeartbeats 40000000 in
theorem strLen_7 (l : Launch) (Z : State) (a0 : Array Value) (hw : ∀ d ∈ tables_1, d.before a0 Z = true) (ws : List Jvm.Cond) (x : Nat) (t : Nat) (kb : ClassId) (zc : Int32) (vs_ : List Value) (h0 : Heap) (n0 : Nat) (Z0 : n0 ≤ h0.size) (E_x : Exa Z h0 x "java/lang/String") (Fc_x : Fld Z h0 x "java/lang/String" "coder" "B" (.int 0)) (Fv_x : Fld Z h0 x "java/lang/String" "value" "[B" (.ref t)) (V_t : Arv Z h0 t kb .byte (7 : Int32) vs_ (.int 0)) (S_C : Sta Z h0 "java/lang/String" "COMPACT_STRINGS" "Z" (.int zc)) (hz : ¬ (zc = (0 : Int32))) :
    own_M l (⟨"java/lang/String", "length", "()I"⟩ : MethodName) jdk_42_method_54_code 1 (some .int) ws ({ frames := 1, cells := 0, slots := 0, locals := 13 } : Room) Z #[(.ref x)] h0 (Q_strLen_7 Z x t kb zc vs_ h0 n0) := by
  refine own_body (own := "java/lang/String") rfl (plainFor_of_name pn_9) (fun m => ef_strLen_7 m x) ?_
  intro p e s m below meth c s₁ Bd hml hZ hh hx hby hown X0 e0
  have N0 := Fr.nil n0
  have lt1 : h0.size > x := E_x.lt
  have lt2 : h0.size > t := V_t.lt
  refine own_aloadN X0.here hx hby d9_0 rfl rfl ?_
  refine own_getF X0 hx hZ hown (host := "") (Or.inl (own_w hw 41 rfl)) Via.refl e0 Fv_x hby d9_1 ?_
  intro T3 X3 e3
  refine own_alen X3 hx hZ e3 V_t hby d9_4 ?_
  refine own_aloadN X3.here hx hby d9_5 rfl rfl ?_
  refine own_virtual X3 hx hZ hown (own_w hw 62 rfl) (own_w hw 63 rfl) (notFace_of_selects (args := #[]) (mvT hZ (own_w hw 65 rfl))) (own_w hw 65 rfl) (own_w hw 64 rfl) (own_w hw 25 rfl) (own_w hw 66 rfl) (by decide) (strCoder l Z a0 hw [] x zc h0 n0 Z0 Fc_x S_C hz) 1 (Nat.le_of_eq rfl) (by decide) (by decide) (by rw [hml]; rfl) (argsL := []) (st := [(.int 7)]) E_x (lenOf pd_4 rfl) rfl rfl (by decide) (by decide) e3 hby d9_6 ?_
  intro T4 v4 L4 X4 hQ4
  obtain ⟨rfl, Nq4, eh4⟩ := hQ4
  have N4 := Fr.app N0 Nq4
  refine own_sh (T := T4) 9 #[.val (.ref x)] [(.int 0), (.int 7)] ?_
  refine own_ishr X4.here hx hby d9_9 (v := (7 : Int32)) (by decide) ?_
  obtain ⟨fs, hr, hrun, hended, hW, hsame⟩ := X4.leave (v := some (.int 7)) (fun h => by rw [Bd.returns] at h; cases h)
  refine own_ret (t := T4.setFrames fs) ?_ ⟨_, hrun, hended, _, _, rfl, ?_, ⟨_, rfl⟩, hW, hsame.mono (by decide) (by decide)⟩
  · exact retOut X4 hx Bd.returns rfl (Or.inl ⟨rfl, Or.inl rfl, _, rfl⟩) (hb hby d9_10) hr
  · show Q_strLen_7 Z _ _ _ _ _ h0 n0 _ T4.heap _
    rw [eh4]
    exact ⟨rfl, N4, rfl⟩
theorem ef_mism_b2 (m : MethodId) (x0 : Nat) (x1 : Int32) (x2 : Nat) (x3 : Int32) (x4 : Int32) : entryFrame m #[(.ref x0), (.int x1), (.ref x2), (.int x3), (.int x4)] 8 = mkF m 0 #[.val (.ref x0), .val (.int x1), .val (.ref x2), .val (.int x3), .val (.int x4), .unset, .unset, .unset] [] := by first | (simp [entryFrame, mkF, argsToLocals, Value.category]; done) | rfl
theorem pn_20 : plainName "jdk/internal/util/ArraysSupport" = true := by first | (simp [plainName, overriddenIn]; done) | decide +kernel
theorem d20_0 : decode jdk_48_method_14_code 0 = .ok (.iconst 0, 1) := by decide +kernel
theorem d20_1 : decode jdk_48_method_14_code 1 = .ok (.istore 5, 2) := by decide +kernel
theorem d20_3 : decode jdk_48_method_14_code 3 = .ok (.iload 4, 2) := by decide +kernel
theorem d20_5 : decode jdk_48_method_14_code 5 = .ok (.bipush 7, 2) := by decide +kernel
theorem d20_7 : decode jdk_48_method_14_code 7 = .ok (.if_icmp .le 63, 3) := by decide +kernel
theorem d20_70 : decode jdk_48_method_14_code 70 = .ok (.iload 5, 2) := by decide +kernel
theorem d20_72 : decode jdk_48_method_14_code 72 = .ok (.iload 4, 2) := by decide +kernel
theorem d20_74 : decode jdk_48_method_14_code 74 = .ok (.if_icmp .ge 27, 3) := by decide +kernel
theorem d20_77 : decode jdk_48_method_14_code 77 = .ok (.aload_n 0, 1) := by decide +kernel
theorem d20_78 : decode jdk_48_method_14_code 78 = .ok (.iload_n 1, 1) := by decide +kernel
theorem d20_79 : decode jdk_48_method_14_code 79 = .ok (.iload 5, 2) := by decide +kernel
theorem d20_81 : decode jdk_48_method_14_code 81 = .ok (.iadd, 1) := by decide +kernel
theorem d20_82 : decode jdk_48_method_14_code 82 = .ok (.baload, 1) := by decide +kernel
theorem d20_83 : decode jdk_48_method_14_code 83 = .ok (.aload_n 2, 1) := by decide +kernel
theorem d20_84 : decode jdk_48_method_14_code 84 = .ok (.iload_n 3, 1) := by decide +kernel
theorem d20_85 : decode jdk_48_method_14_code 85 = .ok (.iload 5, 2) := by decide +kernel
theorem d20_87 : decode jdk_48_method_14_code 87 = .ok (.iadd, 1) := by decide +kernel
theorem d20_88 : decode jdk_48_method_14_code 88 = .ok (.baload, 1) := by decide +kernel
theorem d20_89 : decode jdk_48_method_14_code 89 = .ok (.if_icmp .eq 6, 3) := by decide +kernel
theorem d20_95 : decode jdk_48_method_14_code 95 = .ok (.iinc 5 1, 3) := by decide +kernel
theorem d20_98 : decode jdk_48_method_14_code 98 = .ok (.goto (-28), 3) := by decide +kernel
theorem d20_101 : decode jdk_48_method_14_code 101 = .ok (.iconst (-1), 1) := by decide +kernel
theorem d20_102 : decode jdk_48_method_14_code 102 = .ok (.ireturn, 1) := by decide +kernel
def Q_mism_b2 (Z : State) (t : Nat) (t2 : Nat) (kb : ClassId) (kc : ClassId) (h0 : Heap) (n0 : Nat) (vR : Option Value) (hR : Heap) (LR : List Loc) : Prop := vR = some (.int (-1)) ∧ Fr n0 LR ∧ hR = h0
set_option maxRecDepth 65536 in
set_option maxHeartbeats 40000000 in
theorem mism_b2 (l : Launch) (Z : State) (a0 : Array Value) (hw : ∀ d ∈ tables_1, d.before a0 Z = true) (ws : List Jvm.Cond) (t : Nat) (t2 : Nat) (kb : ClassId) (kc : ClassId) (h0 : Heap) (n0 : Nat) (Z0 : n0 ≤ h0.size) (V_t : Arv Z h0 t kb .byte (7 : Int32) [(.int 66), (.int 105), (.int 110), (.int 97), (.int 114), (.int 121), (.int 46)] (.int 0)) (V_t2 : Arv Z h0 t2 kc .byte (7 : Int32) [(.int 66), (.int 105), (.int 110), (.int 97), (.int 114), (.int 121), (.int 46)] (.int 0)) :
    own_M l (⟨"jdk/internal/util/ArraysSupport", "mismatch", "([BI[BII)I"⟩ : MethodName) jdk_48_method_14_code 8 (some .int) ws ({ frames := 0, cells := 0, slots := 0, locals := 0 } : Room) Z #[(.ref t), (.int 0), (.ref t2), (.int 0), (.int 7)] h0 (Q_mism_b2 Z t t2 kb kc h0 n0) := by
  refine own_body (own := "jdk/internal/util/ArraysSupport") rfl (plainFor_of_name pn_20) (fun m => ef_mism_b2 m t (0 : Int32) t2 (0 : Int32) (7 : Int32)) ?_
  intro p e s m below meth c s₁ Bd hml hZ hh hx hby hown X0 e0
  have N0 := Fr.nil n0
  have lt1 : h0.size > t := V_t.lt
  have lt3 : h0.size > t2 := V_t2.lt
  refine own_iconst X0.here hx hby d20_0 (v := (0 : Int32)) (by decide) ?_
  refine own_istore X0.here hx hby d20_1 (l' := #[.val (.ref t), .val (.int 0), .val (.ref t2), .val (.int 0), .val (.int 7), .val (.int 0), .unset, .unset]) rfl ?_
  refine own_iload X0.here hx hby d20_3 rfl ?_
  refine own_bipush X0.here hx hby d20_5 (v := (7 : Int32)) (by decide) ?_
  refine own_icmpYes X0.here hx hby (pc' := 70) d20_7 (flt (show ¬ ((7 : Int32) < (7 : Int32)) from (by decide))).2.2.2 (by decide) (by decide) ?_
  refine own_iload X0.here hx hby d20_70 rfl ?_
  refine own_iload X0.here hx hby d20_72 rfl ?_
  refine own_icmpNo X0.here hx hby d20_74 (tlt (show (0 : Int32) < (7 : Int32) from (by decide))).2.1 ?_
  refine own_aloadN X0.here hx hby d20_77 rfl rfl ?_
  refine own_iloadN X0.here hx hby d20_78 rfl ?_
  refine own_iload X0.here hx hby d20_79 rfl ?_
  refine own_iadd X0.here hx hby d20_81 (v := (0 : Int32)) (by decide) ?_
  refine own_baload X0 hx hZ e0 V_t ⟨by decide, by decide⟩ (v := (.int 66)) rfl hby d20_82 ?_
  refine own_aloadN X0.here hx hby d20_83 rfl rfl ?_
  refine own_iloadN X0.here hx hby d20_84 rfl ?_
  refine own_iload X0.here hx hby d20_85 rfl ?_
  refine own_iadd X0.here hx hby d20_87 (v := (0 : Int32)) (by decide) ?_
  refine own_baload X0 hx hZ e0 V_t2 ⟨by decide, by decide⟩ (v := (.int 66)) rfl hby d20_88 ?_
  refine own_icmpYes X0.here hx hby (pc' := 95) d20_89 (teq (show (66 : Int32) = (66 : Int32) from (by decide))).1 (by decide) (by decide) ?_
  refine own_iinc X0.here hx hby d20_95 rfl (v := (1 : Int32)) (by decide) (l' := #[.val (.ref t), .val (.int 0), .val (.ref t2), .val (.int 0), .val (.int 7), .val (.int 1), .unset, .unset]) rfl ?_
  refine own_goto X0.here hx hby (pc' := 70) d20_98 (by decide) (by decide) ?_
  refine own_iload X0.here hx hby d20_70 rfl ?_
  refine own_iload X0.here hx hby d20_72 rfl ?_
  refine own_icmpNo X0.here hx hby d20_74 (tlt (show (1 : Int32) < (7 : Int32) from (by decide))).2.1 ?_
  refine own_aloadN X0.here hx hby d20_77 rfl rfl ?_
  refine own_iloadN X0.here hx hby d20_78 rfl ?_
  refine own_iload X0.here hx hby d20_79 rfl ?_
  refine own_iadd X0.here hx hby d20_81 (v := (1 : Int32)) (by decide) ?_
  refine own_baload X0 hx hZ e0 V_t ⟨by decide, by decide⟩ (v := (.int 105)) rfl hby d20_82 ?_
  refine own_aloadN X0.here hx hby d20_83 rfl rfl ?_
  refine own_iloadN X0.here hx hby d20_84 rfl ?_
  refine own_iload X0.here hx hby d20_85 rfl ?_
  refine own_iadd X0.here hx hby d20_87 (v := (1 : Int32)) (by decide) ?_
  refine own_baload X0 hx hZ e0 V_t2 ⟨by decide, by decide⟩ (v := (.int 105)) rfl hby d20_88 ?_
  refine own_icmpYes X0.here hx hby (pc' := 95) d20_89 (teq (show (105 : Int32) = (105 : Int32) from (by decide))).1 (by decide) (by decide) ?_
  refine own_iinc X0.here hx hby d20_95 rfl (v := (2 : Int32)) (by decide) (l' := #[.val (.ref t), .val (.int 0), .val (.ref t2), .val (.int 0), .val (.int 7), .val (.int 2), .unset, .unset]) rfl ?_
  refine own_goto X0.here hx hby (pc' := 70) d20_98 (by decide) (by decide) ?_
  refine own_iload X0.here hx hby d20_70 rfl ?_
  refine own_iload X0.here hx hby d20_72 rfl ?_
  refine own_icmpNo X0.here hx hby d20_74 (tlt (show (2 : Int32) < (7 : Int32) from (by decide))).2.1 ?_
  refine own_aloadN X0.here hx hby d20_77 rfl rfl ?_
  refine own_iloadN X0.here hx hby d20_78 rfl ?_
  refine own_iload X0.here hx hby d20_79 rfl ?_
  refine own_iadd X0.here hx hby d20_81 (v := (2 : Int32)) (by decide) ?_
  refine own_baload X0 hx hZ e0 V_t ⟨by decide, by decide⟩ (v := (.int 110)) rfl hby d20_82 ?_
  refine own_aloadN X0.here hx hby d20_83 rfl rfl ?_
  refine own_iloadN X0.here hx hby d20_84 rfl ?_
  refine own_iload X0.here hx hby d20_85 rfl ?_
  refine own_iadd X0.here hx hby d20_87 (v := (2 : Int32)) (by decide) ?_
  refine own_baload X0 hx hZ e0 V_t2 ⟨by decide, by decide⟩ (v := (.int 110)) rfl hby d20_88 ?_
  refine own_icmpYes X0.here hx hby (pc' := 95) d20_89 (teq (show (110 : Int32) = (110 : Int32) from (by decide))).1 (by decide) (by decide) ?_
  refine own_iinc X0.here hx hby d20_95 rfl (v := (3 : Int32)) (by decide) (l' := #[.val (.ref t), .val (.int 0), .val (.ref t2), .val (.int 0), .val (.int 7), .val (.int 3), .unset, .unset]) rfl ?_
  refine own_goto X0.here hx hby (pc' := 70) d20_98 (by decide) (by decide) ?_
  refine own_iload X0.here hx hby d20_70 rfl ?_
  refine own_iload X0.here hx hby d20_72 rfl ?_
  refine own_icmpNo X0.here hx hby d20_74 (tlt (show (3 : Int32) < (7 : Int32) from (by decide))).2.1 ?_
  refine own_aloadN X0.here hx hby d20_77 rfl rfl ?_
  refine own_iloadN X0.here hx hby d20_78 rfl ?_
  refine own_iload X0.here hx hby d20_79 rfl ?_
  refine own_iadd X0.here hx hby d20_81 (v := (3 : Int32)) (by decide) ?_
  refine own_baload X0 hx hZ e0 V_t ⟨by decide, by decide⟩ (v := (.int 97)) rfl hby d20_82 ?_
  refine own_aloadN X0.here hx hby d20_83 rfl rfl ?_
  refine own_iloadN X0.here hx hby d20_84 rfl ?_
  refine own_iload X0.here hx hby d20_85 rfl ?_
  refine own_iadd X0.here hx hby d20_87 (v := (3 : Int32)) (by decide) ?_
  refine own_baload X0 hx hZ e0 V_t2 ⟨by decide, by decide⟩ (v := (.int 97)) rfl hby d20_88 ?_
  refine own_icmpYes X0.here hx hby (pc' := 95) d20_89 (teq (show (97 : Int32) = (97 : Int32) from (by decide))).1 (by decide) (by decide) ?_
  refine own_iinc X0.here hx hby d20_95 rfl (v := (4 : Int32)) (by decide) (l' := #[.val (.ref t), .val (.int 0), .val (.ref t2), .val (.int 0), .val (.int 7), .val (.int 4), .unset, .unset]) rfl ?_
  refine own_goto X0.here hx hby (pc' := 70) d20_98 (by decide) (by decide) ?_
  refine own_iload X0.here hx hby d20_70 rfl ?_
  refine own_iload X0.here hx hby d20_72 rfl ?_
  refine own_icmpNo X0.here hx hby d20_74 (tlt (show (4 : Int32) < (7 : Int32) from (by decide))).2.1 ?_
  refine own_aloadN X0.here hx hby d20_77 rfl rfl ?_
  refine own_iloadN X0.here hx hby d20_78 rfl ?_
  refine own_iload X0.here hx hby d20_79 rfl ?_
  refine own_iadd X0.here hx hby d20_81 (v := (4 : Int32)) (by decide) ?_
  refine own_baload X0 hx hZ e0 V_t ⟨by decide, by decide⟩ (v := (.int 114)) rfl hby d20_82 ?_
  refine own_aloadN X0.here hx hby d20_83 rfl rfl ?_
  refine own_iloadN X0.here hx hby d20_84 rfl ?_
  refine own_iload X0.here hx hby d20_85 rfl ?_
  refine own_iadd X0.here hx hby d20_87 (v := (4 : Int32)) (by decide) ?_
  refine own_baload X0 hx hZ e0 V_t2 ⟨by decide, by decide⟩ (v := (.int 114)) rfl hby d20_88 ?_
  refine own_icmpYes X0.here hx hby (pc' := 95) d20_89 (teq (show (114 : Int32) = (114 : Int32) from (by decide))).1 (by decide) (by decide) ?_
  refine own_iinc X0.here hx hby d20_95 rfl (v := (5 : Int32)) (by decide) (l' := #[.val (.ref t), .val (.int 0), .val (.ref t2), .val (.int 0), .val (.int 7), .val (.int 5), .unset, .unset]) rfl ?_
  refine own_goto X0.here hx hby (pc' := 70) d20_98 (by decide) (by decide) ?_
  refine own_iload X0.here hx hby d20_70 rfl ?_
  refine own_iload X0.here hx hby d20_72 rfl ?_
  refine own_icmpNo X0.here hx hby d20_74 (tlt (show (5 : Int32) < (7 : Int32) from (by decide))).2.1 ?_
  refine own_aloadN X0.here hx hby d20_77 rfl rfl ?_
  refine own_iloadN X0.here hx hby d20_78 rfl ?_
  refine own_iload X0.here hx hby d20_79 rfl ?_
  refine own_iadd X0.here hx hby d20_81 (v := (5 : Int32)) (by decide) ?_
  refine own_baload X0 hx hZ e0 V_t ⟨by decide, by decide⟩ (v := (.int 121)) rfl hby d20_82 ?_
  refine own_aloadN X0.here hx hby d20_83 rfl rfl ?_
  refine own_iloadN X0.here hx hby d20_84 rfl ?_
  refine own_iload X0.here hx hby d20_85 rfl ?_
  refine own_iadd X0.here hx hby d20_87 (v := (5 : Int32)) (by decide) ?_
  refine own_baload X0 hx hZ e0 V_t2 ⟨by decide, by decide⟩ (v := (.int 121)) rfl hby d20_88 ?_
  refine own_icmpYes X0.here hx hby (pc' := 95) d20_89 (teq (show (121 : Int32) = (121 : Int32) from (by decide))).1 (by decide) (by decide) ?_
  refine own_iinc X0.here hx hby d20_95 rfl (v := (6 : Int32)) (by decide) (l' := #[.val (.ref t), .val (.int 0), .val (.ref t2), .val (.int 0), .val (.int 7), .val (.int 6), .unset, .unset]) rfl ?_
  refine own_goto X0.here hx hby (pc' := 70) d20_98 (by decide) (by decide) ?_
  refine own_iload X0.here hx hby d20_70 rfl ?_
  refine own_iload X0.here hx hby d20_72 rfl ?_
  refine own_icmpNo X0.here hx hby d20_74 (tlt (show (6 : Int32) < (7 : Int32) from (by decide))).2.1 ?_
  refine own_aloadN X0.here hx hby d20_77 rfl rfl ?_
  refine own_iloadN X0.here hx hby d20_78 rfl ?_
  refine own_iload X0.here hx hby d20_79 rfl ?_
  refine own_iadd X0.here hx hby d20_81 (v := (6 : Int32)) (by decide) ?_
  refine own_baload X0 hx hZ e0 V_t ⟨by decide, by decide⟩ (v := (.int 46)) rfl hby d20_82 ?_
  refine own_aloadN X0.here hx hby d20_83 rfl rfl ?_
  refine own_iloadN X0.here hx hby d20_84 rfl ?_
  refine own_iload X0.here hx hby d20_85 rfl ?_
  refine own_iadd X0.here hx hby d20_87 (v := (6 : Int32)) (by decide) ?_
  refine own_baload X0 hx hZ e0 V_t2 ⟨by decide, by decide⟩ (v := (.int 46)) rfl hby d20_88 ?_
  refine own_icmpYes X0.here hx hby (pc' := 95) d20_89 (teq (show (46 : Int32) = (46 : Int32) from (by decide))).1 (by decide) (by decide) ?_
  refine own_iinc X0.here hx hby d20_95 rfl (v := (7 : Int32)) (by decide) (l' := #[.val (.ref t), .val (.int 0), .val (.ref t2), .val (.int 0), .val (.int 7), .val (.int 7), .unset, .unset]) rfl ?_
  refine own_goto X0.here hx hby (pc' := 70) d20_98 (by decide) (by decide) ?_
  refine own_iload X0.here hx hby d20_70 rfl ?_
  refine own_iload X0.here hx hby d20_72 rfl ?_
  refine own_icmpYes X0.here hx hby (pc' := 101) d20_74 (flt (show ¬ ((7 : Int32) < (7 : Int32)) from (by decide))).2.1 (by decide) (by decide) ?_
  refine own_iconst X0.here hx hby d20_101 (v := (-1 : Int32)) (by decide) ?_
  obtain ⟨fs, hr, hrun, hended, hW, hsame⟩ := X0.leave (v := some (.int (-1))) (fun h => by rw [Bd.returns] at h; cases h)
  refine own_ret (t := s₁.setFrames fs) ?_ ⟨_, hrun, hended, _, _, rfl, ?_, ⟨_, rfl⟩, hW, hsame.mono (by decide) (by decide)⟩
  · exact retOut X0 hx Bd.returns rfl (Or.inl ⟨rfl, Or.inl rfl, _, rfl⟩) (hb hby d20_102) hr
  · show Q_mism_b2 Z _ _ _ _ h0 n0 _ s₁.heap _
    rw [e0]
    exact ⟨rfl, N0, rfl⟩
theorem ef_stw2_b2 (m : MethodId) (x0 : Nat) (x1 : Nat) (x2 : Int32) : entryFrame m #[(.ref x0), (.ref x1), (.int x2)] 8 = mkF m 0 #[.val (.ref x0), .val (.ref x1), .val (.int x2), .unset, .unset, .unset, .unset, .unset] [] := by first | (simp [entryFrame, mkF, argsToLocals, Value.category]; done) | rfl
theorem pn_8 : plainName "java/lang/String" = true := by first | (simp [plainName, overriddenIn]; done) | decide +kernel
theorem d8_0 : decode jdk_42_method_75_code 0 = .ok (.iload_n 2, 1) := by decide +kernel
theorem d8_1 : decode jdk_42_method_75_code 1 = .ok (.ifCond .lt 16, 3) := by decide +kernel
theorem d8_4 : decode jdk_42_method_75_code 4 = .ok (.iload_n 2, 1) := by decide +kernel
theorem d8_5 : decode jdk_42_method_75_code 5 = .ok (.aload_n 0, 1) := by decide +kernel
theorem d8_6 : decode jdk_42_method_75_code 6 = .ok (.invokevirtual 505, 3) := by decide +kernel
theorem pd_5 : parseMethodDescriptor "()I" = some ⟨[], some .int⟩ := by decide +kernel
theorem d8_9 : decode jdk_42_method_75_code 9 = .ok (.aload_n 1, 1) := by decide +kernel
theorem d8_10 : decode jdk_42_method_75_code 10 = .ok (.invokevirtual 505, 3) := by decide +kernel
theorem d8_13 : decode jdk_42_method_75_code 13 = .ok (.isub, 1) := by decide +kernel
theorem d8_14 : decode jdk_42_method_75_code 14 = .ok (.if_icmp .le 5, 3) := by decide +kernel
theorem d8_19 : decode jdk_42_method_75_code 19 = .ok (.aload_n 0, 1) := by decide +kernel
theorem d8_20 : decode jdk_42_method_75_code 20 = .ok (.getfield 9, 3) := by decide +kernel
theorem d8_23 : decode jdk_42_method_75_code 23 = .ok (.astore_n 3, 1) := by decide +kernel
theorem d8_24 : decode jdk_42_method_75_code 24 = .ok (.aload_n 1, 1) := by decide +kernel
theorem d8_25 : decode jdk_42_method_75_code 25 = .ok (.getfield 9, 3) := by decide +kernel
theorem d8_28 : decode jdk_42_method_75_code 28 = .ok (.astore 4, 2) := by decide +kernel
theorem d8_30 : decode jdk_42_method_75_code 30 = .ok (.iconst 0, 1) := by decide +kernel
theorem d8_31 : decode jdk_42_method_75_code 31 = .ok (.istore 5, 2) := by decide +kernel
theorem d8_33 : decode jdk_42_method_75_code 33 = .ok (.aload 4, 2) := by decide +kernel
theorem d8_35 : decode jdk_42_method_75_code 35 = .ok (.arraylength, 1) := by decide +kernel
theorem d8_36 : decode jdk_42_method_75_code 36 = .ok (.istore 6, 2) := by decide +kernel
theorem d8_38 : decode jdk_42_method_75_code 38 = .ok (.aload_n 0, 1) := by decide +kernel
theorem d8_39 : decode jdk_42_method_75_code 39 = .ok (.invokevirtual 335, 3) := by decide +kernel
theorem d8_42 : decode jdk_42_method_75_code 42 = .ok (.istore 7, 2) := by decide +kernel
theorem d8_44 : decode jdk_42_method_75_code 44 = .ok (.iload 7, 2) := by decide +kernel
theorem d8_46 : decode jdk_42_method_75_code 46 = .ok (.aload_n 1, 1) := by decide +kernel
theorem d8_47 : decode jdk_42_method_75_code 47 = .ok (.invokevirtual 335, 3) := by decide +kernel
theorem d8_50 : decode jdk_42_method_75_code 50 = .ok (.if_icmp .ne 32, 3) := by decide +kernel
theorem d8_53 : decode jdk_42_method_75_code 53 = .ok (.iload 7, 2) := by decide +kernel
theorem d8_55 : decode jdk_42_method_75_code 55 = .ok (.iconst 1, 1) := by decide +kernel
theorem d8_56 : decode jdk_42_method_75_code 56 = .ok (.if_icmp .ne 7, 3) := by decide +kernel
theorem d8_63 : decode jdk_42_method_75_code 63 = .ok (.aload_n 3, 1) := by decide +kernel
theorem d8_64 : decode jdk_42_method_75_code 64 = .ok (.iload_n 2, 1) := by decide +kernel
theorem d8_65 : decode jdk_42_method_75_code 65 = .ok (.aload 4, 2) := by decide +kernel
theorem d8_67 : decode jdk_42_method_75_code 67 = .ok (.iconst 0, 1) := by decide +kernel
theorem d8_68 : decode jdk_42_method_75_code 68 = .ok (.iload 6, 2) := by decide +kernel
theorem d8_70 : decode jdk_42_method_75_code 70 = .ok (.invokestatic 607, 3) := by decide +kernel
theorem pd_6 : parseMethodDescriptor "([BI[BII)I" = some ⟨[(.array .byte), .int, (.array .byte), .int, .int], some .int⟩ := by decide +kernel
theorem d8_73 : decode jdk_42_method_75_code 73 = .ok (.ifCond .ge 7, 3) := by decide +kernel
theorem d8_76 : decode jdk_42_method_75_code 76 = .ok (.iconst 1, 1) := by decide +kernel
theorem d8_77 : decode jdk_42_method_75_code 77 = .ok (.goto 4, 3) := by decide +kernel
theorem d8_81 : decode jdk_42_method_75_code 81 = .ok (.ireturn, 1) := by decide +kernel
def Q_stw2_b2 (Z : State) (x : Nat) (x2 : Nat) (t : Nat) (t2 : Nat) (kb : ClassId) (kc : ClassId) (zc : Int32) (h0 : Heap) (n0 : Nat) (vR : Option Value) (hR : Heap) (LR : List Loc) : Prop := vR = some (.int 1) ∧ Fr n0 LR ∧ hR = h0
set_option maxRecDepth 65536 in
set_option maxHeartbeats 40000000 in
theorem stw2_b2 (l : Launch) (Z : State) (a0 : Array Value) (hw : ∀ d ∈ tables_1, d.before a0 Z = true) (ws : List Jvm.Cond) (x : Nat) (x2 : Nat) (t : Nat) (t2 : Nat) (kb : ClassId) (kc : ClassId) (zc : Int32) (h0 : Heap) (n0 : Nat) (Z0 : n0 ≤ h0.size) (E_x : Exa Z h0 x "java/lang/String") (E_x2 : Exa Z h0 x2 "java/lang/String") (Fc_x : Fld Z h0 x "java/lang/String" "coder" "B" (.int 0)) (Fv_x : Fld Z h0 x "java/lang/String" "value" "[B" (.ref t)) (V_t : Arv Z h0 t kb .byte (7 : Int32) [(.int 66), (.int 105), (.int 110), (.int 97), (.int 114), (.int 121), (.int 46)] (.int 0)) (Fc_x2 : Fld Z h0 x2 "java/lang/String" "coder" "B" (.int 0)) (Fv_x2 : Fld Z h0 x2 "java/lang/String" "value" "[B" (.ref t2)) (V_t2 : Arv Z h0 t2 kc .byte (7 : Int32) [(.int 66), (.int 105), (.int 110), (.int 97), (.int 114), (.int 121), (.int 46)] (.int 0)) (S_C : Sta Z h0 "java/lang/String" "COMPACT_STRINGS" "Z" (.int zc)) (hz : ¬ (zc = (0 : Int32))) :
    own_M l (⟨"java/lang/String", "startsWith", "(Ljava/lang/String;I)Z"⟩ : MethodName) jdk_42_method_75_code 8 (some .boolean) ws ({ frames := 2, cells := 0, slots := 0, locals := 27 } : Room) Z #[(.ref x), (.ref x2), (.int 0)] h0 (Q_stw2_b2 Z x x2 t t2 kb kc zc h0 n0) := by
  refine own_body (own := "java/lang/String") rfl (plainFor_of_name pn_8) (fun m => ef_stw2_b2 m x x2 (0 : Int32)) ?_
  intro p e s m below meth c s₁ Bd hml hZ hh hx hby hown X0 e0
  have N0 := Fr.nil n0
  have lt1 : h0.size > x := E_x.lt
  have lt3 : h0.size > x2 := E_x2.lt
  have lt4 : h0.size > t := V_t.lt
  have lt5 : h0.size > t2 := V_t2.lt
  refine own_iloadN X0.here hx hby d8_0 rfl ?_
  refine own_ifNo X0.here hx hby d8_1 ((if0 _ _).trans (flt (show ¬ ((0 : Int32) < (0 : Int32)) from (by decide))).1) ?_
  refine own_iloadN X0.here hx hby d8_4 rfl ?_
  refine own_aloadN X0.here hx hby d8_5 rfl rfl ?_
  refine own_virtual X0 hx hZ hown (own_w hw 57 rfl) (own_w hw 58 rfl) (notFace_of_selects (args := #[]) (mvT hZ (own_w hw 60 rfl))) (own_w hw 60 rfl) (own_w hw 59 rfl) (own_w hw 25 rfl) (own_w hw 61 rfl) (by decide) (strLen_7 l Z a0 hw [] x t kb zc ([(.int 66), (.int 105), (.int 110), (.int 97), (.int 114), (.int 121), (.int 46)]) h0 n0 Z0 E_x Fc_x Fv_x V_t S_C hz) 1 (Nat.le_of_eq rfl) (by decide) (by decide) (by rw [hml]; rfl) (argsL := []) (st := [(.int 0)]) E_x (lenOf pd_5 rfl) rfl rfl (by decide) (by decide) e0 hby d8_6 ?_
  intro T6 v6 L6 X6 hQ6
  obtain ⟨rfl, Nq6, eh6⟩ := hQ6
  have N6 := Fr.app N0 Nq6
  refine own_sh (T := T6) 9 #[.val (.ref x), .val (.ref x2), .val (.int 0), .unset, .unset, .unset, .unset, .unset] [(.int 7), (.int 0)] ?_
  refine own_aloadN X6.here hx hby d8_9 rfl rfl ?_
  refine own_virtual X6 hx hZ hown (own_w hw 57 rfl) (own_w hw 58 rfl) (notFace_of_selects (args := #[]) (mvT hZ (own_w hw 60 rfl))) (own_w hw 60 rfl) (own_w hw 59 rfl) (own_w hw 25 rfl) (own_w hw 61 rfl) (by decide) (strLen_7 l Z a0 hw [] x2 t2 kc zc ([(.int 66), (.int 105), (.int 110), (.int 97), (.int 114), (.int 121), (.int 46)]) h0 n0 Z0 E_x2 Fc_x2 Fv_x2 V_t2 S_C hz) 2 (Nat.le_of_eq rfl) (by decide) (by decide) (by rw [hml]; rfl) (argsL := []) (st := [(.int 7), (.int 0)]) E_x2 (lenOf pd_5 rfl) rfl rfl (by decide) (by decide) eh6 hby d8_10 ?_
  intro T7 v7 L7 X7 hQ7
  obtain ⟨rfl, Nq7, eh7⟩ := hQ7
  have N7 := Fr.app N6 Nq7
  refine own_sh (T := T7) 13 #[.val (.ref x), .val (.ref x2), .val (.int 0), .unset, .unset, .unset, .unset, .unset] [(.int 7), (.int 7), (.int 0)] ?_
  refine own_isub X7.here hx hby d8_13 (v := (0 : Int32)) (by decide) ?_
  refine own_icmpYes X7.here hx hby (pc' := 19) d8_14 (flt (show ¬ ((0 : Int32) < (0 : Int32)) from (by decide))).2.2.2 (by decide) (by decide) ?_
  refine own_aloadN X7.here hx hby d8_19 rfl rfl ?_
  refine own_getF X7 hx hZ hown (host := "") (Or.inl (own_w hw 41 rfl)) Via.refl eh7 Fv_x hby d8_20 ?_
  intro T8 X8 e8
  refine own_astoreN X8.here hx hby d8_23 rfl (l' := #[.val (.ref x), .val (.ref x2), .val (.int 0), .val (.ref t), .unset, .unset, .unset, .unset]) rfl ?_
  refine own_aloadN X8.here hx hby d8_24 rfl rfl ?_
  refine own_getF X8 hx hZ hown (host := "") (Or.inl (own_w hw 41 rfl)) Via.refl e8 Fv_x2 hby d8_25 ?_
  intro T9 X9 e9
  refine own_astore X9.here hx hby d8_28 rfl (l' := #[.val (.ref x), .val (.ref x2), .val (.int 0), .val (.ref t), .val (.ref t2), .unset, .unset, .unset]) rfl ?_
  refine own_iconst X9.here hx hby d8_30 (v := (0 : Int32)) (by decide) ?_
  refine own_istore X9.here hx hby d8_31 (l' := #[.val (.ref x), .val (.ref x2), .val (.int 0), .val (.ref t), .val (.ref t2), .val (.int 0), .unset, .unset]) rfl ?_
  refine own_aload X9.here hx hby d8_33 rfl rfl ?_
  refine own_alen X9 hx hZ e9 V_t2 hby d8_35 ?_
  refine own_istore X9.here hx hby d8_36 (l' := #[.val (.ref x), .val (.ref x2), .val (.int 0), .val (.ref t), .val (.ref t2), .val (.int 0), .val (.int 7), .unset]) rfl ?_
  refine own_aloadN X9.here hx hby d8_38 rfl rfl ?_
  refine own_virtual X9 hx hZ hown (own_w hw 62 rfl) (own_w hw 63 rfl) (notFace_of_selects (args := #[]) (mvT hZ (own_w hw 65 rfl))) (own_w hw 65 rfl) (own_w hw 64 rfl) (own_w hw 25 rfl) (own_w hw 66 rfl) (by decide) (strCoder l Z a0 hw [] x zc h0 n0 Z0 Fc_x S_C hz) 0 (Nat.le_of_eq rfl) (by decide) (by decide) (by rw [hml]; rfl) (argsL := []) (st := []) E_x (lenOf pd_4 rfl) rfl rfl (by decide) (by decide) e9 hby d8_39 ?_
  intro T10 v10 L10 X10 hQ10
  obtain ⟨rfl, Nq10, eh10⟩ := hQ10
  have N10 := Fr.app N7 Nq10
  refine own_sh (T := T10) 42 #[.val (.ref x), .val (.ref x2), .val (.int 0), .val (.ref t), .val (.ref t2), .val (.int 0), .val (.int 7), .unset] [(.int 0)] ?_
  refine own_istore X10.here hx hby d8_42 (l' := #[.val (.ref x), .val (.ref x2), .val (.int 0), .val (.ref t), .val (.ref t2), .val (.int 0), .val (.int 7), .val (.int 0)]) rfl ?_
  refine own_iload X10.here hx hby d8_44 rfl ?_
  refine own_aloadN X10.here hx hby d8_46 rfl rfl ?_
  refine own_virtual X10 hx hZ hown (own_w hw 62 rfl) (own_w hw 63 rfl) (notFace_of_selects (args := #[]) (mvT hZ (own_w hw 65 rfl))) (own_w hw 65 rfl) (own_w hw 64 rfl) (own_w hw 25 rfl) (own_w hw 66 rfl) (by decide) (strCoder l Z a0 hw [] x2 zc h0 n0 Z0 Fc_x2 S_C hz) 1 (Nat.le_of_eq rfl) (by decide) (by decide) (by rw [hml]; rfl) (argsL := []) (st := [(.int 0)]) E_x2 (lenOf pd_4 rfl) rfl rfl (by decide) (by decide) eh10 hby d8_47 ?_
  intro T11 v11 L11 X11 hQ11
  obtain ⟨rfl, Nq11, eh11⟩ := hQ11
  have N11 := Fr.app N10 Nq11
  refine own_sh (T := T11) 50 #[.val (.ref x), .val (.ref x2), .val (.int 0), .val (.ref t), .val (.ref t2), .val (.int 0), .val (.int 7), .val (.int 0)] [(.int 0), (.int 0)] ?_
  refine own_icmpNo X11.here hx hby d8_50 (teq (show (0 : Int32) = (0 : Int32) from (by decide))).2 ?_
  refine own_iload X11.here hx hby d8_53 rfl ?_
  refine own_iconst X11.here hx hby d8_55 (v := (1 : Int32)) (by decide) ?_
  refine own_icmpYes X11.here hx hby (pc' := 63) d8_56 (feq (show ¬ ((0 : Int32) = (1 : Int32)) from (by decide))).2 (by decide) (by decide) ?_
  refine own_aloadN X11.here hx hby d8_63 rfl rfl ?_
  refine own_iloadN X11.here hx hby d8_64 rfl ?_
  refine own_aload X11.here hx hby d8_65 rfl rfl ?_
  refine own_iconst X11.here hx hby d8_67 (v := (0 : Int32)) (by decide) ?_
  refine own_iload X11.here hx hby d8_68 rfl ?_
  refine own_callS X11 hx hZ hown (own_w hw 98 rfl) (own_w hw 99 rfl) (own_w hw 100 rfl) (own_w hw 101 rfl) (by decide) (mism_b2 l Z a0 hw [] t t2 kb kc h0 n0 Z0 V_t V_t2) 0 (Nat.le_of_eq rfl) (by decide) (by decide) (by rw [hml]; rfl) (argsL := [(.ref t), (.int 0), (.ref t2), (.int 0), (.int 7)]) (st := []) (lenOf pd_6 rfl) rfl rfl (by decide) (by decide) eh11 hby d8_70 ?_
  intro T12 v12 L12 X12 hQ12
  obtain ⟨rfl, Nq12, eh12⟩ := hQ12
  have N12 := Fr.app N11 Nq12
  refine own_sh (T := T12) 73 #[.val (.ref x), .val (.ref x2), .val (.int 0), .val (.ref t), .val (.ref t2), .val (.int 0), .val (.int 7), .val (.int 0)] [(.int (-1))] ?_
  refine own_ifNo X12.here hx hby d8_73 ((if0 _ _).trans (tlt (show (-1 : Int32) < (0 : Int32) from (by decide))).2.1) ?_
  refine own_iconst X12.here hx hby d8_76 (v := (1 : Int32)) (by decide) ?_
  refine own_goto X12.here hx hby (pc' := 81) d8_77 (by decide) (by decide) ?_
  obtain ⟨fs, hr, hrun, hended, hW, hsame⟩ := X12.leave (v := some (.int 1)) (fun h => by rw [Bd.returns] at h; cases h)
  refine own_ret (t := T12.setFrames fs) ?_ ⟨_, hrun, hended, _, _, rfl, ?_, ⟨_, rfl⟩, hW, hsame.mono (by decide) (by decide)⟩
  · exact retN X12 hx (t := .boolean) Bd.returns (by simp) (hb hby d8_81) hr
  · show Q_stw2_b2 Z _ _ _ _ _ _ _ h0 n0 _ T12.heap _
    rw [eh12]
    exact ⟨rfl, N12, rfl⟩
theorem ef_stw_b2 (m : MethodId) (x0 : Nat) (x1 : Nat) : entryFrame m #[(.ref x0), (.ref x1)] 2 = mkF m 0 #[.val (.ref x0), .val (.ref x1)] [] := by first | (simp [entryFrame, mkF, argsToLocals, Value.category]; done) | rfl
theorem pn_7 : plainName "java/lang/String" = true := by first | (simp [plainName, overriddenIn]; done) | decide +kernel
theorem d7_0 : decode jdk_42_method_76_code 0 = .ok (.aload_n 0, 1) := by decide +kernel
theorem d7_1 : decode jdk_42_method_76_code 1 = .ok (.aload_n 1, 1) := by decide +kernel
theorem d7_2 : decode jdk_42_method_76_code 2 = .ok (.iconst 0, 1) := by decide +kernel
theorem d7_3 : decode jdk_42_method_76_code 3 = .ok (.invokevirtual 624, 3) := by decide +kernel
theorem pd_7 : parseMethodDescriptor "(Ljava/lang/String;I)Z" = some ⟨[(.object "java/lang/String"), .int], some .boolean⟩ := by decide +kernel
theorem d7_6 : decode jdk_42_method_76_code 6 = .ok (.ireturn, 1) := by decide +kernel
def Q_stw_b2 (Z : State) (x : Nat) (x2 : Nat) (t : Nat) (t2 : Nat) (kb : ClassId) (kc : ClassId) (zc : Int32) (h0 : Heap) (n0 : Nat) (vR : Option Value) (hR : Heap) (LR : List Loc) : Prop := vR = some (.int 1) ∧ Fr n0 LR ∧ hR = h0
set_option maxRecDepth 65536 in
set_option maxHeartbeats 40000000 in
theorem stw_b2 (l : Launch) (Z : State) (a0 : Array Value) (hw : ∀ d ∈ tables_1, d.before a0 Z = true) (ws : List Jvm.Cond) (x : Nat) (x2 : Nat) (t : Nat) (t2 : Nat) (kb : ClassId) (kc : ClassId) (zc : Int32) (h0 : Heap) (n0 : Nat) (Z0 : n0 ≤ h0.size) (E_x : Exa Z h0 x "java/lang/String") (E_x2 : Exa Z h0 x2 "java/lang/String") (Fc_x : Fld Z h0 x "java/lang/String" "coder" "B" (.int 0)) (Fv_x : Fld Z h0 x "java/lang/String" "value" "[B" (.ref t)) (V_t : Arv Z h0 t kb .byte (7 : Int32) [(.int 66), (.int 105), (.int 110), (.int 97), (.int 114), (.int 121), (.int 46)] (.int 0)) (Fc_x2 : Fld Z h0 x2 "java/lang/String" "coder" "B" (.int 0)) (Fv_x2 : Fld Z h0 x2 "java/lang/String" "value" "[B" (.ref t2)) (V_t2 : Arv Z h0 t2 kc .byte (7 : Int32) [(.int 66), (.int 105), (.int 110), (.int 97), (.int 114), (.int 121), (.int 46)] (.int 0)) (S_C : Sta Z h0 "java/lang/String" "COMPACT_STRINGS" "Z" (.int zc)) (hz : ¬ (zc = (0 : Int32))) :
    own_M l (⟨"java/lang/String", "startsWith", "(Ljava/lang/String;)Z"⟩ : MethodName) jdk_42_method_76_code 2 (some .boolean) ws ({ frames := 3, cells := 0, slots := 0, locals := 46 } : Room) Z #[(.ref x), (.ref x2)] h0 (Q_stw_b2 Z x x2 t t2 kb kc zc h0 n0) := by
  refine own_body (own := "java/lang/String") rfl (plainFor_of_name pn_7) (fun m => ef_stw_b2 m x x2) ?_
  intro p e s m below meth c s₁ Bd hml hZ hh hx hby hown X0 e0
  have N0 := Fr.nil n0
  have lt1 : h0.size > x := E_x.lt
  have lt3 : h0.size > x2 := E_x2.lt
  have lt4 : h0.size > t := V_t.lt
  have lt5 : h0.size > t2 := V_t2.lt
  refine own_aloadN X0.here hx hby d7_0 rfl rfl ?_
  refine own_aloadN X0.here hx hby d7_1 rfl rfl ?_
  refine own_iconst X0.here hx hby d7_2 (v := (0 : Int32)) (by decide) ?_
  refine own_virtual X0 hx hZ hown (own_w hw 52 rfl) (own_w hw 53 rfl) (notFace_of_selects (args := #[]) (mvT hZ (own_w hw 55 rfl))) (own_w hw 55 rfl) (own_w hw 54 rfl) (own_w hw 25 rfl) (own_w hw 56 rfl) (by decide) (stw2_b2 l Z a0 hw [] x x2 t t2 kb kc zc h0 n0 Z0 E_x E_x2 Fc_x Fv_x V_t Fc_x2 Fv_x2 V_t2 S_C hz) 0 (Nat.le_of_eq rfl) (by decide) (by decide) (by rw [hml]; rfl) (argsL := [(.ref x2), (.int 0)]) (st := []) E_x (lenOf pd_7 rfl) rfl rfl (by decide) (by decide) e0 hby d7_3 ?_
  intro T6 v6 L6 X6 hQ6
  obtain ⟨rfl, Nq6, eh6⟩ := hQ6
  have N6 := Fr.app N0 Nq6
  refine own_sh (T := T6) 6 #[.val (.ref x), .val (.ref x2)] [(.int 1)] ?_
  obtain ⟨fs, hr, hrun, hended, hW, hsame⟩ := X6.leave (v := some (.int 1)) (fun h => by rw [Bd.returns] at h; cases h)
  refine own_ret (t := T6.setFrames fs) ?_ ⟨_, hrun, hended, _, _, rfl, ?_, ⟨_, rfl⟩, hW, hsame.mono (by decide) (by decide)⟩
  · exact retN X6 hx (t := .boolean) Bd.returns (by simp) (hb hby d7_6) hr
  · show Q_stw_b2 Z _ _ _ _ _ _ _ h0 n0 _ T6.heap _
    rw [eh6]
    exact ⟨rfl, N6, rfl⟩
def Q_strLen_8 (Z : State) (x : Nat) (t : Nat) (kb : ClassId) (zc : Int32) (vs_ : List Value) (h0 : Heap) (n0 : Nat) (vR : Option Value) (hR : Heap) (LR : List Loc) : Prop := vR = some (.int 8) ∧ Fr n0 LR ∧ hR = h0
set_option maxRecDepth 65536 in
set_option maxHeartbeats 40000000 in
theorem strLen_8 (l : Launch) (Z : State) (a0 : Array Value) (hw : ∀ d ∈ tables_1, d.before a0 Z = true) (ws : List Jvm.Cond) (x : Nat) (t : Nat) (kb : ClassId) (zc : Int32) (vs_ : List Value) (h0 : Heap) (n0 : Nat) (Z0 : n0 ≤ h0.size) (E_x : Exa Z h0 x "java/lang/String") (Fc_x : Fld Z h0 x "java/lang/String" "coder" "B" (.int 0)) (Fv_x : Fld Z h0 x "java/lang/String" "value" "[B" (.ref t)) (V_t : Arv Z h0 t kb .byte (8 : Int32) vs_ (.int 0)) (S_C : Sta Z h0 "java/lang/String" "COMPACT_STRINGS" "Z" (.int zc)) (hz : ¬ (zc = (0 : Int32))) :
    own_M l (⟨"java/lang/String", "length", "()I"⟩ : MethodName) jdk_42_method_54_code 1 (some .int) ws ({ frames := 1, cells := 0, slots := 0, locals := 13 } : Room) Z #[(.ref x)] h0 (Q_strLen_8 Z x t kb zc vs_ h0 n0) := by
  refine own_body (own := "java/lang/String") rfl (plainFor_of_name pn_9) (fun m => ef_strLen_7 m x) ?_
  intro p e s m below meth c s₁ Bd hml hZ hh hx hby hown X0 e0
  have N0 := Fr.nil n0
  have lt1 : h0.size > x := E_x.lt
  have lt2 : h0.size > t := V_t.lt
  refine own_aloadN X0.here hx hby d9_0 rfl rfl ?_
  refine own_getF X0 hx hZ hown (host := "") (Or.inl (own_w hw 41 rfl)) Via.refl e0 Fv_x hby d9_1 ?_
  intro T3 X3 e3
  refine own_alen X3 hx hZ e3 V_t hby d9_4 ?_
  refine own_aloadN X3.here hx hby d9_5 rfl rfl ?_
  refine own_virtual X3 hx hZ hown (own_w hw 62 rfl) (own_w hw 63 rfl) (notFace_of_selects (args := #[]) (mvT hZ (own_w hw 65 rfl))) (own_w hw 65 rfl) (own_w hw 64 rfl) (own_w hw 25 rfl) (own_w hw 66 rfl) (by decide) (strCoder l Z a0 hw [] x zc h0 n0 Z0 Fc_x S_C hz) 1 (Nat.le_of_eq rfl) (by decide) (by decide) (by rw [hml]; rfl) (argsL := []) (st := [(.int 8)]) E_x (lenOf pd_4 rfl) rfl rfl (by decide) (by decide) e3 hby d9_6 ?_
  intro T4 v4 L4 X4 hQ4
  obtain ⟨rfl, Nq4, eh4⟩ := hQ4
  have N4 := Fr.app N0 Nq4
  refine own_sh (T := T4) 9 #[.val (.ref x)] [(.int 0), (.int 8)] ?_
  refine own_ishr X4.here hx hby d9_9 (v := (8 : Int32)) (by decide) ?_
  obtain ⟨fs, hr, hrun, hended, hW, hsame⟩ := X4.leave (v := some (.int 8)) (fun h => by rw [Bd.returns] at h; cases h)
  refine own_ret (t := T4.setFrames fs) ?_ ⟨_, hrun, hended, _, _, rfl, ?_, ⟨_, rfl⟩, hW, hsame.mono (by decide) (by decide)⟩
  · exact retOut X4 hx Bd.returns rfl (Or.inl ⟨rfl, Or.inl rfl, _, rfl⟩) (hb hby d9_10) hr
  · show Q_strLen_8 Z _ _ _ _ _ h0 n0 _ T4.heap _
    rw [eh4]
    exact ⟨rfl, N4, rfl⟩
def Q_mism_b3 (Z : State) (t : Nat) (t2 : Nat) (kb : ClassId) (kc : ClassId) (u : Int32) (h0 : Heap) (n0 : Nat) (vR : Option Value) (hR : Heap) (LR : List Loc) : Prop := vR = some (.int (-1)) ∧ Fr n0 LR ∧ hR = h0
set_option maxRecDepth 65536 in
set_option maxHeartbeats 40000000 in
theorem mism_b3 (l : Launch) (Z : State) (a0 : Array Value) (hw : ∀ d ∈ tables_1, d.before a0 Z = true) (ws : List Jvm.Cond) (t : Nat) (t2 : Nat) (kb : ClassId) (kc : ClassId) (u : Int32) (h0 : Heap) (n0 : Nat) (Z0 : n0 ≤ h0.size) (V_t : Arv Z h0 t kb .byte (8 : Int32) [(.int 66), (.int 105), (.int 110), (.int 97), (.int 114), (.int 121), (.int 46), (.int u)] (.int 0)) (V_t2 : Arv Z h0 t2 kc .byte (7 : Int32) [(.int 66), (.int 105), (.int 110), (.int 97), (.int 114), (.int 121), (.int 46)] (.int 0)) :
    own_M l (⟨"jdk/internal/util/ArraysSupport", "mismatch", "([BI[BII)I"⟩ : MethodName) jdk_48_method_14_code 8 (some .int) ws ({ frames := 0, cells := 0, slots := 0, locals := 0 } : Room) Z #[(.ref t), (.int 0), (.ref t2), (.int 0), (.int 7)] h0 (Q_mism_b3 Z t t2 kb kc u h0 n0) := by
  refine own_body (own := "jdk/internal/util/ArraysSupport") rfl (plainFor_of_name pn_20) (fun m => ef_mism_b2 m t (0 : Int32) t2 (0 : Int32) (7 : Int32)) ?_
  intro p e s m below meth c s₁ Bd hml hZ hh hx hby hown X0 e0
  have N0 := Fr.nil n0
  have lt1 : h0.size > t := V_t.lt
  have lt3 : h0.size > t2 := V_t2.lt
  refine own_iconst X0.here hx hby d20_0 (v := (0 : Int32)) (by decide) ?_
  refine own_istore X0.here hx hby d20_1 (l' := #[.val (.ref t), .val (.int 0), .val (.ref t2), .val (.int 0), .val (.int 7), .val (.int 0), .unset, .unset]) rfl ?_
  refine own_iload X0.here hx hby d20_3 rfl ?_
  refine own_bipush X0.here hx hby d20_5 (v := (7 : Int32)) (by decide) ?_
  refine own_icmpYes X0.here hx hby (pc' := 70) d20_7 (flt (show ¬ ((7 : Int32) < (7 : Int32)) from (by decide))).2.2.2 (by decide) (by decide) ?_
  refine own_iload X0.here hx hby d20_70 rfl ?_
  refine own_iload X0.here hx hby d20_72 rfl ?_
  refine own_icmpNo X0.here hx hby d20_74 (tlt (show (0 : Int32) < (7 : Int32) from (by decide))).2.1 ?_
  refine own_aloadN X0.here hx hby d20_77 rfl rfl ?_
  refine own_iloadN X0.here hx hby d20_78 rfl ?_
  refine own_iload X0.here hx hby d20_79 rfl ?_
  refine own_iadd X0.here hx hby d20_81 (v := (0 : Int32)) (by decide) ?_
  refine own_baload X0 hx hZ e0 V_t ⟨by decide, by decide⟩ (v := (.int 66)) rfl hby d20_82 ?_
  refine own_aloadN X0.here hx hby d20_83 rfl rfl ?_
  refine own_iloadN X0.here hx hby d20_84 rfl ?_
  refine own_iload X0.here hx hby d20_85 rfl ?_
  refine own_iadd X0.here hx hby d20_87 (v := (0 : Int32)) (by decide) ?_
  refine own_baload X0 hx hZ e0 V_t2 ⟨by decide, by decide⟩ (v := (.int 66)) rfl hby d20_88 ?_
  refine own_icmpYes X0.here hx hby (pc' := 95) d20_89 (teq (show (66 : Int32) = (66 : Int32) from (by decide))).1 (by decide) (by decide) ?_
  refine own_iinc X0.here hx hby d20_95 rfl (v := (1 : Int32)) (by decide) (l' := #[.val (.ref t), .val (.int 0), .val (.ref t2), .val (.int 0), .val (.int 7), .val (.int 1), .unset, .unset]) rfl ?_
  refine own_goto X0.here hx hby (pc' := 70) d20_98 (by decide) (by decide) ?_
  refine own_iload X0.here hx hby d20_70 rfl ?_
  refine own_iload X0.here hx hby d20_72 rfl ?_
  refine own_icmpNo X0.here hx hby d20_74 (tlt (show (1 : Int32) < (7 : Int32) from (by decide))).2.1 ?_
  refine own_aloadN X0.here hx hby d20_77 rfl rfl ?_
  refine own_iloadN X0.here hx hby d20_78 rfl ?_
  refine own_iload X0.here hx hby d20_79 rfl ?_
  refine own_iadd X0.here hx hby d20_81 (v := (1 : Int32)) (by decide) ?_
  refine own_baload X0 hx hZ e0 V_t ⟨by decide, by decide⟩ (v := (.int 105)) rfl hby d20_82 ?_
  refine own_aloadN X0.here hx hby d20_83 rfl rfl ?_
  refine own_iloadN X0.here hx hby d20_84 rfl ?_
  refine own_iload X0.here hx hby d20_85 rfl ?_
  refine own_iadd X0.here hx hby d20_87 (v := (1 : Int32)) (by decide) ?_
  refine own_baload X0 hx hZ e0 V_t2 ⟨by decide, by decide⟩ (v := (.int 105)) rfl hby d20_88 ?_
  refine own_icmpYes X0.here hx hby (pc' := 95) d20_89 (teq (show (105 : Int32) = (105 : Int32) from (by decide))).1 (by decide) (by decide) ?_
  refine own_iinc X0.here hx hby d20_95 rfl (v := (2 : Int32)) (by decide) (l' := #[.val (.ref t), .val (.int 0), .val (.ref t2), .val (.int 0), .val (.int 7), .val (.int 2), .unset, .unset]) rfl ?_
  refine own_goto X0.here hx hby (pc' := 70) d20_98 (by decide) (by decide) ?_
  refine own_iload X0.here hx hby d20_70 rfl ?_
  refine own_iload X0.here hx hby d20_72 rfl ?_
  refine own_icmpNo X0.here hx hby d20_74 (tlt (show (2 : Int32) < (7 : Int32) from (by decide))).2.1 ?_
  refine own_aloadN X0.here hx hby d20_77 rfl rfl ?_
  refine own_iloadN X0.here hx hby d20_78 rfl ?_
  refine own_iload X0.here hx hby d20_79 rfl ?_
  refine own_iadd X0.here hx hby d20_81 (v := (2 : Int32)) (by decide) ?_
  refine own_baload X0 hx hZ e0 V_t ⟨by decide, by decide⟩ (v := (.int 110)) rfl hby d20_82 ?_
  refine own_aloadN X0.here hx hby d20_83 rfl rfl ?_
  refine own_iloadN X0.here hx hby d20_84 rfl ?_
  refine own_iload X0.here hx hby d20_85 rfl ?_
  refine own_iadd X0.here hx hby d20_87 (v := (2 : Int32)) (by decide) ?_
  refine own_baload X0 hx hZ e0 V_t2 ⟨by decide, by decide⟩ (v := (.int 110)) rfl hby d20_88 ?_
  refine own_icmpYes X0.here hx hby (pc' := 95) d20_89 (teq (show (110 : Int32) = (110 : Int32) from (by decide))).1 (by decide) (by decide) ?_
  refine own_iinc X0.here hx hby d20_95 rfl (v := (3 : Int32)) (by decide) (l' := #[.val (.ref t), .val (.int 0), .val (.ref t2), .val (.int 0), .val (.int 7), .val (.int 3), .unset, .unset]) rfl ?_
  refine own_goto X0.here hx hby (pc' := 70) d20_98 (by decide) (by decide) ?_
  refine own_iload X0.here hx hby d20_70 rfl ?_
  refine own_iload X0.here hx hby d20_72 rfl ?_
  refine own_icmpNo X0.here hx hby d20_74 (tlt (show (3 : Int32) < (7 : Int32) from (by decide))).2.1 ?_
  refine own_aloadN X0.here hx hby d20_77 rfl rfl ?_
  refine own_iloadN X0.here hx hby d20_78 rfl ?_
  refine own_iload X0.here hx hby d20_79 rfl ?_
  refine own_iadd X0.here hx hby d20_81 (v := (3 : Int32)) (by decide) ?_
  refine own_baload X0 hx hZ e0 V_t ⟨by decide, by decide⟩ (v := (.int 97)) rfl hby d20_82 ?_
  refine own_aloadN X0.here hx hby d20_83 rfl rfl ?_
  refine own_iloadN X0.here hx hby d20_84 rfl ?_
  refine own_iload X0.here hx hby d20_85 rfl ?_
  refine own_iadd X0.here hx hby d20_87 (v := (3 : Int32)) (by decide) ?_
  refine own_baload X0 hx hZ e0 V_t2 ⟨by decide, by decide⟩ (v := (.int 97)) rfl hby d20_88 ?_
  refine own_icmpYes X0.here hx hby (pc' := 95) d20_89 (teq (show (97 : Int32) = (97 : Int32) from (by decide))).1 (by decide) (by decide) ?_
  refine own_iinc X0.here hx hby d20_95 rfl (v := (4 : Int32)) (by decide) (l' := #[.val (.ref t), .val (.int 0), .val (.ref t2), .val (.int 0), .val (.int 7), .val (.int 4), .unset, .unset]) rfl ?_
  refine own_goto X0.here hx hby (pc' := 70) d20_98 (by decide) (by decide) ?_
  refine own_iload X0.here hx hby d20_70 rfl ?_
  refine own_iload X0.here hx hby d20_72 rfl ?_
  refine own_icmpNo X0.here hx hby d20_74 (tlt (show (4 : Int32) < (7 : Int32) from (by decide))).2.1 ?_
  refine own_aloadN X0.here hx hby d20_77 rfl rfl ?_
  refine own_iloadN X0.here hx hby d20_78 rfl ?_
  refine own_iload X0.here hx hby d20_79 rfl ?_
  refine own_iadd X0.here hx hby d20_81 (v := (4 : Int32)) (by decide) ?_
  refine own_baload X0 hx hZ e0 V_t ⟨by decide, by decide⟩ (v := (.int 114)) rfl hby d20_82 ?_
  refine own_aloadN X0.here hx hby d20_83 rfl rfl ?_
  refine own_iloadN X0.here hx hby d20_84 rfl ?_
  refine own_iload X0.here hx hby d20_85 rfl ?_
  refine own_iadd X0.here hx hby d20_87 (v := (4 : Int32)) (by decide) ?_
  refine own_baload X0 hx hZ e0 V_t2 ⟨by decide, by decide⟩ (v := (.int 114)) rfl hby d20_88 ?_
  refine own_icmpYes X0.here hx hby (pc' := 95) d20_89 (teq (show (114 : Int32) = (114 : Int32) from (by decide))).1 (by decide) (by decide) ?_
  refine own_iinc X0.here hx hby d20_95 rfl (v := (5 : Int32)) (by decide) (l' := #[.val (.ref t), .val (.int 0), .val (.ref t2), .val (.int 0), .val (.int 7), .val (.int 5), .unset, .unset]) rfl ?_
  refine own_goto X0.here hx hby (pc' := 70) d20_98 (by decide) (by decide) ?_
  refine own_iload X0.here hx hby d20_70 rfl ?_
  refine own_iload X0.here hx hby d20_72 rfl ?_
  refine own_icmpNo X0.here hx hby d20_74 (tlt (show (5 : Int32) < (7 : Int32) from (by decide))).2.1 ?_
  refine own_aloadN X0.here hx hby d20_77 rfl rfl ?_
  refine own_iloadN X0.here hx hby d20_78 rfl ?_
  refine own_iload X0.here hx hby d20_79 rfl ?_
  refine own_iadd X0.here hx hby d20_81 (v := (5 : Int32)) (by decide) ?_
  refine own_baload X0 hx hZ e0 V_t ⟨by decide, by decide⟩ (v := (.int 121)) rfl hby d20_82 ?_
  refine own_aloadN X0.here hx hby d20_83 rfl rfl ?_
  refine own_iloadN X0.here hx hby d20_84 rfl ?_
  refine own_iload X0.here hx hby d20_85 rfl ?_
  refine own_iadd X0.here hx hby d20_87 (v := (5 : Int32)) (by decide) ?_
  refine own_baload X0 hx hZ e0 V_t2 ⟨by decide, by decide⟩ (v := (.int 121)) rfl hby d20_88 ?_
  refine own_icmpYes X0.here hx hby (pc' := 95) d20_89 (teq (show (121 : Int32) = (121 : Int32) from (by decide))).1 (by decide) (by decide) ?_
  refine own_iinc X0.here hx hby d20_95 rfl (v := (6 : Int32)) (by decide) (l' := #[.val (.ref t), .val (.int 0), .val (.ref t2), .val (.int 0), .val (.int 7), .val (.int 6), .unset, .unset]) rfl ?_
  refine own_goto X0.here hx hby (pc' := 70) d20_98 (by decide) (by decide) ?_
  refine own_iload X0.here hx hby d20_70 rfl ?_
  refine own_iload X0.here hx hby d20_72 rfl ?_
  refine own_icmpNo X0.here hx hby d20_74 (tlt (show (6 : Int32) < (7 : Int32) from (by decide))).2.1 ?_
  refine own_aloadN X0.here hx hby d20_77 rfl rfl ?_
  refine own_iloadN X0.here hx hby d20_78 rfl ?_
  refine own_iload X0.here hx hby d20_79 rfl ?_
  refine own_iadd X0.here hx hby d20_81 (v := (6 : Int32)) (by decide) ?_
  refine own_baload X0 hx hZ e0 V_t ⟨by decide, by decide⟩ (v := (.int 46)) rfl hby d20_82 ?_
  refine own_aloadN X0.here hx hby d20_83 rfl rfl ?_
  refine own_iloadN X0.here hx hby d20_84 rfl ?_
  refine own_iload X0.here hx hby d20_85 rfl ?_
  refine own_iadd X0.here hx hby d20_87 (v := (6 : Int32)) (by decide) ?_
  refine own_baload X0 hx hZ e0 V_t2 ⟨by decide, by decide⟩ (v := (.int 46)) rfl hby d20_88 ?_
  refine own_icmpYes X0.here hx hby (pc' := 95) d20_89 (teq (show (46 : Int32) = (46 : Int32) from (by decide))).1 (by decide) (by decide) ?_
  refine own_iinc X0.here hx hby d20_95 rfl (v := (7 : Int32)) (by decide) (l' := #[.val (.ref t), .val (.int 0), .val (.ref t2), .val (.int 0), .val (.int 7), .val (.int 7), .unset, .unset]) rfl ?_
  refine own_goto X0.here hx hby (pc' := 70) d20_98 (by decide) (by decide) ?_
  refine own_iload X0.here hx hby d20_70 rfl ?_
  refine own_iload X0.here hx hby d20_72 rfl ?_
  refine own_icmpYes X0.here hx hby (pc' := 101) d20_74 (flt (show ¬ ((7 : Int32) < (7 : Int32)) from (by decide))).2.1 (by decide) (by decide) ?_
  refine own_iconst X0.here hx hby d20_101 (v := (-1 : Int32)) (by decide) ?_
  obtain ⟨fs, hr, hrun, hended, hW, hsame⟩ := X0.leave (v := some (.int (-1))) (fun h => by rw [Bd.returns] at h; cases h)
  refine own_ret (t := s₁.setFrames fs) ?_ ⟨_, hrun, hended, _, _, rfl, ?_, ⟨_, rfl⟩, hW, hsame.mono (by decide) (by decide)⟩
  · exact retOut X0 hx Bd.returns rfl (Or.inl ⟨rfl, Or.inl rfl, _, rfl⟩) (hb hby d20_102) hr
  · show Q_mism_b3 Z _ _ _ _ _ h0 n0 _ s₁.heap _
    rw [e0]
    exact ⟨rfl, N0, rfl⟩
def Q_stw2_b3 (Z : State) (x : Nat) (x2 : Nat) (t : Nat) (t2 : Nat) (kb : ClassId) (kc : ClassId) (zc : Int32) (u : Int32) (h0 : Heap) (n0 : Nat) (vR : Option Value) (hR : Heap) (LR : List Loc) : Prop := vR = some (.int 1) ∧ Fr n0 LR ∧ hR = h0
set_option maxRecDepth 65536 in
set_option maxHeartbeats 40000000 in
theorem stw2_b3 (l : Launch) (Z : State) (a0 : Array Value) (hw : ∀ d ∈ tables_1, d.before a0 Z = true) (ws : List Jvm.Cond) (x : Nat) (x2 : Nat) (t : Nat) (t2 : Nat) (kb : ClassId) (kc : ClassId) (zc : Int32) (u : Int32) (h0 : Heap) (n0 : Nat) (Z0 : n0 ≤ h0.size) (E_x : Exa Z h0 x "java/lang/String") (E_x2 : Exa Z h0 x2 "java/lang/String") (Fc_x : Fld Z h0 x "java/lang/String" "coder" "B" (.int 0)) (Fv_x : Fld Z h0 x "java/lang/String" "value" "[B" (.ref t)) (V_t : Arv Z h0 t kb .byte (8 : Int32) [(.int 66), (.int 105), (.int 110), (.int 97), (.int 114), (.int 121), (.int 46), (.int u)] (.int 0)) (Fc_x2 : Fld Z h0 x2 "java/lang/String" "coder" "B" (.int 0)) (Fv_x2 : Fld Z h0 x2 "java/lang/String" "value" "[B" (.ref t2)) (V_t2 : Arv Z h0 t2 kc .byte (7 : Int32) [(.int 66), (.int 105), (.int 110), (.int 97), (.int 114), (.int 121), (.int 46)] (.int 0)) (S_C : Sta Z h0 "java/lang/String" "COMPACT_STRINGS" "Z" (.int zc)) (hz : ¬ (zc = (0 : Int32))) :
    own_M l (⟨"java/lang/String", "startsWith", "(Ljava/lang/String;I)Z"⟩ : MethodName) jdk_42_method_75_code 8 (some .boolean) ws ({ frames := 2, cells := 0, slots := 0, locals := 27 } : Room) Z #[(.ref x), (.ref x2), (.int 0)] h0 (Q_stw2_b3 Z x x2 t t2 kb kc zc u h0 n0) := by
  refine own_body (own := "java/lang/String") rfl (plainFor_of_name pn_8) (fun m => ef_stw2_b2 m x x2 (0 : Int32)) ?_
  intro p e s m below meth c s₁ Bd hml hZ hh hx hby hown X0 e0
  have N0 := Fr.nil n0
  have lt1 : h0.size > x := E_x.lt
  have lt3 : h0.size > x2 := E_x2.lt
  have lt4 : h0.size > t := V_t.lt
  have lt5 : h0.size > t2 := V_t2.lt
  refine own_iloadN X0.here hx hby d8_0 rfl ?_
  refine own_ifNo X0.here hx hby d8_1 ((if0 _ _).trans (flt (show ¬ ((0 : Int32) < (0 : Int32)) from (by decide))).1) ?_
  refine own_iloadN X0.here hx hby d8_4 rfl ?_
  refine own_aloadN X0.here hx hby d8_5 rfl rfl ?_
  refine own_virtual X0 hx hZ hown (own_w hw 57 rfl) (own_w hw 58 rfl) (notFace_of_selects (args := #[]) (mvT hZ (own_w hw 60 rfl))) (own_w hw 60 rfl) (own_w hw 59 rfl) (own_w hw 25 rfl) (own_w hw 61 rfl) (by decide) (strLen_8 l Z a0 hw [] x t kb zc ([(.int 66), (.int 105), (.int 110), (.int 97), (.int 114), (.int 121), (.int 46), (.int u)]) h0 n0 Z0 E_x Fc_x Fv_x V_t S_C hz) 1 (Nat.le_of_eq rfl) (by decide) (by decide) (by rw [hml]; rfl) (argsL := []) (st := [(.int 0)]) E_x (lenOf pd_5 rfl) rfl rfl (by decide) (by decide) e0 hby d8_6 ?_
  intro T6 v6 L6 X6 hQ6
  obtain ⟨rfl, Nq6, eh6⟩ := hQ6
  have N6 := Fr.app N0 Nq6
  refine own_sh (T := T6) 9 #[.val (.ref x), .val (.ref x2), .val (.int 0), .unset, .unset, .unset, .unset, .unset] [(.int 8), (.int 0)] ?_
  refine own_aloadN X6.here hx hby d8_9 rfl rfl ?_
  refine own_virtual X6 hx hZ hown (own_w hw 57 rfl) (own_w hw 58 rfl) (notFace_of_selects (args := #[]) (mvT hZ (own_w hw 60 rfl))) (own_w hw 60 rfl) (own_w hw 59 rfl) (own_w hw 25 rfl) (own_w hw 61 rfl) (by decide) (strLen_7 l Z a0 hw [] x2 t2 kc zc ([(.int 66), (.int 105), (.int 110), (.int 97), (.int 114), (.int 121), (.int 46)]) h0 n0 Z0 E_x2 Fc_x2 Fv_x2 V_t2 S_C hz) 2 (Nat.le_of_eq rfl) (by decide) (by decide) (by rw [hml]; rfl) (argsL := []) (st := [(.int 8), (.int 0)]) E_x2 (lenOf pd_5 rfl) rfl rfl (by decide) (by decide) eh6 hby d8_10 ?_
  intro T7 v7 L7 X7 hQ7
  obtain ⟨rfl, Nq7, eh7⟩ := hQ7
  have N7 := Fr.app N6 Nq7
  refine own_sh (T := T7) 13 #[.val (.ref x), .val (.ref x2), .val (.int 0), .unset, .unset, .unset, .unset, .unset] [(.int 7), (.int 8), (.int 0)] ?_
  refine own_isub X7.here hx hby d8_13 (v := (1 : Int32)) (by decide) ?_
  refine own_icmpYes X7.here hx hby (pc' := 19) d8_14 (flt (show ¬ ((1 : Int32) < (0 : Int32)) from (by decide))).2.2.2 (by decide) (by decide) ?_
  refine own_aloadN X7.here hx hby d8_19 rfl rfl ?_
  refine own_getF X7 hx hZ hown (host := "") (Or.inl (own_w hw 41 rfl)) Via.refl eh7 Fv_x hby d8_20 ?_
  intro T8 X8 e8
  refine own_astoreN X8.here hx hby d8_23 rfl (l' := #[.val (.ref x), .val (.ref x2), .val (.int 0), .val (.ref t), .unset, .unset, .unset, .unset]) rfl ?_
  refine own_aloadN X8.here hx hby d8_24 rfl rfl ?_
  refine own_getF X8 hx hZ hown (host := "") (Or.inl (own_w hw 41 rfl)) Via.refl e8 Fv_x2 hby d8_25 ?_
  intro T9 X9 e9
  refine own_astore X9.here hx hby d8_28 rfl (l' := #[.val (.ref x), .val (.ref x2), .val (.int 0), .val (.ref t), .val (.ref t2), .unset, .unset, .unset]) rfl ?_
  refine own_iconst X9.here hx hby d8_30 (v := (0 : Int32)) (by decide) ?_
  refine own_istore X9.here hx hby d8_31 (l' := #[.val (.ref x), .val (.ref x2), .val (.int 0), .val (.ref t), .val (.ref t2), .val (.int 0), .unset, .unset]) rfl ?_
  refine own_aload X9.here hx hby d8_33 rfl rfl ?_
  refine own_alen X9 hx hZ e9 V_t2 hby d8_35 ?_
  refine own_istore X9.here hx hby d8_36 (l' := #[.val (.ref x), .val (.ref x2), .val (.int 0), .val (.ref t), .val (.ref t2), .val (.int 0), .val (.int 7), .unset]) rfl ?_
  refine own_aloadN X9.here hx hby d8_38 rfl rfl ?_
  refine own_virtual X9 hx hZ hown (own_w hw 62 rfl) (own_w hw 63 rfl) (notFace_of_selects (args := #[]) (mvT hZ (own_w hw 65 rfl))) (own_w hw 65 rfl) (own_w hw 64 rfl) (own_w hw 25 rfl) (own_w hw 66 rfl) (by decide) (strCoder l Z a0 hw [] x zc h0 n0 Z0 Fc_x S_C hz) 0 (Nat.le_of_eq rfl) (by decide) (by decide) (by rw [hml]; rfl) (argsL := []) (st := []) E_x (lenOf pd_4 rfl) rfl rfl (by decide) (by decide) e9 hby d8_39 ?_
  intro T10 v10 L10 X10 hQ10
  obtain ⟨rfl, Nq10, eh10⟩ := hQ10
  have N10 := Fr.app N7 Nq10
  refine own_sh (T := T10) 42 #[.val (.ref x), .val (.ref x2), .val (.int 0), .val (.ref t), .val (.ref t2), .val (.int 0), .val (.int 7), .unset] [(.int 0)] ?_
  refine own_istore X10.here hx hby d8_42 (l' := #[.val (.ref x), .val (.ref x2), .val (.int 0), .val (.ref t), .val (.ref t2), .val (.int 0), .val (.int 7), .val (.int 0)]) rfl ?_
  refine own_iload X10.here hx hby d8_44 rfl ?_
  refine own_aloadN X10.here hx hby d8_46 rfl rfl ?_
  refine own_virtual X10 hx hZ hown (own_w hw 62 rfl) (own_w hw 63 rfl) (notFace_of_selects (args := #[]) (mvT hZ (own_w hw 65 rfl))) (own_w hw 65 rfl) (own_w hw 64 rfl) (own_w hw 25 rfl) (own_w hw 66 rfl) (by decide) (strCoder l Z a0 hw [] x2 zc h0 n0 Z0 Fc_x2 S_C hz) 1 (Nat.le_of_eq rfl) (by decide) (by decide) (by rw [hml]; rfl) (argsL := []) (st := [(.int 0)]) E_x2 (lenOf pd_4 rfl) rfl rfl (by decide) (by decide) eh10 hby d8_47 ?_
  intro T11 v11 L11 X11 hQ11
  obtain ⟨rfl, Nq11, eh11⟩ := hQ11
  have N11 := Fr.app N10 Nq11
  refine own_sh (T := T11) 50 #[.val (.ref x), .val (.ref x2), .val (.int 0), .val (.ref t), .val (.ref t2), .val (.int 0), .val (.int 7), .val (.int 0)] [(.int 0), (.int 0)] ?_
  refine own_icmpNo X11.here hx hby d8_50 (teq (show (0 : Int32) = (0 : Int32) from (by decide))).2 ?_
  refine own_iload X11.here hx hby d8_53 rfl ?_
  refine own_iconst X11.here hx hby d8_55 (v := (1 : Int32)) (by decide) ?_
  refine own_icmpYes X11.here hx hby (pc' := 63) d8_56 (feq (show ¬ ((0 : Int32) = (1 : Int32)) from (by decide))).2 (by decide) (by decide) ?_
  refine own_aloadN X11.here hx hby d8_63 rfl rfl ?_
  refine own_iloadN X11.here hx hby d8_64 rfl ?_
  refine own_aload X11.here hx hby d8_65 rfl rfl ?_
  refine own_iconst X11.here hx hby d8_67 (v := (0 : Int32)) (by decide) ?_
  refine own_iload X11.here hx hby d8_68 rfl ?_
  refine own_callS X11 hx hZ hown (own_w hw 98 rfl) (own_w hw 99 rfl) (own_w hw 100 rfl) (own_w hw 101 rfl) (by decide) (mism_b3 l Z a0 hw [] t t2 kb kc u h0 n0 Z0 V_t V_t2) 0 (Nat.le_of_eq rfl) (by decide) (by decide) (by rw [hml]; rfl) (argsL := [(.ref t), (.int 0), (.ref t2), (.int 0), (.int 7)]) (st := []) (lenOf pd_6 rfl) rfl rfl (by decide) (by decide) eh11 hby d8_70 ?_
  intro T12 v12 L12 X12 hQ12
  obtain ⟨rfl, Nq12, eh12⟩ := hQ12
  have N12 := Fr.app N11 Nq12
  refine own_sh (T := T12) 73 #[.val (.ref x), .val (.ref x2), .val (.int 0), .val (.ref t), .val (.ref t2), .val (.int 0), .val (.int 7), .val (.int 0)] [(.int (-1))] ?_
  refine own_ifNo X12.here hx hby d8_73 ((if0 _ _).trans (tlt (show (-1 : Int32) < (0 : Int32) from (by decide))).2.1) ?_
  refine own_iconst X12.here hx hby d8_76 (v := (1 : Int32)) (by decide) ?_
  refine own_goto X12.here hx hby (pc' := 81) d8_77 (by decide) (by decide) ?_
  obtain ⟨fs, hr, hrun, hended, hW, hsame⟩ := X12.leave (v := some (.int 1)) (fun h => by rw [Bd.returns] at h; cases h)
  refine own_ret (t := T12.setFrames fs) ?_ ⟨_, hrun, hended, _, _, rfl, ?_, ⟨_, rfl⟩, hW, hsame.mono (by decide) (by decide)⟩
  · exact retN X12 hx (t := .boolean) Bd.returns (by simp) (hb hby d8_81) hr
  · show Q_stw2_b3 Z _ _ _ _ _ _ _ _ h0 n0 _ T12.heap _
    rw [eh12]
    exact ⟨rfl, N12, rfl⟩
def Q_stw_b3 (Z : State) (x : Nat) (x2 : Nat) (t : Nat) (t2 : Nat) (kb : ClassId) (kc : ClassId) (zc : Int32) (u : Int32) (h0 : Heap) (n0 : Nat) (vR : Option Value) (hR : Heap) (LR : List Loc) : Prop := vR = some (.int 1) ∧ Fr n0 LR ∧ hR = h0
set_option maxRecDepth 65536 in
set_option maxHeartbeats 40000000 in
theorem stw_b3 (l : Launch) (Z : State) (a0 : Array Value) (hw : ∀ d ∈ tables_1, d.before a0 Z = true) (ws : List Jvm.Cond) (x : Nat) (x2 : Nat) (t : Nat) (t2 : Nat) (kb : ClassId) (kc : ClassId) (zc : Int32) (u : Int32) (h0 : Heap) (n0 : Nat) (Z0 : n0 ≤ h0.size) (E_x : Exa Z h0 x "java/lang/String") (E_x2 : Exa Z h0 x2 "java/lang/String") (Fc_x : Fld Z h0 x "java/lang/String" "coder" "B" (.int 0)) (Fv_x : Fld Z h0 x "java/lang/String" "value" "[B" (.ref t)) (V_t : Arv Z h0 t kb .byte (8 : Int32) [(.int 66), (.int 105), (.int 110), (.int 97), (.int 114), (.int 121), (.int 46), (.int u)] (.int 0)) (Fc_x2 : Fld Z h0 x2 "java/lang/String" "coder" "B" (.int 0)) (Fv_x2 : Fld Z h0 x2 "java/lang/String" "value" "[B" (.ref t2)) (V_t2 : Arv Z h0 t2 kc .byte (7 : Int32) [(.int 66), (.int 105), (.int 110), (.int 97), (.int 114), (.int 121), (.int 46)] (.int 0)) (S_C : Sta Z h0 "java/lang/String" "COMPACT_STRINGS" "Z" (.int zc)) (hz : ¬ (zc = (0 : Int32))) :
    own_M l (⟨"java/lang/String", "startsWith", "(Ljava/lang/String;)Z"⟩ : MethodName) jdk_42_method_76_code 2 (some .boolean) ws ({ frames := 3, cells := 0, slots := 0, locals := 46 } : Room) Z #[(.ref x), (.ref x2)] h0 (Q_stw_b3 Z x x2 t t2 kb kc zc u h0 n0) := by
  refine own_body (own := "java/lang/String") rfl (plainFor_of_name pn_7) (fun m => ef_stw_b2 m x x2) ?_
  intro p e s m below meth c s₁ Bd hml hZ hh hx hby hown X0 e0
  have N0 := Fr.nil n0
  have lt1 : h0.size > x := E_x.lt
  have lt3 : h0.size > x2 := E_x2.lt
  have lt4 : h0.size > t := V_t.lt
  have lt5 : h0.size > t2 := V_t2.lt
  refine own_aloadN X0.here hx hby d7_0 rfl rfl ?_
  refine own_aloadN X0.here hx hby d7_1 rfl rfl ?_
  refine own_iconst X0.here hx hby d7_2 (v := (0 : Int32)) (by decide) ?_
  refine own_virtual X0 hx hZ hown (own_w hw 52 rfl) (own_w hw 53 rfl) (notFace_of_selects (args := #[]) (mvT hZ (own_w hw 55 rfl))) (own_w hw 55 rfl) (own_w hw 54 rfl) (own_w hw 25 rfl) (own_w hw 56 rfl) (by decide) (stw2_b3 l Z a0 hw [] x x2 t t2 kb kc zc u h0 n0 Z0 E_x E_x2 Fc_x Fv_x V_t Fc_x2 Fv_x2 V_t2 S_C hz) 0 (Nat.le_of_eq rfl) (by decide) (by decide) (by rw [hml]; rfl) (argsL := [(.ref x2), (.int 0)]) (st := []) E_x (lenOf pd_7 rfl) rfl rfl (by decide) (by decide) e0 hby d7_3 ?_
  intro T6 v6 L6 X6 hQ6
  obtain ⟨rfl, Nq6, eh6⟩ := hQ6
  have N6 := Fr.app N0 Nq6
  refine own_sh (T := T6) 6 #[.val (.ref x), .val (.ref x2)] [(.int 1)] ?_
  obtain ⟨fs, hr, hrun, hended, hW, hsame⟩ := X6.leave (v := some (.int 1)) (fun h => by rw [Bd.returns] at h; cases h)
  refine own_ret (t := T6.setFrames fs) ?_ ⟨_, hrun, hended, _, _, rfl, ?_, ⟨_, rfl⟩, hW, hsame.mono (by decide) (by decide)⟩
  · exact retN X6 hx (t := .boolean) Bd.returns (by simp) (hb hby d7_6) hr
  · show Q_stw_b3 Z _ _ _ _ _ _ _ _ h0 n0 _ T6.heap _
    rw [eh6]
    exact ⟨rfl, N6, rfl⟩
theorem d20_92 : decode jdk_48_method_14_code 92 = .ok (.iload 5, 2) := by decide +kernel
theorem d20_94 : decode jdk_48_method_14_code 94 = .ok (.ireturn, 1) := by decide +kernel
def Q_mism_n1 (Z : State) (t : Nat) (t2 : Nat) (kb : ClassId) (kc : ClassId) (u : Int32) (h0 : Heap) (n0 : Nat) (vR : Option Value) (hR : Heap) (LR : List Loc) : Prop := vR = some (.int 6) ∧ Fr n0 LR ∧ hR = h0
set_option maxRecDepth 65536 in
set_option maxHeartbeats 40000000 in
theorem mism_n1 (l : Launch) (Z : State) (a0 : Array Value) (hw : ∀ d ∈ tables_1, d.before a0 Z = true) (ws : List Jvm.Cond) (t : Nat) (t2 : Nat) (kb : ClassId) (kc : ClassId) (u : Int32) (h0 : Heap) (n0 : Nat) (Z0 : n0 ≤ h0.size) (V_t : Arv Z h0 t kb .byte (7 : Int32) [(.int 66), (.int 105), (.int 110), (.int 97), (.int 114), (.int 121), (.int u)] (.int 0)) (V_t2 : Arv Z h0 t2 kc .byte (7 : Int32) [(.int 66), (.int 105), (.int 110), (.int 97), (.int 114), (.int 121), (.int 46)] (.int 0)) (hu : ¬ (u = (46 : Int32))) :
    own_M l (⟨"jdk/internal/util/ArraysSupport", "mismatch", "([BI[BII)I"⟩ : MethodName) jdk_48_method_14_code 8 (some .int) ws ({ frames := 0, cells := 0, slots := 0, locals := 0 } : Room) Z #[(.ref t), (.int 0), (.ref t2), (.int 0), (.int 7)] h0 (Q_mism_n1 Z t t2 kb kc u h0 n0) := by
  refine own_body (own := "jdk/internal/util/ArraysSupport") rfl (plainFor_of_name pn_20) (fun m => ef_mism_b2 m t (0 : Int32) t2 (0 : Int32) (7 : Int32)) ?_
  intro p e s m below meth c s₁ Bd hml hZ hh hx hby hown X0 e0
  have N0 := Fr.nil n0
  have lt1 : h0.size > t := V_t.lt
  have lt3 : h0.size > t2 := V_t2.lt
  refine own_iconst X0.here hx hby d20_0 (v := (0 : Int32)) (by decide) ?_
  refine own_istore X0.here hx hby d20_1 (l' := #[.val (.ref t), .val (.int 0), .val (.ref t2), .val (.int 0), .val (.int 7), .val (.int 0), .unset, .unset]) rfl ?_
  refine own_iload X0.here hx hby d20_3 rfl ?_
  refine own_bipush X0.here hx hby d20_5 (v := (7 : Int32)) (by decide) ?_
  refine own_icmpYes X0.here hx hby (pc' := 70) d20_7 (flt (show ¬ ((7 : Int32) < (7 : Int32)) from (by decide))).2.2.2 (by decide) (by decide) ?_
  refine own_iload X0.here hx hby d20_70 rfl ?_
  refine own_iload X0.here hx hby d20_72 rfl ?_
  refine own_icmpNo X0.here hx hby d20_74 (tlt (show (0 : Int32) < (7 : Int32) from (by decide))).2.1 ?_
  refine own_aloadN X0.here hx hby d20_77 rfl rfl ?_
  refine own_iloadN X0.here hx hby d20_78 rfl ?_
  refine own_iload X0.here hx hby d20_79 rfl ?_
  refine own_iadd X0.here hx hby d20_81 (v := (0 : Int32)) (by decide) ?_
  refine own_baload X0 hx hZ e0 V_t ⟨by decide, by decide⟩ (v := (.int 66)) rfl hby d20_82 ?_
  refine own_aloadN X0.here hx hby d20_83 rfl rfl ?_
  refine own_iloadN X0.here hx hby d20_84 rfl ?_
  refine own_iload X0.here hx hby d20_85 rfl ?_
  refine own_iadd X0.here hx hby d20_87 (v := (0 : Int32)) (by decide) ?_
  refine own_baload X0 hx hZ e0 V_t2 ⟨by decide, by decide⟩ (v := (.int 66)) rfl hby d20_88 ?_
  refine own_icmpYes X0.here hx hby (pc' := 95) d20_89 (teq (show (66 : Int32) = (66 : Int32) from (by decide))).1 (by decide) (by decide) ?_
  refine own_iinc X0.here hx hby d20_95 rfl (v := (1 : Int32)) (by decide) (l' := #[.val (.ref t), .val (.int 0), .val (.ref t2), .val (.int 0), .val (.int 7), .val (.int 1), .unset, .unset]) rfl ?_
  refine own_goto X0.here hx hby (pc' := 70) d20_98 (by decide) (by decide) ?_
  refine own_iload X0.here hx hby d20_70 rfl ?_
  refine own_iload X0.here hx hby d20_72 rfl ?_
  refine own_icmpNo X0.here hx hby d20_74 (tlt (show (1 : Int32) < (7 : Int32) from (by decide))).2.1 ?_
  refine own_aloadN X0.here hx hby d20_77 rfl rfl ?_
  refine own_iloadN X0.here hx hby d20_78 rfl ?_
  refine own_iload X0.here hx hby d20_79 rfl ?_
  refine own_iadd X0.here hx hby d20_81 (v := (1 : Int32)) (by decide) ?_
  refine own_baload X0 hx hZ e0 V_t ⟨by decide, by decide⟩ (v := (.int 105)) rfl hby d20_82 ?_
  refine own_aloadN X0.here hx hby d20_83 rfl rfl ?_
  refine own_iloadN X0.here hx hby d20_84 rfl ?_
  refine own_iload X0.here hx hby d20_85 rfl ?_
  refine own_iadd X0.here hx hby d20_87 (v := (1 : Int32)) (by decide) ?_
  refine own_baload X0 hx hZ e0 V_t2 ⟨by decide, by decide⟩ (v := (.int 105)) rfl hby d20_88 ?_
  refine own_icmpYes X0.here hx hby (pc' := 95) d20_89 (teq (show (105 : Int32) = (105 : Int32) from (by decide))).1 (by decide) (by decide) ?_
  refine own_iinc X0.here hx hby d20_95 rfl (v := (2 : Int32)) (by decide) (l' := #[.val (.ref t), .val (.int 0), .val (.ref t2), .val (.int 0), .val (.int 7), .val (.int 2), .unset, .unset]) rfl ?_
  refine own_goto X0.here hx hby (pc' := 70) d20_98 (by decide) (by decide) ?_
  refine own_iload X0.here hx hby d20_70 rfl ?_
  refine own_iload X0.here hx hby d20_72 rfl ?_
  refine own_icmpNo X0.here hx hby d20_74 (tlt (show (2 : Int32) < (7 : Int32) from (by decide))).2.1 ?_
  refine own_aloadN X0.here hx hby d20_77 rfl rfl ?_
  refine own_iloadN X0.here hx hby d20_78 rfl ?_
  refine own_iload X0.here hx hby d20_79 rfl ?_
  refine own_iadd X0.here hx hby d20_81 (v := (2 : Int32)) (by decide) ?_
  refine own_baload X0 hx hZ e0 V_t ⟨by decide, by decide⟩ (v := (.int 110)) rfl hby d20_82 ?_
  refine own_aloadN X0.here hx hby d20_83 rfl rfl ?_
  refine own_iloadN X0.here hx hby d20_84 rfl ?_
  refine own_iload X0.here hx hby d20_85 rfl ?_
  refine own_iadd X0.here hx hby d20_87 (v := (2 : Int32)) (by decide) ?_
  refine own_baload X0 hx hZ e0 V_t2 ⟨by decide, by decide⟩ (v := (.int 110)) rfl hby d20_88 ?_
  refine own_icmpYes X0.here hx hby (pc' := 95) d20_89 (teq (show (110 : Int32) = (110 : Int32) from (by decide))).1 (by decide) (by decide) ?_
  refine own_iinc X0.here hx hby d20_95 rfl (v := (3 : Int32)) (by decide) (l' := #[.val (.ref t), .val (.int 0), .val (.ref t2), .val (.int 0), .val (.int 7), .val (.int 3), .unset, .unset]) rfl ?_
  refine own_goto X0.here hx hby (pc' := 70) d20_98 (by decide) (by decide) ?_
  refine own_iload X0.here hx hby d20_70 rfl ?_
  refine own_iload X0.here hx hby d20_72 rfl ?_
  refine own_icmpNo X0.here hx hby d20_74 (tlt (show (3 : Int32) < (7 : Int32) from (by decide))).2.1 ?_
  refine own_aloadN X0.here hx hby d20_77 rfl rfl ?_
  refine own_iloadN X0.here hx hby d20_78 rfl ?_
  refine own_iload X0.here hx hby d20_79 rfl ?_
  refine own_iadd X0.here hx hby d20_81 (v := (3 : Int32)) (by decide) ?_
  refine own_baload X0 hx hZ e0 V_t ⟨by decide, by decide⟩ (v := (.int 97)) rfl hby d20_82 ?_
  refine own_aloadN X0.here hx hby d20_83 rfl rfl ?_
  refine own_iloadN X0.here hx hby d20_84 rfl ?_
  refine own_iload X0.here hx hby d20_85 rfl ?_
  refine own_iadd X0.here hx hby d20_87 (v := (3 : Int32)) (by decide) ?_
  refine own_baload X0 hx hZ e0 V_t2 ⟨by decide, by decide⟩ (v := (.int 97)) rfl hby d20_88 ?_
  refine own_icmpYes X0.here hx hby (pc' := 95) d20_89 (teq (show (97 : Int32) = (97 : Int32) from (by decide))).1 (by decide) (by decide) ?_
  refine own_iinc X0.here hx hby d20_95 rfl (v := (4 : Int32)) (by decide) (l' := #[.val (.ref t), .val (.int 0), .val (.ref t2), .val (.int 0), .val (.int 7), .val (.int 4), .unset, .unset]) rfl ?_
  refine own_goto X0.here hx hby (pc' := 70) d20_98 (by decide) (by decide) ?_
  refine own_iload X0.here hx hby d20_70 rfl ?_
  refine own_iload X0.here hx hby d20_72 rfl ?_
  refine own_icmpNo X0.here hx hby d20_74 (tlt (show (4 : Int32) < (7 : Int32) from (by decide))).2.1 ?_
  refine own_aloadN X0.here hx hby d20_77 rfl rfl ?_
  refine own_iloadN X0.here hx hby d20_78 rfl ?_
  refine own_iload X0.here hx hby d20_79 rfl ?_
  refine own_iadd X0.here hx hby d20_81 (v := (4 : Int32)) (by decide) ?_
  refine own_baload X0 hx hZ e0 V_t ⟨by decide, by decide⟩ (v := (.int 114)) rfl hby d20_82 ?_
  refine own_aloadN X0.here hx hby d20_83 rfl rfl ?_
  refine own_iloadN X0.here hx hby d20_84 rfl ?_
  refine own_iload X0.here hx hby d20_85 rfl ?_
  refine own_iadd X0.here hx hby d20_87 (v := (4 : Int32)) (by decide) ?_
  refine own_baload X0 hx hZ e0 V_t2 ⟨by decide, by decide⟩ (v := (.int 114)) rfl hby d20_88 ?_
  refine own_icmpYes X0.here hx hby (pc' := 95) d20_89 (teq (show (114 : Int32) = (114 : Int32) from (by decide))).1 (by decide) (by decide) ?_
  refine own_iinc X0.here hx hby d20_95 rfl (v := (5 : Int32)) (by decide) (l' := #[.val (.ref t), .val (.int 0), .val (.ref t2), .val (.int 0), .val (.int 7), .val (.int 5), .unset, .unset]) rfl ?_
  refine own_goto X0.here hx hby (pc' := 70) d20_98 (by decide) (by decide) ?_
  refine own_iload X0.here hx hby d20_70 rfl ?_
  refine own_iload X0.here hx hby d20_72 rfl ?_
  refine own_icmpNo X0.here hx hby d20_74 (tlt (show (5 : Int32) < (7 : Int32) from (by decide))).2.1 ?_
  refine own_aloadN X0.here hx hby d20_77 rfl rfl ?_
  refine own_iloadN X0.here hx hby d20_78 rfl ?_
  refine own_iload X0.here hx hby d20_79 rfl ?_
  refine own_iadd X0.here hx hby d20_81 (v := (5 : Int32)) (by decide) ?_
  refine own_baload X0 hx hZ e0 V_t ⟨by decide, by decide⟩ (v := (.int 121)) rfl hby d20_82 ?_
  refine own_aloadN X0.here hx hby d20_83 rfl rfl ?_
  refine own_iloadN X0.here hx hby d20_84 rfl ?_
  refine own_iload X0.here hx hby d20_85 rfl ?_
  refine own_iadd X0.here hx hby d20_87 (v := (5 : Int32)) (by decide) ?_
  refine own_baload X0 hx hZ e0 V_t2 ⟨by decide, by decide⟩ (v := (.int 121)) rfl hby d20_88 ?_
  refine own_icmpYes X0.here hx hby (pc' := 95) d20_89 (teq (show (121 : Int32) = (121 : Int32) from (by decide))).1 (by decide) (by decide) ?_
  refine own_iinc X0.here hx hby d20_95 rfl (v := (6 : Int32)) (by decide) (l' := #[.val (.ref t), .val (.int 0), .val (.ref t2), .val (.int 0), .val (.int 7), .val (.int 6), .unset, .unset]) rfl ?_
  refine own_goto X0.here hx hby (pc' := 70) d20_98 (by decide) (by decide) ?_
  refine own_iload X0.here hx hby d20_70 rfl ?_
  refine own_iload X0.here hx hby d20_72 rfl ?_
  refine own_icmpNo X0.here hx hby d20_74 (tlt (show (6 : Int32) < (7 : Int32) from (by decide))).2.1 ?_
  refine own_aloadN X0.here hx hby d20_77 rfl rfl ?_
  refine own_iloadN X0.here hx hby d20_78 rfl ?_
  refine own_iload X0.here hx hby d20_79 rfl ?_
  refine own_iadd X0.here hx hby d20_81 (v := (6 : Int32)) (by decide) ?_
  refine own_baload X0 hx hZ e0 V_t ⟨by decide, by decide⟩ (v := (.int u)) rfl hby d20_82 ?_
  refine own_aloadN X0.here hx hby d20_83 rfl rfl ?_
  refine own_iloadN X0.here hx hby d20_84 rfl ?_
  refine own_iload X0.here hx hby d20_85 rfl ?_
  refine own_iadd X0.here hx hby d20_87 (v := (6 : Int32)) (by decide) ?_
  refine own_baload X0 hx hZ e0 V_t2 ⟨by decide, by decide⟩ (v := (.int 46)) rfl hby d20_88 ?_
  refine own_icmpNo X0.here hx hby d20_89 (feq hu).1 ?_
  refine own_iload X0.here hx hby d20_92 rfl ?_
  obtain ⟨fs, hr, hrun, hended, hW, hsame⟩ := X0.leave (v := some (.int 6)) (fun h => by rw [Bd.returns] at h; cases h)
  refine own_ret (t := s₁.setFrames fs) ?_ ⟨_, hrun, hended, _, _, rfl, ?_, ⟨_, rfl⟩, hW, hsame.mono (by decide) (by decide)⟩
  · exact retOut X0 hx Bd.returns rfl (Or.inl ⟨rfl, Or.inl rfl, _, rfl⟩) (hb hby d20_94) hr
  · show Q_mism_n1 Z _ _ _ _ _ h0 n0 _ s₁.heap _
    rw [e0]
    exact ⟨rfl, N0, rfl⟩
theorem d8_80 : decode jdk_42_method_75_code 80 = .ok (.iconst 0, 1) := by decide +kernel
def Q_stw2_n1 (Z : State) (x : Nat) (x2 : Nat) (t : Nat) (t2 : Nat) (kb : ClassId) (kc : ClassId) (zc : Int32) (u : Int32) (h0 : Heap) (n0 : Nat) (vR : Option Value) (hR : Heap) (LR : List Loc) : Prop := vR = some (.int 0) ∧ Fr n0 LR ∧ hR = h0
set_option maxRecDepth 65536 in
set_option maxHeartbeats 40000000 in
theorem stw2_n1 (l : Launch) (Z : State) (a0 : Array Value) (hw : ∀ d ∈ tables_1, d.before a0 Z = true) (ws : List Jvm.Cond) (x : Nat) (x2 : Nat) (t : Nat) (t2 : Nat) (kb : ClassId) (kc : ClassId) (zc : Int32) (u : Int32) (h0 : Heap) (n0 : Nat) (Z0 : n0 ≤ h0.size) (E_x : Exa Z h0 x "java/lang/String") (E_x2 : Exa Z h0 x2 "java/lang/String") (Fc_x : Fld Z h0 x "java/lang/String" "coder" "B" (.int 0)) (Fv_x : Fld Z h0 x "java/lang/String" "value" "[B" (.ref t)) (V_t : Arv Z h0 t kb .byte (7 : Int32) [(.int 66), (.int 105), (.int 110), (.int 97), (.int 114), (.int 121), (.int u)] (.int 0)) (Fc_x2 : Fld Z h0 x2 "java/lang/String" "coder" "B" (.int 0)) (Fv_x2 : Fld Z h0 x2 "java/lang/String" "value" "[B" (.ref t2)) (V_t2 : Arv Z h0 t2 kc .byte (7 : Int32) [(.int 66), (.int 105), (.int 110), (.int 97), (.int 114), (.int 121), (.int 46)] (.int 0)) (S_C : Sta Z h0 "java/lang/String" "COMPACT_STRINGS" "Z" (.int zc)) (hz : ¬ (zc = (0 : Int32))) (hu : ¬ (u = (46 : Int32))) :
    own_M l (⟨"java/lang/String", "startsWith", "(Ljava/lang/String;I)Z"⟩ : MethodName) jdk_42_method_75_code 8 (some .boolean) ws ({ frames := 2, cells := 0, slots := 0, locals := 27 } : Room) Z #[(.ref x), (.ref x2), (.int 0)] h0 (Q_stw2_n1 Z x x2 t t2 kb kc zc u h0 n0) := by
  refine own_body (own := "java/lang/String") rfl (plainFor_of_name pn_8) (fun m => ef_stw2_b2 m x x2 (0 : Int32)) ?_
  intro p e s m below meth c s₁ Bd hml hZ hh hx hby hown X0 e0
  have N0 := Fr.nil n0
  have lt1 : h0.size > x := E_x.lt
  have lt3 : h0.size > x2 := E_x2.lt
  have lt4 : h0.size > t := V_t.lt
  have lt5 : h0.size > t2 := V_t2.lt
  refine own_iloadN X0.here hx hby d8_0 rfl ?_
  refine own_ifNo X0.here hx hby d8_1 ((if0 _ _).trans (flt (show ¬ ((0 : Int32) < (0 : Int32)) from (by decide))).1) ?_
  refine own_iloadN X0.here hx hby d8_4 rfl ?_
  refine own_aloadN X0.here hx hby d8_5 rfl rfl ?_
  refine own_virtual X0 hx hZ hown (own_w hw 57 rfl) (own_w hw 58 rfl) (notFace_of_selects (args := #[]) (mvT hZ (own_w hw 60 rfl))) (own_w hw 60 rfl) (own_w hw 59 rfl) (own_w hw 25 rfl) (own_w hw 61 rfl) (by decide) (strLen_7 l Z a0 hw [] x t kb zc ([(.int 66), (.int 105), (.int 110), (.int 97), (.int 114), (.int 121), (.int u)]) h0 n0 Z0 E_x Fc_x Fv_x V_t S_C hz) 1 (Nat.le_of_eq rfl) (by decide) (by decide) (by rw [hml]; rfl) (argsL := []) (st := [(.int 0)]) E_x (lenOf pd_5 rfl) rfl rfl (by decide) (by decide) e0 hby d8_6 ?_
  intro T6 v6 L6 X6 hQ6
  obtain ⟨rfl, Nq6, eh6⟩ := hQ6
  have N6 := Fr.app N0 Nq6
  refine own_sh (T := T6) 9 #[.val (.ref x), .val (.ref x2), .val (.int 0), .unset, .unset, .unset, .unset, .unset] [(.int 7), (.int 0)] ?_
  refine own_aloadN X6.here hx hby d8_9 rfl rfl ?_
  refine own_virtual X6 hx hZ hown (own_w hw 57 rfl) (own_w hw 58 rfl) (notFace_of_selects (args := #[]) (mvT hZ (own_w hw 60 rfl))) (own_w hw 60 rfl) (own_w hw 59 rfl) (own_w hw 25 rfl) (own_w hw 61 rfl) (by decide) (strLen_7 l Z a0 hw [] x2 t2 kc zc ([(.int 66), (.int 105), (.int 110), (.int 97), (.int 114), (.int 121), (.int 46)]) h0 n0 Z0 E_x2 Fc_x2 Fv_x2 V_t2 S_C hz) 2 (Nat.le_of_eq rfl) (by decide) (by decide) (by rw [hml]; rfl) (argsL := []) (st := [(.int 7), (.int 0)]) E_x2 (lenOf pd_5 rfl) rfl rfl (by decide) (by decide) eh6 hby d8_10 ?_
  intro T7 v7 L7 X7 hQ7
  obtain ⟨rfl, Nq7, eh7⟩ := hQ7
  have N7 := Fr.app N6 Nq7
  refine own_sh (T := T7) 13 #[.val (.ref x), .val (.ref x2), .val (.int 0), .unset, .unset, .unset, .unset, .unset] [(.int 7), (.int 7), (.int 0)] ?_
  refine own_isub X7.here hx hby d8_13 (v := (0 : Int32)) (by decide) ?_
  refine own_icmpYes X7.here hx hby (pc' := 19) d8_14 (flt (show ¬ ((0 : Int32) < (0 : Int32)) from (by decide))).2.2.2 (by decide) (by decide) ?_
  refine own_aloadN X7.here hx hby d8_19 rfl rfl ?_
  refine own_getF X7 hx hZ hown (host := "") (Or.inl (own_w hw 41 rfl)) Via.refl eh7 Fv_x hby d8_20 ?_
  intro T8 X8 e8
  refine own_astoreN X8.here hx hby d8_23 rfl (l' := #[.val (.ref x), .val (.ref x2), .val (.int 0), .val (.ref t), .unset, .unset, .unset, .unset]) rfl ?_
  refine own_aloadN X8.here hx hby d8_24 rfl rfl ?_
  refine own_getF X8 hx hZ hown (host := "") (Or.inl (own_w hw 41 rfl)) Via.refl e8 Fv_x2 hby d8_25 ?_
  intro T9 X9 e9
  refine own_astore X9.here hx hby d8_28 rfl (l' := #[.val (.ref x), .val (.ref x2), .val (.int 0), .val (.ref t), .val (.ref t2), .unset, .unset, .unset]) rfl ?_
  refine own_iconst X9.here hx hby d8_30 (v := (0 : Int32)) (by decide) ?_
  refine own_istore X9.here hx hby d8_31 (l' := #[.val (.ref x), .val (.ref x2), .val (.int 0), .val (.ref t), .val (.ref t2), .val (.int 0), .unset, .unset]) rfl ?_
  refine own_aload X9.here hx hby d8_33 rfl rfl ?_
  refine own_alen X9 hx hZ e9 V_t2 hby d8_35 ?_
  refine own_istore X9.here hx hby d8_36 (l' := #[.val (.ref x), .val (.ref x2), .val (.int 0), .val (.ref t), .val (.ref t2), .val (.int 0), .val (.int 7), .unset]) rfl ?_
  refine own_aloadN X9.here hx hby d8_38 rfl rfl ?_
  refine own_virtual X9 hx hZ hown (own_w hw 62 rfl) (own_w hw 63 rfl) (notFace_of_selects (args := #[]) (mvT hZ (own_w hw 65 rfl))) (own_w hw 65 rfl) (own_w hw 64 rfl) (own_w hw 25 rfl) (own_w hw 66 rfl) (by decide) (strCoder l Z a0 hw [] x zc h0 n0 Z0 Fc_x S_C hz) 0 (Nat.le_of_eq rfl) (by decide) (by decide) (by rw [hml]; rfl) (argsL := []) (st := []) E_x (lenOf pd_4 rfl) rfl rfl (by decide) (by decide) e9 hby d8_39 ?_
  intro T10 v10 L10 X10 hQ10
  obtain ⟨rfl, Nq10, eh10⟩ := hQ10
  have N10 := Fr.app N7 Nq10
  refine own_sh (T := T10) 42 #[.val (.ref x), .val (.ref x2), .val (.int 0), .val (.ref t), .val (.ref t2), .val (.int 0), .val (.int 7), .unset] [(.int 0)] ?_
  refine own_istore X10.here hx hby d8_42 (l' := #[.val (.ref x), .val (.ref x2), .val (.int 0), .val (.ref t), .val (.ref t2), .val (.int 0), .val (.int 7), .val (.int 0)]) rfl ?_
  refine own_iload X10.here hx hby d8_44 rfl ?_
  refine own_aloadN X10.here hx hby d8_46 rfl rfl ?_
  refine own_virtual X10 hx hZ hown (own_w hw 62 rfl) (own_w hw 63 rfl) (notFace_of_selects (args := #[]) (mvT hZ (own_w hw 65 rfl))) (own_w hw 65 rfl) (own_w hw 64 rfl) (own_w hw 25 rfl) (own_w hw 66 rfl) (by decide) (strCoder l Z a0 hw [] x2 zc h0 n0 Z0 Fc_x2 S_C hz) 1 (Nat.le_of_eq rfl) (by decide) (by decide) (by rw [hml]; rfl) (argsL := []) (st := [(.int 0)]) E_x2 (lenOf pd_4 rfl) rfl rfl (by decide) (by decide) eh10 hby d8_47 ?_
  intro T11 v11 L11 X11 hQ11
  obtain ⟨rfl, Nq11, eh11⟩ := hQ11
  have N11 := Fr.app N10 Nq11
  refine own_sh (T := T11) 50 #[.val (.ref x), .val (.ref x2), .val (.int 0), .val (.ref t), .val (.ref t2), .val (.int 0), .val (.int 7), .val (.int 0)] [(.int 0), (.int 0)] ?_
  refine own_icmpNo X11.here hx hby d8_50 (teq (show (0 : Int32) = (0 : Int32) from (by decide))).2 ?_
  refine own_iload X11.here hx hby d8_53 rfl ?_
  refine own_iconst X11.here hx hby d8_55 (v := (1 : Int32)) (by decide) ?_
  refine own_icmpYes X11.here hx hby (pc' := 63) d8_56 (feq (show ¬ ((0 : Int32) = (1 : Int32)) from (by decide))).2 (by decide) (by decide) ?_
  refine own_aloadN X11.here hx hby d8_63 rfl rfl ?_
  refine own_iloadN X11.here hx hby d8_64 rfl ?_
  refine own_aload X11.here hx hby d8_65 rfl rfl ?_
  refine own_iconst X11.here hx hby d8_67 (v := (0 : Int32)) (by decide) ?_
  refine own_iload X11.here hx hby d8_68 rfl ?_
  refine own_callS X11 hx hZ hown (own_w hw 98 rfl) (own_w hw 99 rfl) (own_w hw 100 rfl) (own_w hw 101 rfl) (by decide) (mism_n1 l Z a0 hw [] t t2 kb kc u h0 n0 Z0 V_t V_t2 hu) 0 (Nat.le_of_eq rfl) (by decide) (by decide) (by rw [hml]; rfl) (argsL := [(.ref t), (.int 0), (.ref t2), (.int 0), (.int 7)]) (st := []) (lenOf pd_6 rfl) rfl rfl (by decide) (by decide) eh11 hby d8_70 ?_
  intro T12 v12 L12 X12 hQ12
  obtain ⟨rfl, Nq12, eh12⟩ := hQ12
  have N12 := Fr.app N11 Nq12
  refine own_sh (T := T12) 73 #[.val (.ref x), .val (.ref x2), .val (.int 0), .val (.ref t), .val (.ref t2), .val (.int 0), .val (.int 7), .val (.int 0)] [(.int 6)] ?_
  refine own_ifYes X12.here hx hby (pc' := 80) d8_73 ((if0 _ _).trans (flt (show ¬ ((6 : Int32) < (0 : Int32)) from (by decide))).2.1) (by decide) (by decide) ?_
  refine own_iconst X12.here hx hby d8_80 (v := (0 : Int32)) (by decide) ?_
  obtain ⟨fs, hr, hrun, hended, hW, hsame⟩ := X12.leave (v := some (.int 0)) (fun h => by rw [Bd.returns] at h; cases h)
  refine own_ret (t := T12.setFrames fs) ?_ ⟨_, hrun, hended, _, _, rfl, ?_, ⟨_, rfl⟩, hW, hsame.mono (by decide) (by decide)⟩
  · exact retN X12 hx (t := .boolean) Bd.returns (by simp) (hb hby d8_81) hr
  · show Q_stw2_n1 Z _ _ _ _ _ _ _ _ h0 n0 _ T12.heap _
    rw [eh12]
    exact ⟨rfl, N12, rfl⟩
def Q_stw_n1 (Z : State) (x : Nat) (x2 : Nat) (t : Nat) (t2 : Nat) (kb : ClassId) (kc : ClassId) (zc : Int32) (u : Int32) (h0 : Heap) (n0 : Nat) (vR : Option Value) (hR : Heap) (LR : List Loc) : Prop := vR = some (.int 0) ∧ Fr n0 LR ∧ hR = h0
set_option maxRecDepth 65536 in
set_option maxHeartbeats 40000000 in
theorem stw_n1 (l : Launch) (Z : State) (a0 : Array Value) (hw : ∀ d ∈ tables_1, d.before a0 Z = true) (ws : List Jvm.Cond) (x : Nat) (x2 : Nat) (t : Nat) (t2 : Nat) (kb : ClassId) (kc : ClassId) (zc : Int32) (u : Int32) (h0 : Heap) (n0 : Nat) (Z0 : n0 ≤ h0.size) (E_x : Exa Z h0 x "java/lang/String") (E_x2 : Exa Z h0 x2 "java/lang/String") (Fc_x : Fld Z h0 x "java/lang/String" "coder" "B" (.int 0)) (Fv_x : Fld Z h0 x "java/lang/String" "value" "[B" (.ref t)) (V_t : Arv Z h0 t kb .byte (7 : Int32) [(.int 66), (.int 105), (.int 110), (.int 97), (.int 114), (.int 121), (.int u)] (.int 0)) (Fc_x2 : Fld Z h0 x2 "java/lang/String" "coder" "B" (.int 0)) (Fv_x2 : Fld Z h0 x2 "java/lang/String" "value" "[B" (.ref t2)) (V_t2 : Arv Z h0 t2 kc .byte (7 : Int32) [(.int 66), (.int 105), (.int 110), (.int 97), (.int 114), (.int 121), (.int 46)] (.int 0)) (S_C : Sta Z h0 "java/lang/String" "COMPACT_STRINGS" "Z" (.int zc)) (hz : ¬ (zc = (0 : Int32))) (hu : ¬ (u = (46 : Int32))) :
    own_M l (⟨"java/lang/String", "startsWith", "(Ljava/lang/String;)Z"⟩ : MethodName) jdk_42_method_76_code 2 (some .boolean) ws ({ frames := 3, cells := 0, slots := 0, locals := 46 } : Room) Z #[(.ref x), (.ref x2)] h0 (Q_stw_n1 Z x x2 t t2 kb kc zc u h0 n0) := by
  refine own_body (own := "java/lang/String") rfl (plainFor_of_name pn_7) (fun m => ef_stw_b2 m x x2) ?_
  intro p e s m below meth c s₁ Bd hml hZ hh hx hby hown X0 e0
  have N0 := Fr.nil n0
  have lt1 : h0.size > x := E_x.lt
  have lt3 : h0.size > x2 := E_x2.lt
  have lt4 : h0.size > t := V_t.lt
  have lt5 : h0.size > t2 := V_t2.lt
  refine own_aloadN X0.here hx hby d7_0 rfl rfl ?_
  refine own_aloadN X0.here hx hby d7_1 rfl rfl ?_
  refine own_iconst X0.here hx hby d7_2 (v := (0 : Int32)) (by decide) ?_
  refine own_virtual X0 hx hZ hown (own_w hw 52 rfl) (own_w hw 53 rfl) (notFace_of_selects (args := #[]) (mvT hZ (own_w hw 55 rfl))) (own_w hw 55 rfl) (own_w hw 54 rfl) (own_w hw 25 rfl) (own_w hw 56 rfl) (by decide) (stw2_n1 l Z a0 hw [] x x2 t t2 kb kc zc u h0 n0 Z0 E_x E_x2 Fc_x Fv_x V_t Fc_x2 Fv_x2 V_t2 S_C hz hu) 0 (Nat.le_of_eq rfl) (by decide) (by decide) (by rw [hml]; rfl) (argsL := [(.ref x2), (.int 0)]) (st := []) E_x (lenOf pd_7 rfl) rfl rfl (by decide) (by decide) e0 hby d7_3 ?_
  intro T6 v6 L6 X6 hQ6
  obtain ⟨rfl, Nq6, eh6⟩ := hQ6
  have N6 := Fr.app N0 Nq6
  refine own_sh (T := T6) 6 #[.val (.ref x), .val (.ref x2)] [(.int 0)] ?_
  obtain ⟨fs, hr, hrun, hended, hW, hsame⟩ := X6.leave (v := some (.int 0)) (fun h => by rw [Bd.returns] at h; cases h)
  refine own_ret (t := T6.setFrames fs) ?_ ⟨_, hrun, hended, _, _, rfl, ?_, ⟨_, rfl⟩, hW, hsame.mono (by decide) (by decide)⟩
  · exact retN X6 hx (t := .boolean) Bd.returns (by simp) (hb hby d7_6) hr
  · show Q_stw_n1 Z _ _ _ _ _ _ _ _ h0 n0 _ T6.heap _
    rw [eh6]
    exact ⟨rfl, N6, rfl⟩
def Q_strLen_6 (Z : State) (x : Nat) (t : Nat) (kb : ClassId) (zc : Int32) (vs_ : List Value) (h0 : Heap) (n0 : Nat) (vR : Option Value) (hR : Heap) (LR : List Loc) : Prop := vR = some (.int 6) ∧ Fr n0 LR ∧ hR = h0
set_option maxRecDepth 65536 in
set_option maxHeartbeats 40000000 in
theorem strLen_6 (l : Launch) (Z : State) (a0 : Array Value) (hw : ∀ d ∈ tables_1, d.before a0 Z = true) (ws : List Jvm.Cond) (x : Nat) (t : Nat) (kb : ClassId) (zc : Int32) (vs_ : List Value) (h0 : Heap) (n0 : Nat) (Z0 : n0 ≤ h0.size) (E_x : Exa Z h0 x "java/lang/String") (Fc_x : Fld Z h0 x "java/lang/String" "coder" "B" (.int 0)) (Fv_x : Fld Z h0 x "java/lang/String" "value" "[B" (.ref t)) (V_t : Arv Z h0 t kb .byte (6 : Int32) vs_ (.int 0)) (S_C : Sta Z h0 "java/lang/String" "COMPACT_STRINGS" "Z" (.int zc)) (hz : ¬ (zc = (0 : Int32))) :
    own_M l (⟨"java/lang/String", "length", "()I"⟩ : MethodName) jdk_42_method_54_code 1 (some .int) ws ({ frames := 1, cells := 0, slots := 0, locals := 13 } : Room) Z #[(.ref x)] h0 (Q_strLen_6 Z x t kb zc vs_ h0 n0) := by
  refine own_body (own := "java/lang/String") rfl (plainFor_of_name pn_9) (fun m => ef_strLen_7 m x) ?_
  intro p e s m below meth c s₁ Bd hml hZ hh hx hby hown X0 e0
  have N0 := Fr.nil n0
  have lt1 : h0.size > x := E_x.lt
  have lt2 : h0.size > t := V_t.lt
  refine own_aloadN X0.here hx hby d9_0 rfl rfl ?_
  refine own_getF X0 hx hZ hown (host := "") (Or.inl (own_w hw 41 rfl)) Via.refl e0 Fv_x hby d9_1 ?_
  intro T3 X3 e3
  refine own_alen X3 hx hZ e3 V_t hby d9_4 ?_
  refine own_aloadN X3.here hx hby d9_5 rfl rfl ?_
  refine own_virtual X3 hx hZ hown (own_w hw 62 rfl) (own_w hw 63 rfl) (notFace_of_selects (args := #[]) (mvT hZ (own_w hw 65 rfl))) (own_w hw 65 rfl) (own_w hw 64 rfl) (own_w hw 25 rfl) (own_w hw 66 rfl) (by decide) (strCoder l Z a0 hw [] x zc h0 n0 Z0 Fc_x S_C hz) 1 (Nat.le_of_eq rfl) (by decide) (by decide) (by rw [hml]; rfl) (argsL := []) (st := [(.int 6)]) E_x (lenOf pd_4 rfl) rfl rfl (by decide) (by decide) e3 hby d9_6 ?_
  intro T4 v4 L4 X4 hQ4
  obtain ⟨rfl, Nq4, eh4⟩ := hQ4
  have N4 := Fr.app N0 Nq4
  refine own_sh (T := T4) 9 #[.val (.ref x)] [(.int 0), (.int 6)] ?_
  refine own_ishr X4.here hx hby d9_9 (v := (6 : Int32)) (by decide) ?_
  obtain ⟨fs, hr, hrun, hended, hW, hsame⟩ := X4.leave (v := some (.int 6)) (fun h => by rw [Bd.returns] at h; cases h)
  refine own_ret (t := T4.setFrames fs) ?_ ⟨_, hrun, hended, _, _, rfl, ?_, ⟨_, rfl⟩, hW, hsame.mono (by decide) (by decide)⟩
  · exact retOut X4 hx Bd.returns rfl (Or.inl ⟨rfl, Or.inl rfl, _, rfl⟩) (hb hby d9_10) hr
  · show Q_strLen_6 Z _ _ _ _ _ h0 n0 _ T4.heap _
    rw [eh4]
    exact ⟨rfl, N4, rfl⟩
theorem d8_17 : decode jdk_42_method_75_code 17 = .ok (.iconst 0, 1) := by decide +kernel
theorem d8_18 : decode jdk_42_method_75_code 18 = .ok (.ireturn, 1) := by decide +kernel
def Q_stw2_n2 (Z : State) (x : Nat) (x2 : Nat) (t : Nat) (t2 : Nat) (kb : ClassId) (kc : ClassId) (zc : Int32) (h0 : Heap) (n0 : Nat) (vR : Option Value) (hR : Heap) (LR : List Loc) : Prop := vR = some (.int 0) ∧ Fr n0 LR ∧ hR = h0
set_option maxRecDepth 65536 in
set_option maxHeartbeats 40000000 in
theorem stw2_n2 (l : Launch) (Z : State) (a0 : Array Value) (hw : ∀ d ∈ tables_1, d.before a0 Z = true) (ws : List Jvm.Cond) (x : Nat) (x2 : Nat) (t : Nat) (t2 : Nat) (kb : ClassId) (kc : ClassId) (zc : Int32) (h0 : Heap) (n0 : Nat) (Z0 : n0 ≤ h0.size) (E_x : Exa Z h0 x "java/lang/String") (E_x2 : Exa Z h0 x2 "java/lang/String") (Fc_x : Fld Z h0 x "java/lang/String" "coder" "B" (.int 0)) (Fv_x : Fld Z h0 x "java/lang/String" "value" "[B" (.ref t)) (V_t : Arv Z h0 t kb .byte (6 : Int32) [(.int 83), (.int 116), (.int 114), (.int 105), (.int 110), (.int 103)] (.int 0)) (Fc_x2 : Fld Z h0 x2 "java/lang/String" "coder" "B" (.int 0)) (Fv_x2 : Fld Z h0 x2 "java/lang/String" "value" "[B" (.ref t2)) (V_t2 : Arv Z h0 t2 kc .byte (7 : Int32) [(.int 66), (.int 105), (.int 110), (.int 97), (.int 114), (.int 121), (.int 46)] (.int 0)) (S_C : Sta Z h0 "java/lang/String" "COMPACT_STRINGS" "Z" (.int zc)) (hz : ¬ (zc = (0 : Int32))) :
    own_M l (⟨"java/lang/String", "startsWith", "(Ljava/lang/String;I)Z"⟩ : MethodName) jdk_42_method_75_code 8 (some .boolean) ws ({ frames := 2, cells := 0, slots := 0, locals := 27 } : Room) Z #[(.ref x), (.ref x2), (.int 0)] h0 (Q_stw2_n2 Z x x2 t t2 kb kc zc h0 n0) := by
  refine own_body (own := "java/lang/String") rfl (plainFor_of_name pn_8) (fun m => ef_stw2_b2 m x x2 (0 : Int32)) ?_
  intro p e s m below meth c s₁ Bd hml hZ hh hx hby hown X0 e0
  have N0 := Fr.nil n0
  have lt1 : h0.size > x := E_x.lt
  have lt3 : h0.size > x2 := E_x2.lt
  have lt4 : h0.size > t := V_t.lt
  have lt5 : h0.size > t2 := V_t2.lt
  refine own_iloadN X0.here hx hby d8_0 rfl ?_
  refine own_ifNo X0.here hx hby d8_1 ((if0 _ _).trans (flt (show ¬ ((0 : Int32) < (0 : Int32)) from (by decide))).1) ?_
  refine own_iloadN X0.here hx hby d8_4 rfl ?_
  refine own_aloadN X0.here hx hby d8_5 rfl rfl ?_
  refine own_virtual X0 hx hZ hown (own_w hw 57 rfl) (own_w hw 58 rfl) (notFace_of_selects (args := #[]) (mvT hZ (own_w hw 60 rfl))) (own_w hw 60 rfl) (own_w hw 59 rfl) (own_w hw 25 rfl) (own_w hw 61 rfl) (by decide) (strLen_6 l Z a0 hw [] x t kb zc ([(.int 83), (.int 116), (.int 114), (.int 105), (.int 110), (.int 103)]) h0 n0 Z0 E_x Fc_x Fv_x V_t S_C hz) 1 (Nat.le_of_eq rfl) (by decide) (by decide) (by rw [hml]; rfl) (argsL := []) (st := [(.int 0)]) E_x (lenOf pd_5 rfl) rfl rfl (by decide) (by decide) e0 hby d8_6 ?_
  intro T6 v6 L6 X6 hQ6
  obtain ⟨rfl, Nq6, eh6⟩ := hQ6
  have N6 := Fr.app N0 Nq6
  refine own_sh (T := T6) 9 #[.val (.ref x), .val (.ref x2), .val (.int 0), .unset, .unset, .unset, .unset, .unset] [(.int 6), (.int 0)] ?_
  refine own_aloadN X6.here hx hby d8_9 rfl rfl ?_
  refine own_virtual X6 hx hZ hown (own_w hw 57 rfl) (own_w hw 58 rfl) (notFace_of_selects (args := #[]) (mvT hZ (own_w hw 60 rfl))) (own_w hw 60 rfl) (own_w hw 59 rfl) (own_w hw 25 rfl) (own_w hw 61 rfl) (by decide) (strLen_7 l Z a0 hw [] x2 t2 kc zc ([(.int 66), (.int 105), (.int 110), (.int 97), (.int 114), (.int 121), (.int 46)]) h0 n0 Z0 E_x2 Fc_x2 Fv_x2 V_t2 S_C hz) 2 (Nat.le_of_eq rfl) (by decide) (by decide) (by rw [hml]; rfl) (argsL := []) (st := [(.int 6), (.int 0)]) E_x2 (lenOf pd_5 rfl) rfl rfl (by decide) (by decide) eh6 hby d8_10 ?_
  intro T7 v7 L7 X7 hQ7
  obtain ⟨rfl, Nq7, eh7⟩ := hQ7
  have N7 := Fr.app N6 Nq7
  refine own_sh (T := T7) 13 #[.val (.ref x), .val (.ref x2), .val (.int 0), .unset, .unset, .unset, .unset, .unset] [(.int 7), (.int 6), (.int 0)] ?_
  refine own_isub X7.here hx hby d8_13 (v := (-1 : Int32)) (by decide) ?_
  refine own_icmpNo X7.here hx hby d8_14 (tlt (show (-1 : Int32) < (0 : Int32) from (by decide))).2.2.2 ?_
  refine own_iconst X7.here hx hby d8_17 (v := (0 : Int32)) (by decide) ?_
  obtain ⟨fs, hr, hrun, hended, hW, hsame⟩ := X7.leave (v := some (.int 0)) (fun h => by rw [Bd.returns] at h; cases h)
  refine own_ret (t := T7.setFrames fs) ?_ ⟨_, hrun, hended, _, _, rfl, ?_, ⟨_, rfl⟩, hW, hsame.mono (by decide) (by decide)⟩
  · exact retN X7 hx (t := .boolean) Bd.returns (by simp) (hb hby d8_18) hr
  · show Q_stw2_n2 Z _ _ _ _ _ _ _ h0 n0 _ T7.heap _
    rw [eh7]
    exact ⟨rfl, N7, rfl⟩
def Q_stw_n2 (Z : State) (x : Nat) (x2 : Nat) (t : Nat) (t2 : Nat) (kb : ClassId) (kc : ClassId) (zc : Int32) (h0 : Heap) (n0 : Nat) (vR : Option Value) (hR : Heap) (LR : List Loc) : Prop := vR = some (.int 0) ∧ Fr n0 LR ∧ hR = h0
set_option maxRecDepth 65536 in
set_option maxHeartbeats 40000000 in
theorem stw_n2 (l : Launch) (Z : State) (a0 : Array Value) (hw : ∀ d ∈ tables_1, d.before a0 Z = true) (ws : List Jvm.Cond) (x : Nat) (x2 : Nat) (t : Nat) (t2 : Nat) (kb : ClassId) (kc : ClassId) (zc : Int32) (h0 : Heap) (n0 : Nat) (Z0 : n0 ≤ h0.size) (E_x : Exa Z h0 x "java/lang/String") (E_x2 : Exa Z h0 x2 "java/lang/String") (Fc_x : Fld Z h0 x "java/lang/String" "coder" "B" (.int 0)) (Fv_x : Fld Z h0 x "java/lang/String" "value" "[B" (.ref t)) (V_t : Arv Z h0 t kb .byte (6 : Int32) [(.int 83), (.int 116), (.int 114), (.int 105), (.int 110), (.int 103)] (.int 0)) (Fc_x2 : Fld Z h0 x2 "java/lang/String" "coder" "B" (.int 0)) (Fv_x2 : Fld Z h0 x2 "java/lang/String" "value" "[B" (.ref t2)) (V_t2 : Arv Z h0 t2 kc .byte (7 : Int32) [(.int 66), (.int 105), (.int 110), (.int 97), (.int 114), (.int 121), (.int 46)] (.int 0)) (S_C : Sta Z h0 "java/lang/String" "COMPACT_STRINGS" "Z" (.int zc)) (hz : ¬ (zc = (0 : Int32))) :
    own_M l (⟨"java/lang/String", "startsWith", "(Ljava/lang/String;)Z"⟩ : MethodName) jdk_42_method_76_code 2 (some .boolean) ws ({ frames := 3, cells := 0, slots := 0, locals := 46 } : Room) Z #[(.ref x), (.ref x2)] h0 (Q_stw_n2 Z x x2 t t2 kb kc zc h0 n0) := by
  refine own_body (own := "java/lang/String") rfl (plainFor_of_name pn_7) (fun m => ef_stw_b2 m x x2) ?_
  intro p e s m below meth c s₁ Bd hml hZ hh hx hby hown X0 e0
  have N0 := Fr.nil n0
  have lt1 : h0.size > x := E_x.lt
  have lt3 : h0.size > x2 := E_x2.lt
  have lt4 : h0.size > t := V_t.lt
  have lt5 : h0.size > t2 := V_t2.lt
  refine own_aloadN X0.here hx hby d7_0 rfl rfl ?_
  refine own_aloadN X0.here hx hby d7_1 rfl rfl ?_
  refine own_iconst X0.here hx hby d7_2 (v := (0 : Int32)) (by decide) ?_
  refine own_virtual X0 hx hZ hown (own_w hw 52 rfl) (own_w hw 53 rfl) (notFace_of_selects (args := #[]) (mvT hZ (own_w hw 55 rfl))) (own_w hw 55 rfl) (own_w hw 54 rfl) (own_w hw 25 rfl) (own_w hw 56 rfl) (by decide) (stw2_n2 l Z a0 hw [] x x2 t t2 kb kc zc h0 n0 Z0 E_x E_x2 Fc_x Fv_x V_t Fc_x2 Fv_x2 V_t2 S_C hz) 0 (Nat.le_of_eq rfl) (by decide) (by decide) (by rw [hml]; rfl) (argsL := [(.ref x2), (.int 0)]) (st := []) E_x (lenOf pd_7 rfl) rfl rfl (by decide) (by decide) e0 hby d7_3 ?_
  intro T6 v6 L6 X6 hQ6
  obtain ⟨rfl, Nq6, eh6⟩ := hQ6
  have N6 := Fr.app N0 Nq6
  refine own_sh (T := T6) 6 #[.val (.ref x), .val (.ref x2)] [(.int 0)] ?_
  obtain ⟨fs, hr, hrun, hended, hW, hsame⟩ := X6.leave (v := some (.int 0)) (fun h => by rw [Bd.returns] at h; cases h)
  refine own_ret (t := T6.setFrames fs) ?_ ⟨_, hrun, hended, _, _, rfl, ?_, ⟨_, rfl⟩, hW, hsame.mono (by decide) (by decide)⟩
  · exact retN X6 hx (t := .boolean) Bd.returns (by simp) (hb hby d7_6) hr
  · show Q_stw_n2 Z _ _ _ _ _ _ _ h0 n0 _ T6.heap _
    rw [eh6]
    exact ⟨rfl, N6, rfl⟩
def Q_stw2_n3 (Z : State) (x : Nat) (x2 : Nat) (t : Nat) (t2 : Nat) (kb : ClassId) (kc : ClassId) (zc : Int32) (h0 : Heap) (n0 : Nat) (vR : Option Value) (hR : Heap) (LR : List Loc) : Prop := vR = some (.int 0) ∧ Fr n0 LR ∧ hR = h0
set_option maxRecDepth 65536 in
set_option maxHeartbeats 40000000 in
theorem stw2_n3 (l : Launch) (Z : State) (a0 : Array Value) (hw : ∀ d ∈ tables_1, d.before a0 Z = true) (ws : List Jvm.Cond) (x : Nat) (x2 : Nat) (t : Nat) (t2 : Nat) (kb : ClassId) (kc : ClassId) (zc : Int32) (h0 : Heap) (n0 : Nat) (Z0 : n0 ≤ h0.size) (E_x : Exa Z h0 x "java/lang/String") (E_x2 : Exa Z h0 x2 "java/lang/String") (Fc_x : Fld Z h0 x "java/lang/String" "coder" "B" (.int 0)) (Fv_x : Fld Z h0 x "java/lang/String" "value" "[B" (.ref t)) (V_t : Arv Z h0 t kb .byte (6 : Int32) [(.int 78), (.int 117), (.int 109), (.int 98), (.int 101), (.int 114)] (.int 0)) (Fc_x2 : Fld Z h0 x2 "java/lang/String" "coder" "B" (.int 0)) (Fv_x2 : Fld Z h0 x2 "java/lang/String" "value" "[B" (.ref t2)) (V_t2 : Arv Z h0 t2 kc .byte (7 : Int32) [(.int 66), (.int 105), (.int 110), (.int 97), (.int 114), (.int 121), (.int 46)] (.int 0)) (S_C : Sta Z h0 "java/lang/String" "COMPACT_STRINGS" "Z" (.int zc)) (hz : ¬ (zc = (0 : Int32))) :
    own_M l (⟨"java/lang/String", "startsWith", "(Ljava/lang/String;I)Z"⟩ : MethodName) jdk_42_method_75_code 8 (some .boolean) ws ({ frames := 2, cells := 0, slots := 0, locals := 27 } : Room) Z #[(.ref x), (.ref x2), (.int 0)] h0 (Q_stw2_n3 Z x x2 t t2 kb kc zc h0 n0) := by
  refine own_body (own := "java/lang/String") rfl (plainFor_of_name pn_8) (fun m => ef_stw2_b2 m x x2 (0 : Int32)) ?_
  intro p e s m below meth c s₁ Bd hml hZ hh hx hby hown X0 e0
  have N0 := Fr.nil n0
  have lt1 : h0.size > x := E_x.lt
  have lt3 : h0.size > x2 := E_x2.lt
  have lt4 : h0.size > t := V_t.lt
  have lt5 : h0.size > t2 := V_t2.lt
  refine own_iloadN X0.here hx hby d8_0 rfl ?_
  refine own_ifNo X0.here hx hby d8_1 ((if0 _ _).trans (flt (show ¬ ((0 : Int32) < (0 : Int32)) from (by decide))).1) ?_
  refine own_iloadN X0.here hx hby d8_4 rfl ?_
  refine own_aloadN X0.here hx hby d8_5 rfl rfl ?_
  refine own_virtual X0 hx hZ hown (own_w hw 57 rfl) (own_w hw 58 rfl) (notFace_of_selects (args := #[]) (mvT hZ (own_w hw 60 rfl))) (own_w hw 60 rfl) (own_w hw 59 rfl) (own_w hw 25 rfl) (own_w hw 61 rfl) (by decide) (strLen_6 l Z a0 hw [] x t kb zc ([(.int 78), (.int 117), (.int 109), (.int 98), (.int 101), (.int 114)]) h0 n0 Z0 E_x Fc_x Fv_x V_t S_C hz) 1 (Nat.le_of_eq rfl) (by decide) (by decide) (by rw [hml]; rfl) (argsL := []) (st := [(.int 0)]) E_x (lenOf pd_5 rfl) rfl rfl (by decide) (by decide) e0 hby d8_6 ?_
  intro T6 v6 L6 X6 hQ6
  obtain ⟨rfl, Nq6, eh6⟩ := hQ6
  have N6 := Fr.app N0 Nq6
  refine own_sh (T := T6) 9 #[.val (.ref x), .val (.ref x2), .val (.int 0), .unset, .unset, .unset, .unset, .unset] [(.int 6), (.int 0)] ?_
  refine own_aloadN X6.here hx hby d8_9 rfl rfl ?_
  refine own_virtual X6 hx hZ hown (own_w hw 57 rfl) (own_w hw 58 rfl) (notFace_of_selects (args := #[]) (mvT hZ (own_w hw 60 rfl))) (own_w hw 60 rfl) (own_w hw 59 rfl) (own_w hw 25 rfl) (own_w hw 61 rfl) (by decide) (strLen_7 l Z a0 hw [] x2 t2 kc zc ([(.int 66), (.int 105), (.int 110), (.int 97), (.int 114), (.int 121), (.int 46)]) h0 n0 Z0 E_x2 Fc_x2 Fv_x2 V_t2 S_C hz) 2 (Nat.le_of_eq rfl) (by decide) (by decide) (by rw [hml]; rfl) (argsL := []) (st := [(.int 6), (.int 0)]) E_x2 (lenOf pd_5 rfl) rfl rfl (by decide) (by decide) eh6 hby d8_10 ?_
  intro T7 v7 L7 X7 hQ7
  obtain ⟨rfl, Nq7, eh7⟩ := hQ7
  have N7 := Fr.app N6 Nq7
  refine own_sh (T := T7) 13 #[.val (.ref x), .val (.ref x2), .val (.int 0), .unset, .unset, .unset, .unset, .unset] [(.int 7), (.int 6), (.int 0)] ?_
  refine own_isub X7.here hx hby d8_13 (v := (-1 : Int32)) (by decide) ?_
  refine own_icmpNo X7.here hx hby d8_14 (tlt (show (-1 : Int32) < (0 : Int32) from (by decide))).2.2.2 ?_
  refine own_iconst X7.here hx hby d8_17 (v := (0 : Int32)) (by decide) ?_
  obtain ⟨fs, hr, hrun, hended, hW, hsame⟩ := X7.leave (v := some (.int 0)) (fun h => by rw [Bd.returns] at h; cases h)
  refine own_ret (t := T7.setFrames fs) ?_ ⟨_, hrun, hended, _, _, rfl, ?_, ⟨_, rfl⟩, hW, hsame.mono (by decide) (by decide)⟩
  · exact retN X7 hx (t := .boolean) Bd.returns (by simp) (hb hby d8_18) hr
  · show Q_stw2_n3 Z _ _ _ _ _ _ _ h0 n0 _ T7.heap _
    rw [eh7]
    exact ⟨rfl, N7, rfl⟩
def Q_stw_n3 (Z : State) (x : Nat) (x2 : Nat) (t : Nat) (t2 : Nat) (kb : ClassId) (kc : ClassId) (zc : Int32) (h0 : Heap) (n0 : Nat) (vR : Option Value) (hR : Heap) (LR : List Loc) : Prop := vR = some (.int 0) ∧ Fr n0 LR ∧ hR = h0
set_option maxRecDepth 65536 in
set_option maxHeartbeats 40000000 in
theorem stw_n3 (l : Launch) (Z : State) (a0 : Array Value) (hw : ∀ d ∈ tables_1, d.before a0 Z = true) (ws : List Jvm.Cond) (x : Nat) (x2 : Nat) (t : Nat) (t2 : Nat) (kb : ClassId) (kc : ClassId) (zc : Int32) (h0 : Heap) (n0 : Nat) (Z0 : n0 ≤ h0.size) (E_x : Exa Z h0 x "java/lang/String") (E_x2 : Exa Z h0 x2 "java/lang/String") (Fc_x : Fld Z h0 x "java/lang/String" "coder" "B" (.int 0)) (Fv_x : Fld Z h0 x "java/lang/String" "value" "[B" (.ref t)) (V_t : Arv Z h0 t kb .byte (6 : Int32) [(.int 78), (.int 117), (.int 109), (.int 98), (.int 101), (.int 114)] (.int 0)) (Fc_x2 : Fld Z h0 x2 "java/lang/String" "coder" "B" (.int 0)) (Fv_x2 : Fld Z h0 x2 "java/lang/String" "value" "[B" (.ref t2)) (V_t2 : Arv Z h0 t2 kc .byte (7 : Int32) [(.int 66), (.int 105), (.int 110), (.int 97), (.int 114), (.int 121), (.int 46)] (.int 0)) (S_C : Sta Z h0 "java/lang/String" "COMPACT_STRINGS" "Z" (.int zc)) (hz : ¬ (zc = (0 : Int32))) :
    own_M l (⟨"java/lang/String", "startsWith", "(Ljava/lang/String;)Z"⟩ : MethodName) jdk_42_method_76_code 2 (some .boolean) ws ({ frames := 3, cells := 0, slots := 0, locals := 46 } : Room) Z #[(.ref x), (.ref x2)] h0 (Q_stw_n3 Z x x2 t t2 kb kc zc h0 n0) := by
  refine own_body (own := "java/lang/String") rfl (plainFor_of_name pn_7) (fun m => ef_stw_b2 m x x2) ?_
  intro p e s m below meth c s₁ Bd hml hZ hh hx hby hown X0 e0
  have N0 := Fr.nil n0
  have lt1 : h0.size > x := E_x.lt
  have lt3 : h0.size > x2 := E_x2.lt
  have lt4 : h0.size > t := V_t.lt
  have lt5 : h0.size > t2 := V_t2.lt
  refine own_aloadN X0.here hx hby d7_0 rfl rfl ?_
  refine own_aloadN X0.here hx hby d7_1 rfl rfl ?_
  refine own_iconst X0.here hx hby d7_2 (v := (0 : Int32)) (by decide) ?_
  refine own_virtual X0 hx hZ hown (own_w hw 52 rfl) (own_w hw 53 rfl) (notFace_of_selects (args := #[]) (mvT hZ (own_w hw 55 rfl))) (own_w hw 55 rfl) (own_w hw 54 rfl) (own_w hw 25 rfl) (own_w hw 56 rfl) (by decide) (stw2_n3 l Z a0 hw [] x x2 t t2 kb kc zc h0 n0 Z0 E_x E_x2 Fc_x Fv_x V_t Fc_x2 Fv_x2 V_t2 S_C hz) 0 (Nat.le_of_eq rfl) (by decide) (by decide) (by rw [hml]; rfl) (argsL := [(.ref x2), (.int 0)]) (st := []) E_x (lenOf pd_7 rfl) rfl rfl (by decide) (by decide) e0 hby d7_3 ?_
  intro T6 v6 L6 X6 hQ6
  obtain ⟨rfl, Nq6, eh6⟩ := hQ6
  have N6 := Fr.app N0 Nq6
  refine own_sh (T := T6) 6 #[.val (.ref x), .val (.ref x2)] [(.int 0)] ?_
  obtain ⟨fs, hr, hrun, hended, hW, hsame⟩ := X6.leave (v := some (.int 0)) (fun h => by rw [Bd.returns] at h; cases h)
  refine own_ret (t := T6.setFrames fs) ?_ ⟨_, hrun, hended, _, _, rfl, ?_, ⟨_, rfl⟩, hW, hsame.mono (by decide) (by decide)⟩
  · exact retN X6 hx (t := .boolean) Bd.returns (by simp) (hb hby d7_6) hr
  · show Q_stw_n3 Z _ _ _ _ _ _ _ h0 n0 _ T6.heap _
    rw [eh6]
    exact ⟨rfl, N6, rfl⟩
def Q_stw2_n4 (Z : State) (x : Nat) (x2 : Nat) (t : Nat) (t2 : Nat) (kb : ClassId) (kc : ClassId) (zc : Int32) (u : Int32) (h0 : Heap) (n0 : Nat) (vR : Option Value) (hR : Heap) (LR : List Loc) : Prop := vR = some (.int 0) ∧ Fr n0 LR ∧ hR = h0
set_option maxRecDepth 65536 in
set_option maxHeartbeats 40000000 in
theorem stw2_n4 (l : Launch) (Z : State) (a0 : Array Value) (hw : ∀ d ∈ tables_1, d.before a0 Z = true) (ws : List Jvm.Cond) (x : Nat) (x2 : Nat) (t : Nat) (t2 : Nat) (kb : ClassId) (kc : ClassId) (zc : Int32) (u : Int32) (h0 : Heap) (n0 : Nat) (Z0 : n0 ≤ h0.size) (E_x : Exa Z h0 x "java/lang/String") (E_x2 : Exa Z h0 x2 "java/lang/String") (Fc_x : Fld Z h0 x "java/lang/String" "coder" "B" (.int 0)) (Fv_x : Fld Z h0 x "java/lang/String" "value" "[B" (.ref t)) (V_t : Arv Z h0 t kb .byte (6 : Int32) [(.int 66), (.int 105), (.int 110), (.int 97), (.int 114), (.int u)] (.int 0)) (Fc_x2 : Fld Z h0 x2 "java/lang/String" "coder" "B" (.int 0)) (Fv_x2 : Fld Z h0 x2 "java/lang/String" "value" "[B" (.ref t2)) (V_t2 : Arv Z h0 t2 kc .byte (7 : Int32) [(.int 66), (.int 105), (.int 110), (.int 97), (.int 114), (.int 121), (.int 46)] (.int 0)) (S_C : Sta Z h0 "java/lang/String" "COMPACT_STRINGS" "Z" (.int zc)) (hz : ¬ (zc = (0 : Int32))) :
    own_M l (⟨"java/lang/String", "startsWith", "(Ljava/lang/String;I)Z"⟩ : MethodName) jdk_42_method_75_code 8 (some .boolean) ws ({ frames := 2, cells := 0, slots := 0, locals := 27 } : Room) Z #[(.ref x), (.ref x2), (.int 0)] h0 (Q_stw2_n4 Z x x2 t t2 kb kc zc u h0 n0) := by
  refine own_body (own := "java/lang/String") rfl (plainFor_of_name pn_8) (fun m => ef_stw2_b2 m x x2 (0 : Int32)) ?_
  intro p e s m below meth c s₁ Bd hml hZ hh hx hby hown X0 e0
  have N0 := Fr.nil n0
  have lt1 : h0.size > x := E_x.lt
  have lt3 : h0.size > x2 := E_x2.lt
  have lt4 : h0.size > t := V_t.lt
  have lt5 : h0.size > t2 := V_t2.lt
  refine own_iloadN X0.here hx hby d8_0 rfl ?_
  refine own_ifNo X0.here hx hby d8_1 ((if0 _ _).trans (flt (show ¬ ((0 : Int32) < (0 : Int32)) from (by decide))).1) ?_
  refine own_iloadN X0.here hx hby d8_4 rfl ?_
  refine own_aloadN X0.here hx hby d8_5 rfl rfl ?_
  refine own_virtual X0 hx hZ hown (own_w hw 57 rfl) (own_w hw 58 rfl) (notFace_of_selects (args := #[]) (mvT hZ (own_w hw 60 rfl))) (own_w hw 60 rfl) (own_w hw 59 rfl) (own_w hw 25 rfl) (own_w hw 61 rfl) (by decide) (strLen_6 l Z a0 hw [] x t kb zc ([(.int 66), (.int 105), (.int 110), (.int 97), (.int 114), (.int u)]) h0 n0 Z0 E_x Fc_x Fv_x V_t S_C hz) 1 (Nat.le_of_eq rfl) (by decide) (by decide) (by rw [hml]; rfl) (argsL := []) (st := [(.int 0)]) E_x (lenOf pd_5 rfl) rfl rfl (by decide) (by decide) e0 hby d8_6 ?_
  intro T6 v6 L6 X6 hQ6
  obtain ⟨rfl, Nq6, eh6⟩ := hQ6
  have N6 := Fr.app N0 Nq6
  refine own_sh (T := T6) 9 #[.val (.ref x), .val (.ref x2), .val (.int 0), .unset, .unset, .unset, .unset, .unset] [(.int 6), (.int 0)] ?_
  refine own_aloadN X6.here hx hby d8_9 rfl rfl ?_
  refine own_virtual X6 hx hZ hown (own_w hw 57 rfl) (own_w hw 58 rfl) (notFace_of_selects (args := #[]) (mvT hZ (own_w hw 60 rfl))) (own_w hw 60 rfl) (own_w hw 59 rfl) (own_w hw 25 rfl) (own_w hw 61 rfl) (by decide) (strLen_7 l Z a0 hw [] x2 t2 kc zc ([(.int 66), (.int 105), (.int 110), (.int 97), (.int 114), (.int 121), (.int 46)]) h0 n0 Z0 E_x2 Fc_x2 Fv_x2 V_t2 S_C hz) 2 (Nat.le_of_eq rfl) (by decide) (by decide) (by rw [hml]; rfl) (argsL := []) (st := [(.int 6), (.int 0)]) E_x2 (lenOf pd_5 rfl) rfl rfl (by decide) (by decide) eh6 hby d8_10 ?_
  intro T7 v7 L7 X7 hQ7
  obtain ⟨rfl, Nq7, eh7⟩ := hQ7
  have N7 := Fr.app N6 Nq7
  refine own_sh (T := T7) 13 #[.val (.ref x), .val (.ref x2), .val (.int 0), .unset, .unset, .unset, .unset, .unset] [(.int 7), (.int 6), (.int 0)] ?_
  refine own_isub X7.here hx hby d8_13 (v := (-1 : Int32)) (by decide) ?_
  refine own_icmpNo X7.here hx hby d8_14 (tlt (show (-1 : Int32) < (0 : Int32) from (by decide))).2.2.2 ?_
  refine own_iconst X7.here hx hby d8_17 (v := (0 : Int32)) (by decide) ?_
  obtain ⟨fs, hr, hrun, hended, hW, hsame⟩ := X7.leave (v := some (.int 0)) (fun h => by rw [Bd.returns] at h; cases h)
  refine own_ret (t := T7.setFrames fs) ?_ ⟨_, hrun, hended, _, _, rfl, ?_, ⟨_, rfl⟩, hW, hsame.mono (by decide) (by decide)⟩
  · exact retN X7 hx (t := .boolean) Bd.returns (by simp) (hb hby d8_18) hr
  · show Q_stw2_n4 Z _ _ _ _ _ _ _ _ h0 n0 _ T7.heap _
    rw [eh7]
    exact ⟨rfl, N7, rfl⟩
def Q_stw_n4 (Z : State) (x : Nat) (x2 : Nat) (t : Nat) (t2 : Nat) (kb : ClassId) (kc : ClassId) (zc : Int32) (u : Int32) (h0 : Heap) (n0 : Nat) (vR : Option Value) (hR : Heap) (LR : List Loc) : Prop := vR = some (.int 0) ∧ Fr n0 LR ∧ hR = h0
set_option maxRecDepth 65536 in
set_option maxHeartbeats 40000000 in
theorem stw_n4 (l : Launch) (Z : State) (a0 : Array Value) (hw : ∀ d ∈ tables_1, d.before a0 Z = true) (ws : List Jvm.Cond) (x : Nat) (x2 : Nat) (t : Nat) (t2 : Nat) (kb : ClassId) (kc : ClassId) (zc : Int32) (u : Int32) (h0 : Heap) (n0 : Nat) (Z0 : n0 ≤ h0.size) (E_x : Exa Z h0 x "java/lang/String") (E_x2 : Exa Z h0 x2 "java/lang/String") (Fc_x : Fld Z h0 x "java/lang/String" "coder" "B" (.int 0)) (Fv_x : Fld Z h0 x "java/lang/String" "value" "[B" (.ref t)) (V_t : Arv Z h0 t kb .byte (6 : Int32) [(.int 66), (.int 105), (.int 110), (.int 97), (.int 114), (.int u)] (.int 0)) (Fc_x2 : Fld Z h0 x2 "java/lang/String" "coder" "B" (.int 0)) (Fv_x2 : Fld Z h0 x2 "java/lang/String" "value" "[B" (.ref t2)) (V_t2 : Arv Z h0 t2 kc .byte (7 : Int32) [(.int 66), (.int 105), (.int 110), (.int 97), (.int 114), (.int 121), (.int 46)] (.int 0)) (S_C : Sta Z h0 "java/lang/String" "COMPACT_STRINGS" "Z" (.int zc)) (hz : ¬ (zc = (0 : Int32))) :
    own_M l (⟨"java/lang/String", "startsWith", "(Ljava/lang/String;)Z"⟩ : MethodName) jdk_42_method_76_code 2 (some .boolean) ws ({ frames := 3, cells := 0, slots := 0, locals := 46 } : Room) Z #[(.ref x), (.ref x2)] h0 (Q_stw_n4 Z x x2 t t2 kb kc zc u h0 n0) := by
  refine own_body (own := "java/lang/String") rfl (plainFor_of_name pn_7) (fun m => ef_stw_b2 m x x2) ?_
  intro p e s m below meth c s₁ Bd hml hZ hh hx hby hown X0 e0
  have N0 := Fr.nil n0
  have lt1 : h0.size > x := E_x.lt
  have lt3 : h0.size > x2 := E_x2.lt
  have lt4 : h0.size > t := V_t.lt
  have lt5 : h0.size > t2 := V_t2.lt
  refine own_aloadN X0.here hx hby d7_0 rfl rfl ?_
  refine own_aloadN X0.here hx hby d7_1 rfl rfl ?_
  refine own_iconst X0.here hx hby d7_2 (v := (0 : Int32)) (by decide) ?_
  refine own_virtual X0 hx hZ hown (own_w hw 52 rfl) (own_w hw 53 rfl) (notFace_of_selects (args := #[]) (mvT hZ (own_w hw 55 rfl))) (own_w hw 55 rfl) (own_w hw 54 rfl) (own_w hw 25 rfl) (own_w hw 56 rfl) (by decide) (stw2_n4 l Z a0 hw [] x x2 t t2 kb kc zc u h0 n0 Z0 E_x E_x2 Fc_x Fv_x V_t Fc_x2 Fv_x2 V_t2 S_C hz) 0 (Nat.le_of_eq rfl) (by decide) (by decide) (by rw [hml]; rfl) (argsL := [(.ref x2), (.int 0)]) (st := []) E_x (lenOf pd_7 rfl) rfl rfl (by decide) (by decide) e0 hby d7_3 ?_
  intro T6 v6 L6 X6 hQ6
  obtain ⟨rfl, Nq6, eh6⟩ := hQ6
  have N6 := Fr.app N0 Nq6
  refine own_sh (T := T6) 6 #[.val (.ref x), .val (.ref x2)] [(.int 0)] ?_
  obtain ⟨fs, hr, hrun, hended, hW, hsame⟩ := X6.leave (v := some (.int 0)) (fun h => by rw [Bd.returns] at h; cases h)
  refine own_ret (t := T6.setFrames fs) ?_ ⟨_, hrun, hended, _, _, rfl, ?_, ⟨_, rfl⟩, hW, hsame.mono (by decide) (by decide)⟩
  · exact retN X6 hx (t := .boolean) Bd.returns (by simp) (hb hby d7_6) hr
  · show Q_stw_n4 Z _ _ _ _ _ _ _ _ h0 n0 _ T6.heap _
    rw [eh6]
    exact ⟨rfl, N6, rfl⟩
def Q_strLen_1 (Z : State) (x : Nat) (t : Nat) (kb : ClassId) (zc : Int32) (vs_ : List Value) (h0 : Heap) (n0 : Nat) (vR : Option Value) (hR : Heap) (LR : List Loc) : Prop := vR = some (.int 1) ∧ Fr n0 LR ∧ hR = h0
set_option maxRecDepth 65536 in
set_option maxHeartbeats 40000000 in
theorem strLen_1 (l : Launch) (Z : State) (a0 : Array Value) (hw : ∀ d ∈ tables_1, d.before a0 Z = true) (ws : List Jvm.Cond) (x : Nat) (t : Nat) (kb : ClassId) (zc : Int32) (vs_ : List Value) (h0 : Heap) (n0 : Nat) (Z0 : n0 ≤ h0.size) (E_x : Exa Z h0 x "java/lang/String") (Fc_x : Fld Z h0 x "java/lang/String" "coder" "B" (.int 0)) (Fv_x : Fld Z h0 x "java/lang/String" "value" "[B" (.ref t)) (V_t : Arv Z h0 t kb .byte (1 : Int32) vs_ (.int 0)) (S_C : Sta Z h0 "java/lang/String" "COMPACT_STRINGS" "Z" (.int zc)) (hz : ¬ (zc = (0 : Int32))) :
    own_M l (⟨"java/lang/String", "length", "()I"⟩ : MethodName) jdk_42_method_54_code 1 (some .int) ws ({ frames := 1, cells := 0, slots := 0, locals := 13 } : Room) Z #[(.ref x)] h0 (Q_strLen_1 Z x t kb zc vs_ h0 n0) := by
  refine own_body (own := "java/lang/String") rfl (plainFor_of_name pn_9) (fun m => ef_strLen_7 m x) ?_
  intro p e s m below meth c s₁ Bd hml hZ hh hx hby hown X0 e0
  have N0 := Fr.nil n0
  have lt1 : h0.size > x := E_x.lt
  have lt2 : h0.size > t := V_t.lt
  refine own_aloadN X0.here hx hby d9_0 rfl rfl ?_
  refine own_getF X0 hx hZ hown (host := "") (Or.inl (own_w hw 41 rfl)) Via.refl e0 Fv_x hby d9_1 ?_
  intro T3 X3 e3
  refine own_alen X3 hx hZ e3 V_t hby d9_4 ?_
  refine own_aloadN X3.here hx hby d9_5 rfl rfl ?_
  refine own_virtual X3 hx hZ hown (own_w hw 62 rfl) (own_w hw 63 rfl) (notFace_of_selects (args := #[]) (mvT hZ (own_w hw 65 rfl))) (own_w hw 65 rfl) (own_w hw 64 rfl) (own_w hw 25 rfl) (own_w hw 66 rfl) (by decide) (strCoder l Z a0 hw [] x zc h0 n0 Z0 Fc_x S_C hz) 1 (Nat.le_of_eq rfl) (by decide) (by decide) (by rw [hml]; rfl) (argsL := []) (st := [(.int 1)]) E_x (lenOf pd_4 rfl) rfl rfl (by decide) (by decide) e3 hby d9_6 ?_
  intro T4 v4 L4 X4 hQ4
  obtain ⟨rfl, Nq4, eh4⟩ := hQ4
  have N4 := Fr.app N0 Nq4
  refine own_sh (T := T4) 9 #[.val (.ref x)] [(.int 0), (.int 1)] ?_
  refine own_ishr X4.here hx hby d9_9 (v := (1 : Int32)) (by decide) ?_
  obtain ⟨fs, hr, hrun, hended, hW, hsame⟩ := X4.leave (v := some (.int 1)) (fun h => by rw [Bd.returns] at h; cases h)
  refine own_ret (t := T4.setFrames fs) ?_ ⟨_, hrun, hended, _, _, rfl, ?_, ⟨_, rfl⟩, hW, hsame.mono (by decide) (by decide)⟩
  · exact retOut X4 hx Bd.returns rfl (Or.inl ⟨rfl, Or.inl rfl, _, rfl⟩) (hb hby d9_10) hr
  · show Q_strLen_1 Z _ _ _ _ _ h0 n0 _ T4.heap _
    rw [eh4]
    exact ⟨rfl, N4, rfl⟩
def Q_stw2_n5 (Z : State) (x : Nat) (x2 : Nat) (t : Nat) (t2 : Nat) (kb : ClassId) (kc : ClassId) (zc : Int32) (u : Int32) (h0 : Heap) (n0 : Nat) (vR : Option Value) (hR : Heap) (LR : List Loc) : Prop := vR = some (.int 0) ∧ Fr n0 LR ∧ hR = h0
set_option maxRecDepth 65536 in
set_option maxHeartbeats 40000000 in
theorem stw2_n5 (l : Launch) (Z : State) (a0 : Array Value) (hw : ∀ d ∈ tables_1, d.before a0 Z = true) (ws : List Jvm.Cond) (x : Nat) (x2 : Nat) (t : Nat) (t2 : Nat) (kb : ClassId) (kc : ClassId) (zc : Int32) (u : Int32) (h0 : Heap) (n0 : Nat) (Z0 : n0 ≤ h0.size) (E_x : Exa Z h0 x "java/lang/String") (E_x2 : Exa Z h0 x2 "java/lang/String") (Fc_x : Fld Z h0 x "java/lang/String" "coder" "B" (.int 0)) (Fv_x : Fld Z h0 x "java/lang/String" "value" "[B" (.ref t)) (V_t : Arv Z h0 t kb .byte (1 : Int32) [(.int u)] (.int 0)) (Fc_x2 : Fld Z h0 x2 "java/lang/String" "coder" "B" (.int 0)) (Fv_x2 : Fld Z h0 x2 "java/lang/String" "value" "[B" (.ref t2)) (V_t2 : Arv Z h0 t2 kc .byte (7 : Int32) [(.int 66), (.int 105), (.int 110), (.int 97), (.int 114), (.int 121), (.int 46)] (.int 0)) (S_C : Sta Z h0 "java/lang/String" "COMPACT_STRINGS" "Z" (.int zc)) (hz : ¬ (zc = (0 : Int32))) :
    own_M l (⟨"java/lang/String", "startsWith", "(Ljava/lang/String;I)Z"⟩ : MethodName) jdk_42_method_75_code 8 (some .boolean) ws ({ frames := 2, cells := 0, slots := 0, locals := 27 } : Room) Z #[(.ref x), (.ref x2), (.int 0)] h0 (Q_stw2_n5 Z x x2 t t2 kb kc zc u h0 n0) := by
  refine own_body (own := "java/lang/String") rfl (plainFor_of_name pn_8) (fun m => ef_stw2_b2 m x x2 (0 : Int32)) ?_
  intro p e s m below meth c s₁ Bd hml hZ hh hx hby hown X0 e0
  have N0 := Fr.nil n0
  have lt1 : h0.size > x := E_x.lt
  have lt3 : h0.size > x2 := E_x2.lt
  have lt4 : h0.size > t := V_t.lt
  have lt5 : h0.size > t2 := V_t2.lt
  refine own_iloadN X0.here hx hby d8_0 rfl ?_
  refine own_ifNo X0.here hx hby d8_1 ((if0 _ _).trans (flt (show ¬ ((0 : Int32) < (0 : Int32)) from (by decide))).1) ?_
  refine own_iloadN X0.here hx hby d8_4 rfl ?_
  refine own_aloadN X0.here hx hby d8_5 rfl rfl ?_
  refine own_virtual X0 hx hZ hown (own_w hw 57 rfl) (own_w hw 58 rfl) (notFace_of_selects (args := #[]) (mvT hZ (own_w hw 60 rfl))) (own_w hw 60 rfl) (own_w hw 59 rfl) (own_w hw 25 rfl) (own_w hw 61 rfl) (by decide) (strLen_1 l Z a0 hw [] x t kb zc ([(.int u)]) h0 n0 Z0 E_x Fc_x Fv_x V_t S_C hz) 1 (Nat.le_of_eq rfl) (by decide) (by decide) (by rw [hml]; rfl) (argsL := []) (st := [(.int 0)]) E_x (lenOf pd_5 rfl) rfl rfl (by decide) (by decide) e0 hby d8_6 ?_
  intro T6 v6 L6 X6 hQ6
  obtain ⟨rfl, Nq6, eh6⟩ := hQ6
  have N6 := Fr.app N0 Nq6
  refine own_sh (T := T6) 9 #[.val (.ref x), .val (.ref x2), .val (.int 0), .unset, .unset, .unset, .unset, .unset] [(.int 1), (.int 0)] ?_
  refine own_aloadN X6.here hx hby d8_9 rfl rfl ?_
  refine own_virtual X6 hx hZ hown (own_w hw 57 rfl) (own_w hw 58 rfl) (notFace_of_selects (args := #[]) (mvT hZ (own_w hw 60 rfl))) (own_w hw 60 rfl) (own_w hw 59 rfl) (own_w hw 25 rfl) (own_w hw 61 rfl) (by decide) (strLen_7 l Z a0 hw [] x2 t2 kc zc ([(.int 66), (.int 105), (.int 110), (.int 97), (.int 114), (.int 121), (.int 46)]) h0 n0 Z0 E_x2 Fc_x2 Fv_x2 V_t2 S_C hz) 2 (Nat.le_of_eq rfl) (by decide) (by decide) (by rw [hml]; rfl) (argsL := []) (st := [(.int 1), (.int 0)]) E_x2 (lenOf pd_5 rfl) rfl rfl (by decide) (by decide) eh6 hby d8_10 ?_
  intro T7 v7 L7 X7 hQ7
  obtain ⟨rfl, Nq7, eh7⟩ := hQ7
  have N7 := Fr.app N6 Nq7
  refine own_sh (T := T7) 13 #[.val (.ref x), .val (.ref x2), .val (.int 0), .unset, .unset, .unset, .unset, .unset] [(.int 7), (.int 1), (.int 0)] ?_
  refine own_isub X7.here hx hby d8_13 (v := (-6 : Int32)) (by decide) ?_
  refine own_icmpNo X7.here hx hby d8_14 (tlt (show (-6 : Int32) < (0 : Int32) from (by decide))).2.2.2 ?_
  refine own_iconst X7.here hx hby d8_17 (v := (0 : Int32)) (by decide) ?_
  obtain ⟨fs, hr, hrun, hended, hW, hsame⟩ := X7.leave (v := some (.int 0)) (fun h => by rw [Bd.returns] at h; cases h)
  refine own_ret (t := T7.setFrames fs) ?_ ⟨_, hrun, hended, _, _, rfl, ?_, ⟨_, rfl⟩, hW, hsame.mono (by decide) (by decide)⟩
  · exact retN X7 hx (t := .boolean) Bd.returns (by simp) (hb hby d8_18) hr
  · show Q_stw2_n5 Z _ _ _ _ _ _ _ _ h0 n0 _ T7.heap _
    rw [eh7]
    exact ⟨rfl, N7, rfl⟩
def Q_stw_n5 (Z : State) (x : Nat) (x2 : Nat) (t : Nat) (t2 : Nat) (kb : ClassId) (kc : ClassId) (zc : Int32) (u : Int32) (h0 : Heap) (n0 : Nat) (vR : Option Value) (hR : Heap) (LR : List Loc) : Prop := vR = some (.int 0) ∧ Fr n0 LR ∧ hR = h0
set_option maxRecDepth 65536 in
set_option maxHeartbeats 40000000 in
theorem stw_n5 (l : Launch) (Z : State) (a0 : Array Value) (hw : ∀ d ∈ tables_1, d.before a0 Z = true) (ws : List Jvm.Cond) (x : Nat) (x2 : Nat) (t : Nat) (t2 : Nat) (kb : ClassId) (kc : ClassId) (zc : Int32) (u : Int32) (h0 : Heap) (n0 : Nat) (Z0 : n0 ≤ h0.size) (E_x : Exa Z h0 x "java/lang/String") (E_x2 : Exa Z h0 x2 "java/lang/String") (Fc_x : Fld Z h0 x "java/lang/String" "coder" "B" (.int 0)) (Fv_x : Fld Z h0 x "java/lang/String" "value" "[B" (.ref t)) (V_t : Arv Z h0 t kb .byte (1 : Int32) [(.int u)] (.int 0)) (Fc_x2 : Fld Z h0 x2 "java/lang/String" "coder" "B" (.int 0)) (Fv_x2 : Fld Z h0 x2 "java/lang/String" "value" "[B" (.ref t2)) (V_t2 : Arv Z h0 t2 kc .byte (7 : Int32) [(.int 66), (.int 105), (.int 110), (.int 97), (.int 114), (.int 121), (.int 46)] (.int 0)) (S_C : Sta Z h0 "java/lang/String" "COMPACT_STRINGS" "Z" (.int zc)) (hz : ¬ (zc = (0 : Int32))) :
    own_M l (⟨"java/lang/String", "startsWith", "(Ljava/lang/String;)Z"⟩ : MethodName) jdk_42_method_76_code 2 (some .boolean) ws ({ frames := 3, cells := 0, slots := 0, locals := 46 } : Room) Z #[(.ref x), (.ref x2)] h0 (Q_stw_n5 Z x x2 t t2 kb kc zc u h0 n0) := by
  refine own_body (own := "java/lang/String") rfl (plainFor_of_name pn_7) (fun m => ef_stw_b2 m x x2) ?_
  intro p e s m below meth c s₁ Bd hml hZ hh hx hby hown X0 e0
  have N0 := Fr.nil n0
  have lt1 : h0.size > x := E_x.lt
  have lt3 : h0.size > x2 := E_x2.lt
  have lt4 : h0.size > t := V_t.lt
  have lt5 : h0.size > t2 := V_t2.lt
  refine own_aloadN X0.here hx hby d7_0 rfl rfl ?_
  refine own_aloadN X0.here hx hby d7_1 rfl rfl ?_
  refine own_iconst X0.here hx hby d7_2 (v := (0 : Int32)) (by decide) ?_
  refine own_virtual X0 hx hZ hown (own_w hw 52 rfl) (own_w hw 53 rfl) (notFace_of_selects (args := #[]) (mvT hZ (own_w hw 55 rfl))) (own_w hw 55 rfl) (own_w hw 54 rfl) (own_w hw 25 rfl) (own_w hw 56 rfl) (by decide) (stw2_n5 l Z a0 hw [] x x2 t t2 kb kc zc u h0 n0 Z0 E_x E_x2 Fc_x Fv_x V_t Fc_x2 Fv_x2 V_t2 S_C hz) 0 (Nat.le_of_eq rfl) (by decide) (by decide) (by rw [hml]; rfl) (argsL := [(.ref x2), (.int 0)]) (st := []) E_x (lenOf pd_7 rfl) rfl rfl (by decide) (by decide) e0 hby d7_3 ?_
  intro T6 v6 L6 X6 hQ6
  obtain ⟨rfl, Nq6, eh6⟩ := hQ6
  have N6 := Fr.app N0 Nq6
  refine own_sh (T := T6) 6 #[.val (.ref x), .val (.ref x2)] [(.int 0)] ?_
  obtain ⟨fs, hr, hrun, hended, hW, hsame⟩ := X6.leave (v := some (.int 0)) (fun h => by rw [Bd.returns] at h; cases h)
  refine own_ret (t := T6.setFrames fs) ?_ ⟨_, hrun, hended, _, _, rfl, ?_, ⟨_, rfl⟩, hW, hsame.mono (by decide) (by decide)⟩
  · exact retN X6 hx (t := .boolean) Bd.returns (by simp) (hb hby d7_6) hr
  · show Q_stw_n5 Z _ _ _ _ _ _ _ _ h0 n0 _ T6.heap _
    rw [eh6]
    exact ⟨rfl, N6, rfl⟩
theorem ef_isBin_B (m : MethodId) (x0 : Nat) : entryFrame m #[(.ref x0)] 1 = mkF m 0 #[.val (.ref x0)] [] := by first | (simp [entryFrame, mkF, argsToLocals, Value.category]; done) | rfl
theorem pn_3 : plainName "com/example/sluice/sluice/MessageAttribute" = true := by first | (simp [plainName, overriddenIn]; done) | decide +kernel
theorem own_EW {Z : State} {a0 : Array Value} (hw : ∀ d ∈ tables_1, d.before a0 Z = true) : EW Z a0 consts_1 := (EW.cons (own_w hw 31 rfl) (by decide) (EW.cons (own_w hw 46 rfl) (by decide) (EW.cons (own_w hw 102 rfl) (by decide) (EW.cons (own_w hw 24 rfl) (by decide) (EW.cons (own_w hw 112 rfl) (by decide) EW.nil)))))
theorem d3_0 : decode prog_6_method_12_code 0 = .ok (.aload_n 0, 1) := by decide +kernel
theorem d3_1 : decode prog_6_method_12_code 1 = .ok (.ifnull 25, 3) := by decide +kernel
theorem d3_4 : decode prog_6_method_12_code 4 = .ok (.aload_n 0, 1) := by decide +kernel
theorem d3_5 : decode prog_6_method_12_code 5 = .ok (.ldc 189, 2) := by decide +kernel
theorem own_wS {Z : State} {a0 : Array Value} (hw : ∀ d ∈ tables_1, d.before a0 Z = true) : ∀ a ∈ Bundle.stringAtoms, a.before a0 Z = true := by
  intro a ha
  simp only [Bundle.stringAtoms, Bundle.sN, List.mem_cons, List.not_mem_nil, or_false] at ha
  rcases ha with rfl | rfl | rfl | rfl | rfl | rfl | rfl
  · exact own_w hw 25 rfl
  · exact own_w hw 26 rfl
  · exact own_w hw 0 rfl
  · exact own_w hw 27 rfl
  · exact own_w hw 28 rfl
  · exact own_w hw 29 rfl
  · exact own_w hw 30 rfl
theorem d3_7 : decode prog_6_method_12_code 7 = .ok (.invokevirtual 95, 3) := by decide +kernel
theorem pd_8 : parseMethodDescriptor "(Ljava/lang/Object;)Z" = some ⟨[(.object "java/lang/Object")], some .boolean⟩ := by decide +kernel
theorem d3_10 : decode prog_6_method_12_code 10 = .ok (.ifCond .ne 12, 3) := by decide +kernel
theorem d3_22 : decode prog_6_method_12_code 22 = .ok (.iconst 1, 1) := by decide +kernel
theorem d3_23 : decode prog_6_method_12_code 23 = .ok (.goto 4, 3) := by decide +kernel
theorem d3_27 : decode prog_6_method_12_code 27 = .ok (.ireturn, 1) := by decide +kernel
theorem d3_13 : decode prog_6_method_12_code 13 = .ok (.aload_n 0, 1) := by decide +kernel
theorem d3_14 : decode prog_6_method_12_code 14 = .ok (.ldc 191, 2) := by decide +kernel
theorem d3_16 : decode prog_6_method_12_code 16 = .ok (.invokevirtual 193, 3) := by decide +kernel
theorem pd_9 : parseMethodDescriptor "(Ljava/lang/String;)Z" = some ⟨[(.object "java/lang/String")], some .boolean⟩ := by decide +kernel
theorem d3_19 : decode prog_6_method_12_code 19 = .ok (.ifCond .eq 7, 3) := by decide +kernel
def Q_isBin_B (Z : State) (x : Nat) (t : Nat) (kt : ClassId) (n : Int32) (vs_ : List Value) (zc : Int32) (h0 : Heap) (n0 : Nat) (vR : Option Value) (hR : Heap) (LR : List Loc) : Prop := vR = some (.int 1) ∧ Fr n0 LR ∧ Keep h0 hR []
set_option maxRecDepth 65536 in
set_option maxHeartbeats 40000000 in
theorem isBin_B (l : Launch) (Z : State) (a0 : Array Value) (hw : ∀ d ∈ tables_1, d.before a0 Z = true) (ws : List Jvm.Cond) (x : Nat) (t : Nat) (kt : ClassId) (n : Int32) (vs_ : List Value) (zc : Int32) (h0 : Heap) (n0 : Nat) (Z0 : n0 ≤ h0.size) (E_x : Exa Z h0 x "java/lang/String") (Fc_x : Fld Z h0 x "java/lang/String" "coder" "B" (.int 0)) (Fv_x : Fld Z h0 x "java/lang/String" "value" "[B" (.ref t)) (V_t : Arv Z h0 t kt .byte n vs_ (.int 0)) (S_C : Sta Z h0 "java/lang/String" "COMPACT_STRINGS" "Z" (.int zc)) (hz : ¬ (zc = (0 : Int32))) (hK : own_kindB n vs_) :
    own_MH l (⟨"com/example/sluice/sluice/MessageAttribute", "isBinary", "(Ljava/lang/String;)Z"⟩ : MethodName) prog_6_method_12_code 1 (some .boolean) ws ({ frames := 4, cells := 4, slots := 60, locals := 59 } : Room) Z #[(.ref x)] h0 (Q_isBin_B Z x t kt n vs_ zc h0 n0) consts_1 := by
  refine own_bodyH (own := "com/example/sluice/sluice/MessageAttribute") rfl (plainFor_of_name pn_3) (fun m => ef_isBin_B m x) ?_
  intro p e s m below meth c s₁ Bd hml hZ hh hx hby hown X0 e0 hS0 CH0
  have N0 := Fr.nil n0
  have hk0 : h0.size ≤ h0.size := Nat.le_refl _
  have Y0 : Stand p l e ({ frames := 4, cells := 4, slots := 60, locals := 59 } : Room) (s.setVm s.vm) m #[(.ref x)] below meth c s₁ [] 0 0 := X0
  have hEL := own_EW hw
  have C0 := CHr.refl CH0
  have lt1 : h0.size > x := E_x.lt
  have lt2 : h0.size > t := V_t.lt
  refine own_sh (T := s₁) 0 #[.val (.ref x)] [] ?_
  rcases hK with ⟨hn, hv⟩ | ⟨hn, hv⟩ | ⟨u, hn, hv⟩
  · have V_k : Arv Z h0 t kt .byte (6 : Int32) [(.int 66), (.int 105), (.int 110), (.int 97), (.int 114), (.int 121)] (.int 0) := by
      have q := V_t
      rw [hn, hv] at q
      exact q
    refine own_aloadN Y0.here hx hby d3_0 rfl rfl ?_
    refine own_ifnullNo Y0.here hx hby d3_1 ?_
    refine own_aloadN Y0.here hx hby d3_4 rfl rfl ?_
    have own_wS0 : ∀ a ∈ Bundle.stringAtoms, a.before a0 Z = true := own_wS hw
    refine own_ldcCH Y0 hx hZ hEL hown (own_w hw 31 rfl) own_wS0 e0 hS0 (by omega) C0.1 (List.mem_of_getElem? (i := 0) rfl) (vs := [(.int 66), (.int 105), (.int 110), (.int 97), (.int 114), (.int 121)]) (z := (6 : Int32)) ⟨by decide, by decide⟩ (by decide) (by decide) hby d3_5 24 (by decide) (by decide) (by decide) (by decide) ?_
    intro a3 T3 h3 kk3 vm3 b3 kb3 X3 e3 E3 hS3 hk3 hZ3 hown3 Ea3 Fc3 Fv3 Va3 la3 lb3 Cn3 ns3
    have z4 : h0.size ≤ h3.size := E3.1
    have C5 := C0.trans Cn3
    refine own_sh (T := T3) 7 #[.val (.ref x)] [(.ref a3), (.ref x)] ?_
    by_cases hxa : x = a3
    · have z7 : n0 ≤ h3.size := by omega
      have f8 := (E_x.ext E3)
      refine own_virtual X3 hx hZ3 hown3 (own_w hw 32 rfl) (own_w hw 33 rfl) (notFace_of_selects (args := #[]) (mvT hZ3 (own_w hw 35 rfl))) (own_w hw 35 rfl) (own_w hw 34 rfl) (own_w hw 25 rfl) (own_w hw 36 rfl) (by decide) (strEqId l Z a0 hw [] x a3 h3 n0 z7 hxa) 0 (Nat.le_of_eq rfl) (by decide) (by decide) (by rw [hml]; rfl) (argsL := [(.ref a3)]) (st := []) f8 (lenOf pd_8 rfl) rfl rfl (by decide) (by decide) e3 hby d3_7 ?_
      intro T6 v6 L6 X6 hQ6
      obtain ⟨rfl, Nq6, eh6⟩ := hQ6
      have N6 := Fr.app N0 Nq6
      refine own_sh (T := T6) 10 #[.val (.ref x)] [(.int 1)] ?_
      refine own_ifYes X6.here hx hby (pc' := 22) d3_10 ((if0 _ _).trans (feq (show ¬ ((1 : Int32) = (0 : Int32)) from (by decide))).2) (by decide) (by decide) ?_
      refine own_iconst X6.here hx hby d3_22 (v := (1 : Int32)) (by decide) ?_
      refine own_goto X6.here hx hby (pc' := 27) d3_23 (by decide) (by decide) ?_
      have K9 : Keep h0 h3 [] := ((Keep.refl h0 []).ext E3)
      obtain ⟨fs, hr, hrun, hended, hRW⟩ := X6.leaveW hS3 (by rw [eh6]; omega) (v := some (.int 1)) (fun h => by rw [Bd.returns] at h; cases h)
      have hCf : CHr Z consts_1 s.vm s.heap T6.vm T6.heap := by
        rw [hh, eh6]
        exact C5.trans (CHv.at X6 hZ3 hEL C5.1)
      refine own_ret (t := T6.setFrames fs) ?_ ⟨_, hrun, hended, _, _, rfl, ?_, hCf, hRW.1, hRW.2.1, hRW.2.2.1, hRW.2.2.2.mono (by decide) (by decide)⟩
      · exact retN X6 hx (t := .boolean) Bd.returns (by simp) (hb hby d3_27) hr
      · show Q_isBin_B Z _ _ _ _ _ _ h0 n0 _ T6.heap _
        rw [eh6]
        exact ⟨rfl, N6, K9⟩
    · have f10 := (E_x.ext E3)
      have f11 := (Fc_x.ext E3)
      have f12 := (Fv_x.ext E3)
      have f13 := (V_k.ext E3)
      have f14 := (S_C.ext E3)
      have z16 : n0 ≤ h3.size := by omega
      refine own_virtual X3 hx hZ3 hown3 (own_w hw 32 rfl) (own_w hw 33 rfl) (notFace_of_selects (args := #[]) (mvT hZ3 (own_w hw 35 rfl))) (own_w hw 35 rfl) (own_w hw 34 rfl) (own_w hw 25 rfl) (own_w hw 36 rfl) (by decide) (strEq_b1 l Z a0 hw [] x a3 t b3 kt kb3 zc h3 n0 z16 f10 Ea3 hxa f11 f12 f13 Fc3 Fv3 Va3 f14 hz) 0 (Nat.le_of_eq rfl) (by decide) (by decide) (by rw [hml]; rfl) (argsL := [(.ref a3)]) (st := []) f10 (lenOf pd_8 rfl) rfl rfl (by decide) (by decide) e3 hby d3_7 ?_
      intro T15 v15 L15 X15 hQ15
      obtain ⟨rfl, Nq15, eh15⟩ := hQ15
      have N15 := Fr.app N0 Nq15
      refine own_sh (T := T15) 10 #[.val (.ref x)] [(.int 1)] ?_
      refine own_ifYes X15.here hx hby (pc' := 22) d3_10 ((if0 _ _).trans (feq (show ¬ ((1 : Int32) = (0 : Int32)) from (by decide))).2) (by decide) (by decide) ?_
      refine own_iconst X15.here hx hby d3_22 (v := (1 : Int32)) (by decide) ?_
      refine own_goto X15.here hx hby (pc' := 27) d3_23 (by decide) (by decide) ?_
      have K17 : Keep h0 h3 [] := ((Keep.refl h0 []).ext E3)
      obtain ⟨fs, hr, hrun, hended, hRW⟩ := X15.leaveW hS3 (by rw [eh15]; omega) (v := some (.int 1)) (fun h => by rw [Bd.returns] at h; cases h)
      have hCf : CHr Z consts_1 s.vm s.heap T15.vm T15.heap := by
        rw [hh, eh15]
        exact C5.trans (CHv.at X15 hZ3 hEL C5.1)
      refine own_ret (t := T15.setFrames fs) ?_ ⟨_, hrun, hended, _, _, rfl, ?_, hCf, hRW.1, hRW.2.1, hRW.2.2.1, hRW.2.2.2.mono (by decide) (by decide)⟩
      · exact retN X15 hx (t := .boolean) Bd.returns (by simp) (hb hby d3_27) hr
      · show Q_isBin_B Z _ _ _ _ _ _ h0 n0 _ T15.heap _
        rw [eh15]
        exact ⟨rfl, N15, K17⟩
  · have V_k : Arv Z h0 t kt .byte (7 : Int32) [(.int 66), (.int 105), (.int 110), (.int 97), (.int 114), (.int 121), (.int 46)] (.int 0) := by
      have q := V_t
      rw [hn, hv] at q
      exact q
    refine own_aloadN Y0.here hx hby d3_0 rfl rfl ?_
    refine own_ifnullNo Y0.here hx hby d3_1 ?_
    refine own_aloadN Y0.here hx hby d3_4 rfl rfl ?_
    have own_wS0 : ∀ a ∈ Bundle.stringAtoms, a.before a0 Z = true := own_wS hw
    refine own_ldcCH Y0 hx hZ hEL hown (own_w hw 31 rfl) own_wS0 e0 hS0 (by omega) C0.1 (List.mem_of_getElem? (i := 0) rfl) (vs := [(.int 66), (.int 105), (.int 110), (.int 97), (.int 114), (.int 121)]) (z := (6 : Int32)) ⟨by decide, by decide⟩ (by decide) (by decide) hby d3_5 24 (by decide) (by decide) (by decide) (by decide) ?_
    intro a18 T18 h18 kk18 vm18 b18 kb18 X18 e18 E18 hS18 hk18 hZ18 hown18 Ea18 Fc18 Fv18 Va18 la18 lb18 Cn18 ns18
    have z19 : h0.size ≤ h18.size := E18.1
    have C20 := C0.trans Cn18
    have f21 := (Fv_x.ext E18)
    have f22 := (V_k.ext E18)
    have f23 := (E_x.ext E18)
    have f24 := (Fc_x.ext E18)
    have f25 := (S_C.ext E18)
    have z27 : n0 ≤ h18.size := by omega
    refine own_virtual X18 hx hZ18 hown18 (own_w hw 32 rfl) (own_w hw 33 rfl) (notFace_of_selects (args := #[]) (mvT hZ18 (own_w hw 35 rfl))) (own_w hw 35 rfl) (own_w hw 34 rfl) (own_w hw 25 rfl) (own_w hw 36 rfl) (by decide) (strEq_b2 l Z a0 hw [] x a18 t b18 kt kb18 zc h18 n0 z27 f23 Ea18 (own_ne_str f21 Fv18 f22 Va18 (fun q => absurd q (by decide))) f24 f21 f22 Fc18 Fv18 Va18 f25 hz) 0 (Nat.le_of_eq rfl) (by decide) (by decide) (by rw [hml]; rfl) (argsL := [(.ref a18)]) (st := []) f23 (lenOf pd_8 rfl) rfl rfl (by decide) (by decide) e18 hby d3_7 ?_
    intro T26 v26 L26 X26 hQ26
    obtain ⟨rfl, Nq26, eh26⟩ := hQ26
    have N26 := Fr.app N0 Nq26
    refine own_sh (T := T26) 10 #[.val (.ref x)] [(.int 0)] ?_
    refine own_ifNo X26.here hx hby d3_10 ((if0 _ _).trans (teq (show (0 : Int32) = (0 : Int32) from (by decide))).2) ?_
    refine own_aloadN X26.here hx hby d3_13 rfl rfl ?_
    refine own_ldcCH X26 hx hZ18 hEL hown18 (own_w hw 46 rfl) own_wS0 eh26 hS18 (by omega) C20.1 (List.mem_of_getElem? (i := 1) rfl) (vs := [(.int 66), (.int 105), (.int 110), (.int 97), (.int 114), (.int 121), (.int 46)]) (z := (7 : Int32)) ⟨by decide, by decide⟩ (by decide) (by decide) hby d3_14 28 (by decide) (by decide) (by decide) (by decide) ?_
    intro a28 T28 h28 kk28 vm28 b28 kb28 X28 e28 E28 hS28 hk28 hZ28 hown28 Ea28 Fc28 Fv28 Va28 la28 lb28 Cn28 ns28
    have z29 : h18.size ≤ h28.size := E28.1
    have C30 := C20.trans Cn28
    have f31 := (f23.ext E28)
    have f32 := (f24.ext E28)
    have f33 := (f21.ext E28)
    have f34 := (f22.ext E28)
    have f35 := (f25.ext E28)
    have z37 : n0 ≤ h28.size := by omega
    refine own_virtual X28 hx hZ28 hown28 (own_w hw 47 rfl) (own_w hw 48 rfl) (notFace_of_selects (args := #[]) (mvT hZ28 (own_w hw 50 rfl))) (own_w hw 50 rfl) (own_w hw 49 rfl) (own_w hw 25 rfl) (own_w hw 51 rfl) (by decide) (stw_b2 l Z a0 hw [] x a28 t b28 kt kb28 zc h28 n0 z37 f31 Ea28 f32 f33 f34 Fc28 Fv28 Va28 f35 hz) 0 (Nat.le_of_eq rfl) (by decide) (by decide) (by rw [hml]; rfl) (argsL := [(.ref a28)]) (st := []) f31 (lenOf pd_9 rfl) rfl rfl (by decide) (by decide) e28 hby d3_16 ?_
    intro T36 v36 L36 X36 hQ36
    obtain ⟨rfl, Nq36, eh36⟩ := hQ36
    have N36 := Fr.app N26 Nq36
    refine own_sh (T := T36) 19 #[.val (.ref x)] [(.int 1)] ?_
    refine own_ifNo X36.here hx hby d3_19 ((if0 _ _).trans (feq (show ¬ ((1 : Int32) = (0 : Int32)) from (by decide))).1) ?_
    refine own_iconst X36.here hx hby d3_22 (v := (1 : Int32)) (by decide) ?_
    refine own_goto X36.here hx hby (pc' := 27) d3_23 (by decide) (by decide) ?_
    have K38 : Keep h0 h28 [] := (((Keep.refl h0 []).ext E18).ext E28)
    obtain ⟨fs, hr, hrun, hended, hRW⟩ := X36.leaveW hS28 (by rw [eh36]; omega) (v := some (.int 1)) (fun h => by rw [Bd.returns] at h; cases h)
    have hCf : CHr Z consts_1 s.vm s.heap T36.vm T36.heap := by
      rw [hh, eh36]
      exact C30.trans (CHv.at X36 hZ28 hEL C30.1)
    refine own_ret (t := T36.setFrames fs) ?_ ⟨_, hrun, hended, _, _, rfl, ?_, hCf, hRW.1, hRW.2.1, hRW.2.2.1, hRW.2.2.2.mono (by decide) (by decide)⟩
    · exact retN X36 hx (t := .boolean) Bd.returns (by simp) (hb hby d3_27) hr
    · show Q_isBin_B Z _ _ _ _ _ _ h0 n0 _ T36.heap _
      rw [eh36]
      exact ⟨rfl, N36, K38⟩
  · have V_k : Arv Z h0 t kt .byte (8 : Int32) [(.int 66), (.int 105), (.int 110), (.int 97), (.int 114), (.int 121), (.int 46), (.int u)] (.int 0) := by
      have q := V_t
      rw [hn, hv] at q
      exact q
    refine own_aloadN Y0.here hx hby d3_0 rfl rfl ?_
    refine own_ifnullNo Y0.here hx hby d3_1 ?_
    refine own_aloadN Y0.here hx hby d3_4 rfl rfl ?_
    have own_wS0 : ∀ a ∈ Bundle.stringAtoms, a.before a0 Z = true := own_wS hw
    refine own_ldcCH Y0 hx hZ hEL hown (own_w hw 31 rfl) own_wS0 e0 hS0 (by omega) C0.1 (List.mem_of_getElem? (i := 0) rfl) (vs := [(.int 66), (.int 105), (.int 110), (.int 97), (.int 114), (.int 121)]) (z := (6 : Int32)) ⟨by decide, by decide⟩ (by decide) (by decide) hby d3_5 24 (by decide) (by decide) (by decide) (by decide) ?_
    intro a39 T39 h39 kk39 vm39 b39 kb39 X39 e39 E39 hS39 hk39 hZ39 hown39 Ea39 Fc39 Fv39 Va39 la39 lb39 Cn39 ns39
    have z40 : h0.size ≤ h39.size := E39.1
    have C41 := C0.trans Cn39
    have f42 := (Fv_x.ext E39)
    have f43 := (V_k.ext E39)
    have f44 := (E_x.ext E39)
    have f45 := (Fc_x.ext E39)
    have f46 := (S_C.ext E39)
    have z48 : n0 ≤ h39.size := by omega
    refine own_virtual X39 hx hZ39 hown39 (own_w hw 32 rfl) (own_w hw 33 rfl) (notFace_of_selects (args := #[]) (mvT hZ39 (own_w hw 35 rfl))) (own_w hw 35 rfl) (own_w hw 34 rfl) (own_w hw 25 rfl) (own_w hw 36 rfl) (by decide) (strEq_b3 l Z a0 hw [] x a39 t b39 kt kb39 zc u h39 n0 z48 f44 Ea39 (own_ne_str f42 Fv39 f43 Va39 (fun q => absurd q (by decide))) f45 f42 f43 Fc39 Fv39 Va39 f46 hz) 0 (Nat.le_of_eq rfl) (by decide) (by decide) (by rw [hml]; rfl) (argsL := [(.ref a39)]) (st := []) f44 (lenOf pd_8 rfl) rfl rfl (by decide) (by decide) e39 hby d3_7 ?_
    intro T47 v47 L47 X47 hQ47
    obtain ⟨rfl, Nq47, eh47⟩ := hQ47
    have N47 := Fr.app N0 Nq47
    refine own_sh (T := T47) 10 #[.val (.ref x)] [(.int 0)] ?_
    refine own_ifNo X47.here hx hby d3_10 ((if0 _ _).trans (teq (show (0 : Int32) = (0 : Int32) from (by decide))).2) ?_
    refine own_aloadN X47.here hx hby d3_13 rfl rfl ?_
    refine own_ldcCH X47 hx hZ39 hEL hown39 (own_w hw 46 rfl) own_wS0 eh47 hS39 (by omega) C41.1 (List.mem_of_getElem? (i := 1) rfl) (vs := [(.int 66), (.int 105), (.int 110), (.int 97), (.int 114), (.int 121), (.int 46)]) (z := (7 : Int32)) ⟨by decide, by decide⟩ (by decide) (by decide) hby d3_14 28 (by decide) (by decide) (by decide) (by decide) ?_
    intro a49 T49 h49 kk49 vm49 b49 kb49 X49 e49 E49 hS49 hk49 hZ49 hown49 Ea49 Fc49 Fv49 Va49 la49 lb49 Cn49 ns49
    have z50 : h39.size ≤ h49.size := E49.1
    have C51 := C41.trans Cn49
    have f52 := (f44.ext E49)
    have f53 := (f45.ext E49)
    have f54 := (f42.ext E49)
    have f55 := (f43.ext E49)
    have f56 := (f46.ext E49)
    have z58 : n0 ≤ h49.size := by omega
    refine own_virtual X49 hx hZ49 hown49 (own_w hw 47 rfl) (own_w hw 48 rfl) (notFace_of_selects (args := #[]) (mvT hZ49 (own_w hw 50 rfl))) (own_w hw 50 rfl) (own_w hw 49 rfl) (own_w hw 25 rfl) (own_w hw 51 rfl) (by decide) (stw_b3 l Z a0 hw [] x a49 t b49 kt kb49 zc u h49 n0 z58 f52 Ea49 f53 f54 f55 Fc49 Fv49 Va49 f56 hz) 0 (Nat.le_of_eq rfl) (by decide) (by decide) (by rw [hml]; rfl) (argsL := [(.ref a49)]) (st := []) f52 (lenOf pd_9 rfl) rfl rfl (by decide) (by decide) e49 hby d3_16 ?_
    intro T57 v57 L57 X57 hQ57
    obtain ⟨rfl, Nq57, eh57⟩ := hQ57
    have N57 := Fr.app N47 Nq57
    refine own_sh (T := T57) 19 #[.val (.ref x)] [(.int 1)] ?_
    refine own_ifNo X57.here hx hby d3_19 ((if0 _ _).trans (feq (show ¬ ((1 : Int32) = (0 : Int32)) from (by decide))).1) ?_
    refine own_iconst X57.here hx hby d3_22 (v := (1 : Int32)) (by decide) ?_
    refine own_goto X57.here hx hby (pc' := 27) d3_23 (by decide) (by decide) ?_
    have K59 : Keep h0 h49 [] := (((Keep.refl h0 []).ext E39).ext E49)
    obtain ⟨fs, hr, hrun, hended, hRW⟩ := X57.leaveW hS49 (by rw [eh57]; omega) (v := some (.int 1)) (fun h => by rw [Bd.returns] at h; cases h)
    have hCf : CHr Z consts_1 s.vm s.heap T57.vm T57.heap := by
      rw [hh, eh57]
      exact C51.trans (CHv.at X57 hZ49 hEL C51.1)
    refine own_ret (t := T57.setFrames fs) ?_ ⟨_, hrun, hended, _, _, rfl, ?_, hCf, hRW.1, hRW.2.1, hRW.2.2.1, hRW.2.2.2.mono (by decide) (by decide)⟩
    · exact retN X57 hx (t := .boolean) Bd.returns (by simp) (hb hby d3_27) hr
    · show Q_isBin_B Z _ _ _ _ _ _ h0 n0 _ T57.heap _
      rw [eh57]
      exact ⟨rfl, N57, K59⟩
theorem d3_26 : decode prog_6_method_12_code 26 = .ok (.iconst 0, 1) := by decide +kernel
def Q_isBin_N (Z : State) (x : Nat) (t : Nat) (kt : ClassId) (n : Int32) (vs_ : List Value) (zc : Int32) (h0 : Heap) (n0 : Nat) (vR : Option Value) (hR : Heap) (LR : List Loc) : Prop := vR = some (.int 0) ∧ Fr n0 LR ∧ Keep h0 hR []
set_option maxRecDepth 65536 in
set_option maxHeartbeats 40000000 in
theorem isBin_N (l : Launch) (Z : State) (a0 : Array Value) (hw : ∀ d ∈ tables_1, d.before a0 Z = true) (ws : List Jvm.Cond) (x : Nat) (t : Nat) (kt : ClassId) (n : Int32) (vs_ : List Value) (zc : Int32) (h0 : Heap) (n0 : Nat) (Z0 : n0 ≤ h0.size) (E_x : Exa Z h0 x "java/lang/String") (Fc_x : Fld Z h0 x "java/lang/String" "coder" "B" (.int 0)) (Fv_x : Fld Z h0 x "java/lang/String" "value" "[B" (.ref t)) (V_t : Arv Z h0 t kt .byte n vs_ (.int 0)) (S_C : Sta Z h0 "java/lang/String" "COMPACT_STRINGS" "Z" (.int zc)) (hz : ¬ (zc = (0 : Int32))) (hK : own_kindN n vs_) :
    own_MH l (⟨"com/example/sluice/sluice/MessageAttribute", "isBinary", "(Ljava/lang/String;)Z"⟩ : MethodName) prog_6_method_12_code 1 (some .boolean) ws ({ frames := 4, cells := 4, slots := 60, locals := 59 } : Room) Z #[(.ref x)] h0 (Q_isBin_N Z x t kt n vs_ zc h0 n0) consts_1 := by
  refine own_bodyH (own := "com/example/sluice/sluice/MessageAttribute") rfl (plainFor_of_name pn_3) (fun m => ef_isBin_B m x) ?_
  intro p e s m below meth c s₁ Bd hml hZ hh hx hby hown X0 e0 hS0 CH0
  have N0 := Fr.nil n0
  have hk0 : h0.size ≤ h0.size := Nat.le_refl _
  have Y0 : Stand p l e ({ frames := 4, cells := 4, slots := 60, locals := 59 } : Room) (s.setVm s.vm) m #[(.ref x)] below meth c s₁ [] 0 0 := X0
  have hEL := own_EW hw
  have C0 := CHr.refl CH0
  have lt1 : h0.size > x := E_x.lt
  have lt2 : h0.size > t := V_t.lt
  refine own_sh (T := s₁) 0 #[.val (.ref x)] [] ?_
  rcases hK with ⟨u, hu, hn, hv⟩ | ⟨hn, hv⟩ | ⟨hn, hv⟩ | ⟨u, hu, hn, hv⟩ | ⟨u, hn, hv⟩
  · have V_k : Arv Z h0 t kt .byte (7 : Int32) [(.int 66), (.int 105), (.int 110), (.int 97), (.int 114), (.int 121), (.int u)] (.int 0) := by
      have q := V_t
      rw [hn, hv] at q
      exact q
    refine own_aloadN Y0.here hx hby d3_0 rfl rfl ?_
    refine own_ifnullNo Y0.here hx hby d3_1 ?_
    refine own_aloadN Y0.here hx hby d3_4 rfl rfl ?_
    have own_wS0 : ∀ a ∈ Bundle.stringAtoms, a.before a0 Z = true := own_wS hw
    refine own_ldcCH Y0 hx hZ hEL hown (own_w hw 31 rfl) own_wS0 e0 hS0 (by omega) C0.1 (List.mem_of_getElem? (i := 0) rfl) (vs := [(.int 66), (.int 105), (.int 110), (.int 97), (.int 114), (.int 121)]) (z := (6 : Int32)) ⟨by decide, by decide⟩ (by decide) (by decide) hby d3_5 24 (by decide) (by decide) (by decide) (by decide) ?_
    intro a3 T3 h3 kk3 vm3 b3 kb3 X3 e3 E3 hS3 hk3 hZ3 hown3 Ea3 Fc3 Fv3 Va3 la3 lb3 Cn3 ns3
    have z4 : h0.size ≤ h3.size := E3.1
    have C5 := C0.trans Cn3
    have f6 := (Fv_x.ext E3)
    have f7 := (V_k.ext E3)
    have f8 := (E_x.ext E3)
    have f9 := (Fc_x.ext E3)
    have f10 := (S_C.ext E3)
    have z12 : n0 ≤ h3.size := by omega
    refine own_virtual X3 hx hZ3 hown3 (own_w hw 32 rfl) (own_w hw 33 rfl) (notFace_of_selects (args := #[]) (mvT hZ3 (own_w hw 35 rfl))) (own_w hw 35 rfl) (own_w hw 34 rfl) (own_w hw 25 rfl) (own_w hw 36 rfl) (by decide) (strEq_n1 l Z a0 hw [] x a3 t b3 kt kb3 zc u h3 n0 z12 f8 Ea3 (own_ne_str f6 Fv3 f7 Va3 (fun q => absurd q (by decide))) f9 f6 f7 Fc3 Fv3 Va3 f10 hz) 0 (Nat.le_of_eq rfl) (by decide) (by decide) (by rw [hml]; rfl) (argsL := [(.ref a3)]) (st := []) f8 (lenOf pd_8 rfl) rfl rfl (by decide) (by decide) e3 hby d3_7 ?_
    intro T11 v11 L11 X11 hQ11
    obtain ⟨rfl, Nq11, eh11⟩ := hQ11
    have N11 := Fr.app N0 Nq11
    refine own_sh (T := T11) 10 #[.val (.ref x)] [(.int 0)] ?_
    refine own_ifNo X11.here hx hby d3_10 ((if0 _ _).trans (teq (show (0 : Int32) = (0 : Int32) from (by decide))).2) ?_
    refine own_aloadN X11.here hx hby d3_13 rfl rfl ?_
    refine own_ldcCH X11 hx hZ3 hEL hown3 (own_w hw 46 rfl) own_wS0 eh11 hS3 (by omega) C5.1 (List.mem_of_getElem? (i := 1) rfl) (vs := [(.int 66), (.int 105), (.int 110), (.int 97), (.int 114), (.int 121), (.int 46)]) (z := (7 : Int32)) ⟨by decide, by decide⟩ (by decide) (by decide) hby d3_14 28 (by decide) (by decide) (by decide) (by decide) ?_
    intro a13 T13 h13 kk13 vm13 b13 kb13 X13 e13 E13 hS13 hk13 hZ13 hown13 Ea13 Fc13 Fv13 Va13 la13 lb13 Cn13 ns13
    have z14 : h3.size ≤ h13.size := E13.1
    have C15 := C5.trans Cn13
    have f16 := (f8.ext E13)
    have f17 := (f9.ext E13)
    have f18 := (f6.ext E13)
    have f19 := (f7.ext E13)
    have f20 := (f10.ext E13)
    have z22 : n0 ≤ h13.size := by omega
    refine own_virtual X13 hx hZ13 hown13 (own_w hw 47 rfl) (own_w hw 48 rfl) (notFace_of_selects (args := #[]) (mvT hZ13 (own_w hw 50 rfl))) (own_w hw 50 rfl) (own_w hw 49 rfl) (own_w hw 25 rfl) (own_w hw 51 rfl) (by decide) (stw_n1 l Z a0 hw [] x a13 t b13 kt kb13 zc u h13 n0 z22 f16 Ea13 f17 f18 f19 Fc13 Fv13 Va13 f20 hz hu) 0 (Nat.le_of_eq rfl) (by decide) (by decide) (by rw [hml]; rfl) (argsL := [(.ref a13)]) (st := []) f16 (lenOf pd_9 rfl) rfl rfl (by decide) (by decide) e13 hby d3_16 ?_
    intro T21 v21 L21 X21 hQ21
    obtain ⟨rfl, Nq21, eh21⟩ := hQ21
    have N21 := Fr.app N11 Nq21
    refine own_sh (T := T21) 19 #[.val (.ref x)] [(.int 0)] ?_
    refine own_ifYes X21.here hx hby (pc' := 26) d3_19 ((if0 _ _).trans (teq (show (0 : Int32) = (0 : Int32) from (by decide))).1) (by decide) (by decide) ?_
    refine own_iconst X21.here hx hby d3_26 (v := (0 : Int32)) (by decide) ?_
    have K23 : Keep h0 h13 [] := (((Keep.refl h0 []).ext E3).ext E13)
    obtain ⟨fs, hr, hrun, hended, hRW⟩ := X21.leaveW hS13 (by rw [eh21]; omega) (v := some (.int 0)) (fun h => by rw [Bd.returns] at h; cases h)
    have hCf : CHr Z consts_1 s.vm s.heap T21.vm T21.heap := by
      rw [hh, eh21]
      exact C15.trans (CHv.at X21 hZ13 hEL C15.1)
    refine own_ret (t := T21.setFrames fs) ?_ ⟨_, hrun, hended, _, _, rfl, ?_, hCf, hRW.1, hRW.2.1, hRW.2.2.1, hRW.2.2.2.mono (by decide) (by decide)⟩
    · exact retN X21 hx (t := .boolean) Bd.returns (by simp) (hb hby d3_27) hr
    · show Q_isBin_N Z _ _ _ _ _ _ h0 n0 _ T21.heap _
      rw [eh21]
      exact ⟨rfl, N21, K23⟩
  · have V_k : Arv Z h0 t kt .byte (6 : Int32) [(.int 83), (.int 116), (.int 114), (.int 105), (.int 110), (.int 103)] (.int 0) := by
      have q := V_t
      rw [hn, hv] at q
      exact q
    refine own_aloadN Y0.here hx hby d3_0 rfl rfl ?_
    refine own_ifnullNo Y0.here hx hby d3_1 ?_
    refine own_aloadN Y0.here hx hby d3_4 rfl rfl ?_
    have own_wS0 : ∀ a ∈ Bundle.stringAtoms, a.before a0 Z = true := own_wS hw
    refine own_ldcCH Y0 hx hZ hEL hown (own_w hw 31 rfl) own_wS0 e0 hS0 (by omega) C0.1 (List.mem_of_getElem? (i := 0) rfl) (vs := [(.int 66), (.int 105), (.int 110), (.int 97), (.int 114), (.int 121)]) (z := (6 : Int32)) ⟨by decide, by decide⟩ (by decide) (by decide) hby d3_5 24 (by decide) (by decide) (by decide) (by decide) ?_
    intro a24 T24 h24 kk24 vm24 b24 kb24 X24 e24 E24 hS24 hk24 hZ24 hown24 Ea24 Fc24 Fv24 Va24 la24 lb24 Cn24 ns24
    have z25 : h0.size ≤ h24.size := E24.1
    have C26 := C0.trans Cn24
    have f27 := (Fv_x.ext E24)
    have f28 := (V_k.ext E24)
    have f29 := (E_x.ext E24)
    have f30 := (Fc_x.ext E24)
    have f31 := (S_C.ext E24)
    have z33 : n0 ≤ h24.size := by omega
    refine own_virtual X24 hx hZ24 hown24 (own_w hw 32 rfl) (own_w hw 33 rfl) (notFace_of_selects (args := #[]) (mvT hZ24 (own_w hw 35 rfl))) (own_w hw 35 rfl) (own_w hw 34 rfl) (own_w hw 25 rfl) (own_w hw 36 rfl) (by decide) (strEq_n2 l Z a0 hw [] x a24 t b24 kt kb24 zc h24 n0 z33 f29 Ea24 (own_ne_str f27 Fv24 f28 Va24 (fun _ => ⟨0, by decide, by decide⟩)) f30 f27 f28 Fc24 Fv24 Va24 f31 hz) 0 (Nat.le_of_eq rfl) (by decide) (by decide) (by rw [hml]; rfl) (argsL := [(.ref a24)]) (st := []) f29 (lenOf pd_8 rfl) rfl rfl (by decide) (by decide) e24 hby d3_7 ?_
    intro T32 v32 L32 X32 hQ32
    obtain ⟨rfl, Nq32, eh32⟩ := hQ32
    have N32 := Fr.app N0 Nq32
    refine own_sh (T := T32) 10 #[.val (.ref x)] [(.int 0)] ?_
    refine own_ifNo X32.here hx hby d3_10 ((if0 _ _).trans (teq (show (0 : Int32) = (0 : Int32) from (by decide))).2) ?_
    refine own_aloadN X32.here hx hby d3_13 rfl rfl ?_
    refine own_ldcCH X32 hx hZ24 hEL hown24 (own_w hw 46 rfl) own_wS0 eh32 hS24 (by omega) C26.1 (List.mem_of_getElem? (i := 1) rfl) (vs := [(.int 66), (.int 105), (.int 110), (.int 97), (.int 114), (.int 121), (.int 46)]) (z := (7 : Int32)) ⟨by decide, by decide⟩ (by decide) (by decide) hby d3_14 28 (by decide) (by decide) (by decide) (by decide) ?_
    intro a34 T34 h34 kk34 vm34 b34 kb34 X34 e34 E34 hS34 hk34 hZ34 hown34 Ea34 Fc34 Fv34 Va34 la34 lb34 Cn34 ns34
    have z35 : h24.size ≤ h34.size := E34.1
    have C36 := C26.trans Cn34
    have f37 := (f29.ext E34)
    have f38 := (f30.ext E34)
    have f39 := (f27.ext E34)
    have f40 := (f28.ext E34)
    have f41 := (f31.ext E34)
    have z43 : n0 ≤ h34.size := by omega
    refine own_virtual X34 hx hZ34 hown34 (own_w hw 47 rfl) (own_w hw 48 rfl) (notFace_of_selects (args := #[]) (mvT hZ34 (own_w hw 50 rfl))) (own_w hw 50 rfl) (own_w hw 49 rfl) (own_w hw 25 rfl) (own_w hw 51 rfl) (by decide) (stw_n2 l Z a0 hw [] x a34 t b34 kt kb34 zc h34 n0 z43 f37 Ea34 f38 f39 f40 Fc34 Fv34 Va34 f41 hz) 0 (Nat.le_of_eq rfl) (by decide) (by decide) (by rw [hml]; rfl) (argsL := [(.ref a34)]) (st := []) f37 (lenOf pd_9 rfl) rfl rfl (by decide) (by decide) e34 hby d3_16 ?_
    intro T42 v42 L42 X42 hQ42
    obtain ⟨rfl, Nq42, eh42⟩ := hQ42
    have N42 := Fr.app N32 Nq42
    refine own_sh (T := T42) 19 #[.val (.ref x)] [(.int 0)] ?_
    refine own_ifYes X42.here hx hby (pc' := 26) d3_19 ((if0 _ _).trans (teq (show (0 : Int32) = (0 : Int32) from (by decide))).1) (by decide) (by decide) ?_
    refine own_iconst X42.here hx hby d3_26 (v := (0 : Int32)) (by decide) ?_
    have K44 : Keep h0 h34 [] := (((Keep.refl h0 []).ext E24).ext E34)
    obtain ⟨fs, hr, hrun, hended, hRW⟩ := X42.leaveW hS34 (by rw [eh42]; omega) (v := some (.int 0)) (fun h => by rw [Bd.returns] at h; cases h)
    have hCf : CHr Z consts_1 s.vm s.heap T42.vm T42.heap := by
      rw [hh, eh42]
      exact C36.trans (CHv.at X42 hZ34 hEL C36.1)
    refine own_ret (t := T42.setFrames fs) ?_ ⟨_, hrun, hended, _, _, rfl, ?_, hCf, hRW.1, hRW.2.1, hRW.2.2.1, hRW.2.2.2.mono (by decide) (by decide)⟩
    · exact retN X42 hx (t := .boolean) Bd.returns (by simp) (hb hby d3_27) hr
    · show Q_isBin_N Z _ _ _ _ _ _ h0 n0 _ T42.heap _
      rw [eh42]
      exact ⟨rfl, N42, K44⟩
  · have V_k : Arv Z h0 t kt .byte (6 : Int32) [(.int 78), (.int 117), (.int 109), (.int 98), (.int 101), (.int 114)] (.int 0) := by
      have q := V_t
      rw [hn, hv] at q
      exact q
    refine own_aloadN Y0.here hx hby d3_0 rfl rfl ?_
    refine own_ifnullNo Y0.here hx hby d3_1 ?_
    refine own_aloadN Y0.here hx hby d3_4 rfl rfl ?_
    have own_wS0 : ∀ a ∈ Bundle.stringAtoms, a.before a0 Z = true := own_wS hw
    refine own_ldcCH Y0 hx hZ hEL hown (own_w hw 31 rfl) own_wS0 e0 hS0 (by omega) C0.1 (List.mem_of_getElem? (i := 0) rfl) (vs := [(.int 66), (.int 105), (.int 110), (.int 97), (.int 114), (.int 121)]) (z := (6 : Int32)) ⟨by decide, by decide⟩ (by decide) (by decide) hby d3_5 24 (by decide) (by decide) (by decide) (by decide) ?_
    intro a45 T45 h45 kk45 vm45 b45 kb45 X45 e45 E45 hS45 hk45 hZ45 hown45 Ea45 Fc45 Fv45 Va45 la45 lb45 Cn45 ns45
    have z46 : h0.size ≤ h45.size := E45.1
    have C47 := C0.trans Cn45
    have f48 := (Fv_x.ext E45)
    have f49 := (V_k.ext E45)
    have f50 := (E_x.ext E45)
    have f51 := (Fc_x.ext E45)
    have f52 := (S_C.ext E45)
    have z54 : n0 ≤ h45.size := by omega
    refine own_virtual X45 hx hZ45 hown45 (own_w hw 32 rfl) (own_w hw 33 rfl) (notFace_of_selects (args := #[]) (mvT hZ45 (own_w hw 35 rfl))) (own_w hw 35 rfl) (own_w hw 34 rfl) (own_w hw 25 rfl) (own_w hw 36 rfl) (by decide) (strEq_n3 l Z a0 hw [] x a45 t b45 kt kb45 zc h45 n0 z54 f50 Ea45 (own_ne_str f48 Fv45 f49 Va45 (fun _ => ⟨0, by decide, by decide⟩)) f51 f48 f49 Fc45 Fv45 Va45 f52 hz) 0 (Nat.le_of_eq rfl) (by decide) (by decide) (by rw [hml]; rfl) (argsL := [(.ref a45)]) (st := []) f50 (lenOf pd_8 rfl) rfl rfl (by decide) (by decide) e45 hby d3_7 ?_
    intro T53 v53 L53 X53 hQ53
    obtain ⟨rfl, Nq53, eh53⟩ := hQ53
    have N53 := Fr.app N0 Nq53
    refine own_sh (T := T53) 10 #[.val (.ref x)] [(.int 0)] ?_
    refine own_ifNo X53.here hx hby d3_10 ((if0 _ _).trans (teq (show (0 : Int32) = (0 : Int32) from (by decide))).2) ?_
    refine own_aloadN X53.here hx hby d3_13 rfl rfl ?_
    refine own_ldcCH X53 hx hZ45 hEL hown45 (own_w hw 46 rfl) own_wS0 eh53 hS45 (by omega) C47.1 (List.mem_of_getElem? (i := 1) rfl) (vs := [(.int 66), (.int 105), (.int 110), (.int 97), (.int 114), (.int 121), (.int 46)]) (z := (7 : Int32)) ⟨by decide, by decide⟩ (by decide) (by decide) hby d3_14 28 (by decide) (by decide) (by decide) (by decide) ?_
    intro a55 T55 h55 kk55 vm55 b55 kb55 X55 e55 E55 hS55 hk55 hZ55 hown55 Ea55 Fc55 Fv55 Va55 la55 lb55 Cn55 ns55
    have z56 : h45.size ≤ h55.size := E55.1
    have C57 := C47.trans Cn55
    have f58 := (f50.ext E55)
    have f59 := (f51.ext E55)
    have f60 := (f48.ext E55)
    have f61 := (f49.ext E55)
    have f62 := (f52.ext E55)
    have z64 : n0 ≤ h55.size := by omega
    refine own_virtual X55 hx hZ55 hown55 (own_w hw 47 rfl) (own_w hw 48 rfl) (notFace_of_selects (args := #[]) (mvT hZ55 (own_w hw 50 rfl))) (own_w hw 50 rfl) (own_w hw 49 rfl) (own_w hw 25 rfl) (own_w hw 51 rfl) (by decide) (stw_n3 l Z a0 hw [] x a55 t b55 kt kb55 zc h55 n0 z64 f58 Ea55 f59 f60 f61 Fc55 Fv55 Va55 f62 hz) 0 (Nat.le_of_eq rfl) (by decide) (by decide) (by rw [hml]; rfl) (argsL := [(.ref a55)]) (st := []) f58 (lenOf pd_9 rfl) rfl rfl (by decide) (by decide) e55 hby d3_16 ?_
    intro T63 v63 L63 X63 hQ63
    obtain ⟨rfl, Nq63, eh63⟩ := hQ63
    have N63 := Fr.app N53 Nq63
    refine own_sh (T := T63) 19 #[.val (.ref x)] [(.int 0)] ?_
    refine own_ifYes X63.here hx hby (pc' := 26) d3_19 ((if0 _ _).trans (teq (show (0 : Int32) = (0 : Int32) from (by decide))).1) (by decide) (by decide) ?_
    refine own_iconst X63.here hx hby d3_26 (v := (0 : Int32)) (by decide) ?_
    have K65 : Keep h0 h55 [] := (((Keep.refl h0 []).ext E45).ext E55)
    obtain ⟨fs, hr, hrun, hended, hRW⟩ := X63.leaveW hS55 (by rw [eh63]; omega) (v := some (.int 0)) (fun h => by rw [Bd.returns] at h; cases h)
    have hCf : CHr Z consts_1 s.vm s.heap T63.vm T63.heap := by
      rw [hh, eh63]
      exact C57.trans (CHv.at X63 hZ55 hEL C57.1)
    refine own_ret (t := T63.setFrames fs) ?_ ⟨_, hrun, hended, _, _, rfl, ?_, hCf, hRW.1, hRW.2.1, hRW.2.2.1, hRW.2.2.2.mono (by decide) (by decide)⟩
    · exact retN X63 hx (t := .boolean) Bd.returns (by simp) (hb hby d3_27) hr
    · show Q_isBin_N Z _ _ _ _ _ _ h0 n0 _ T63.heap _
      rw [eh63]
      exact ⟨rfl, N63, K65⟩
  · have V_k : Arv Z h0 t kt .byte (6 : Int32) [(.int 66), (.int 105), (.int 110), (.int 97), (.int 114), (.int u)] (.int 0) := by
      have q := V_t
      rw [hn, hv] at q
      exact q
    refine own_aloadN Y0.here hx hby d3_0 rfl rfl ?_
    refine own_ifnullNo Y0.here hx hby d3_1 ?_
    refine own_aloadN Y0.here hx hby d3_4 rfl rfl ?_
    have own_wS0 : ∀ a ∈ Bundle.stringAtoms, a.before a0 Z = true := own_wS hw
    refine own_ldcCH Y0 hx hZ hEL hown (own_w hw 31 rfl) own_wS0 e0 hS0 (by omega) C0.1 (List.mem_of_getElem? (i := 0) rfl) (vs := [(.int 66), (.int 105), (.int 110), (.int 97), (.int 114), (.int 121)]) (z := (6 : Int32)) ⟨by decide, by decide⟩ (by decide) (by decide) hby d3_5 24 (by decide) (by decide) (by decide) (by decide) ?_
    intro a66 T66 h66 kk66 vm66 b66 kb66 X66 e66 E66 hS66 hk66 hZ66 hown66 Ea66 Fc66 Fv66 Va66 la66 lb66 Cn66 ns66
    have z67 : h0.size ≤ h66.size := E66.1
    have C68 := C0.trans Cn66
    have f69 := (Fv_x.ext E66)
    have f70 := (V_k.ext E66)
    have f71 := (E_x.ext E66)
    have f72 := (Fc_x.ext E66)
    have f73 := (S_C.ext E66)
    have z75 : n0 ≤ h66.size := by omega
    refine own_virtual X66 hx hZ66 hown66 (own_w hw 32 rfl) (own_w hw 33 rfl) (notFace_of_selects (args := #[]) (mvT hZ66 (own_w hw 35 rfl))) (own_w hw 35 rfl) (own_w hw 34 rfl) (own_w hw 25 rfl) (own_w hw 36 rfl) (by decide) (strEq_n4 l Z a0 hw [] x a66 t b66 kt kb66 zc u h66 n0 z75 f71 Ea66 (own_ne_str f69 Fv66 f70 Va66 (fun _ => ⟨5, by decide, fun q => hu (Value.int.inj q)⟩)) f72 f69 f70 Fc66 Fv66 Va66 f73 hz hu) 0 (Nat.le_of_eq rfl) (by decide) (by decide) (by rw [hml]; rfl) (argsL := [(.ref a66)]) (st := []) f71 (lenOf pd_8 rfl) rfl rfl (by decide) (by decide) e66 hby d3_7 ?_
    intro T74 v74 L74 X74 hQ74
    obtain ⟨rfl, Nq74, eh74⟩ := hQ74
    have N74 := Fr.app N0 Nq74
    refine own_sh (T := T74) 10 #[.val (.ref x)] [(.int 0)] ?_
    refine own_ifNo X74.here hx hby d3_10 ((if0 _ _).trans (teq (show (0 : Int32) = (0 : Int32) from (by decide))).2) ?_
    refine own_aloadN X74.here hx hby d3_13 rfl rfl ?_
    refine own_ldcCH X74 hx hZ66 hEL hown66 (own_w hw 46 rfl) own_wS0 eh74 hS66 (by omega) C68.1 (List.mem_of_getElem? (i := 1) rfl) (vs := [(.int 66), (.int 105), (.int 110), (.int 97), (.int 114), (.int 121), (.int 46)]) (z := (7 : Int32)) ⟨by decide, by decide⟩ (by decide) (by decide) hby d3_14 28 (by decide) (by decide) (by decide) (by decide) ?_
    intro a76 T76 h76 kk76 vm76 b76 kb76 X76 e76 E76 hS76 hk76 hZ76 hown76 Ea76 Fc76 Fv76 Va76 la76 lb76 Cn76 ns76
    have z77 : h66.size ≤ h76.size := E76.1
    have C78 := C68.trans Cn76
    have f79 := (f71.ext E76)
    have f80 := (f72.ext E76)
    have f81 := (f69.ext E76)
    have f82 := (f70.ext E76)
    have f83 := (f73.ext E76)
    have z85 : n0 ≤ h76.size := by omega
    refine own_virtual X76 hx hZ76 hown76 (own_w hw 47 rfl) (own_w hw 48 rfl) (notFace_of_selects (args := #[]) (mvT hZ76 (own_w hw 50 rfl))) (own_w hw 50 rfl) (own_w hw 49 rfl) (own_w hw 25 rfl) (own_w hw 51 rfl) (by decide) (stw_n4 l Z a0 hw [] x a76 t b76 kt kb76 zc u h76 n0 z85 f79 Ea76 f80 f81 f82 Fc76 Fv76 Va76 f83 hz) 0 (Nat.le_of_eq rfl) (by decide) (by decide) (by rw [hml]; rfl) (argsL := [(.ref a76)]) (st := []) f79 (lenOf pd_9 rfl) rfl rfl (by decide) (by decide) e76 hby d3_16 ?_
    intro T84 v84 L84 X84 hQ84
    obtain ⟨rfl, Nq84, eh84⟩ := hQ84
    have N84 := Fr.app N74 Nq84
    refine own_sh (T := T84) 19 #[.val (.ref x)] [(.int 0)] ?_
    refine own_ifYes X84.here hx hby (pc' := 26) d3_19 ((if0 _ _).trans (teq (show (0 : Int32) = (0 : Int32) from (by decide))).1) (by decide) (by decide) ?_
    refine own_iconst X84.here hx hby d3_26 (v := (0 : Int32)) (by decide) ?_
    have K86 : Keep h0 h76 [] := (((Keep.refl h0 []).ext E66).ext E76)
    obtain ⟨fs, hr, hrun, hended, hRW⟩ := X84.leaveW hS76 (by rw [eh84]; omega) (v := some (.int 0)) (fun h => by rw [Bd.returns] at h; cases h)
    have hCf : CHr Z consts_1 s.vm s.heap T84.vm T84.heap := by
      rw [hh, eh84]
      exact C78.trans (CHv.at X84 hZ76 hEL C78.1)
    refine own_ret (t := T84.setFrames fs) ?_ ⟨_, hrun, hended, _, _, rfl, ?_, hCf, hRW.1, hRW.2.1, hRW.2.2.1, hRW.2.2.2.mono (by decide) (by decide)⟩
    · exact retN X84 hx (t := .boolean) Bd.returns (by simp) (hb hby d3_27) hr
    · show Q_isBin_N Z _ _ _ _ _ _ h0 n0 _ T84.heap _
      rw [eh84]
      exact ⟨rfl, N84, K86⟩
  · have V_k : Arv Z h0 t kt .byte (1 : Int32) [(.int u)] (.int 0) := by
      have q := V_t
      rw [hn, hv] at q
      exact q
    refine own_aloadN Y0.here hx hby d3_0 rfl rfl ?_
    refine own_ifnullNo Y0.here hx hby d3_1 ?_
    refine own_aloadN Y0.here hx hby d3_4 rfl rfl ?_
    have own_wS0 : ∀ a ∈ Bundle.stringAtoms, a.before a0 Z = true := own_wS hw
    refine own_ldcCH Y0 hx hZ hEL hown (own_w hw 31 rfl) own_wS0 e0 hS0 (by omega) C0.1 (List.mem_of_getElem? (i := 0) rfl) (vs := [(.int 66), (.int 105), (.int 110), (.int 97), (.int 114), (.int 121)]) (z := (6 : Int32)) ⟨by decide, by decide⟩ (by decide) (by decide) hby d3_5 24 (by decide) (by decide) (by decide) (by decide) ?_
    intro a87 T87 h87 kk87 vm87 b87 kb87 X87 e87 E87 hS87 hk87 hZ87 hown87 Ea87 Fc87 Fv87 Va87 la87 lb87 Cn87 ns87
    have z88 : h0.size ≤ h87.size := E87.1
    have C89 := C0.trans Cn87
    have f90 := (Fv_x.ext E87)
    have f91 := (V_k.ext E87)
    have f92 := (E_x.ext E87)
    have f93 := (Fc_x.ext E87)
    have f94 := (S_C.ext E87)
    have z96 : n0 ≤ h87.size := by omega
    refine own_virtual X87 hx hZ87 hown87 (own_w hw 32 rfl) (own_w hw 33 rfl) (notFace_of_selects (args := #[]) (mvT hZ87 (own_w hw 35 rfl))) (own_w hw 35 rfl) (own_w hw 34 rfl) (own_w hw 25 rfl) (own_w hw 36 rfl) (by decide) (strEq_n5 l Z a0 hw [] x a87 t b87 kt kb87 zc u h87 n0 z96 f92 Ea87 (own_ne_str f90 Fv87 f91 Va87 (fun q => absurd q (by decide))) f93 f90 f91 Fc87 Fv87 Va87 f94 hz) 0 (Nat.le_of_eq rfl) (by decide) (by decide) (by rw [hml]; rfl) (argsL := [(.ref a87)]) (st := []) f92 (lenOf pd_8 rfl) rfl rfl (by decide) (by decide) e87 hby d3_7 ?_
    intro T95 v95 L95 X95 hQ95
    obtain ⟨rfl, Nq95, eh95⟩ := hQ95
    have N95 := Fr.app N0 Nq95
    refine own_sh (T := T95) 10 #[.val (.ref x)] [(.int 0)] ?_
    refine own_ifNo X95.here hx hby d3_10 ((if0 _ _).trans (teq (show (0 : Int32) = (0 : Int32) from (by decide))).2) ?_
    refine own_aloadN X95.here hx hby d3_13 rfl rfl ?_
    refine own_ldcCH X95 hx hZ87 hEL hown87 (own_w hw 46 rfl) own_wS0 eh95 hS87 (by omega) C89.1 (List.mem_of_getElem? (i := 1) rfl) (vs := [(.int 66), (.int 105), (.int 110), (.int 97), (.int 114), (.int 121), (.int 46)]) (z := (7 : Int32)) ⟨by decide, by decide⟩ (by decide) (by decide) hby d3_14 28 (by decide) (by decide) (by decide) (by decide) ?_
    intro a97 T97 h97 kk97 vm97 b97 kb97 X97 e97 E97 hS97 hk97 hZ97 hown97 Ea97 Fc97 Fv97 Va97 la97 lb97 Cn97 ns97
    have z98 : h87.size ≤ h97.size := E97.1
    have C99 := C89.trans Cn97
    have f100 := (f92.ext E97)
    have f101 := (f93.ext E97)
    have f102 := (f90.ext E97)
    have f103 := (f91.ext E97)
    have f104 := (f94.ext E97)
    have z106 : n0 ≤ h97.size := by omega
    refine own_virtual X97 hx hZ97 hown97 (own_w hw 47 rfl) (own_w hw 48 rfl) (notFace_of_selects (args := #[]) (mvT hZ97 (own_w hw 50 rfl))) (own_w hw 50 rfl) (own_w hw 49 rfl) (own_w hw 25 rfl) (own_w hw 51 rfl) (by decide) (stw_n5 l Z a0 hw [] x a97 t b97 kt kb97 zc u h97 n0 z106 f100 Ea97 f101 f102 f103 Fc97 Fv97 Va97 f104 hz) 0 (Nat.le_of_eq rfl) (by decide) (by decide) (by rw [hml]; rfl) (argsL := [(.ref a97)]) (st := []) f100 (lenOf pd_9 rfl) rfl rfl (by decide) (by decide) e97 hby d3_16 ?_
    intro T105 v105 L105 X105 hQ105
    obtain ⟨rfl, Nq105, eh105⟩ := hQ105
    have N105 := Fr.app N95 Nq105
    refine own_sh (T := T105) 19 #[.val (.ref x)] [(.int 0)] ?_
    refine own_ifYes X105.here hx hby (pc' := 26) d3_19 ((if0 _ _).trans (teq (show (0 : Int32) = (0 : Int32) from (by decide))).1) (by decide) (by decide) ?_
    refine own_iconst X105.here hx hby d3_26 (v := (0 : Int32)) (by decide) ?_
    have K107 : Keep h0 h97 [] := (((Keep.refl h0 []).ext E87).ext E97)
    obtain ⟨fs, hr, hrun, hended, hRW⟩ := X105.leaveW hS97 (by rw [eh105]; omega) (v := some (.int 0)) (fun h => by rw [Bd.returns] at h; cases h)
    have hCf : CHr Z consts_1 s.vm s.heap T105.vm T105.heap := by
      rw [hh, eh105]
      exact C99.trans (CHv.at X105 hZ97 hEL C99.1)
    refine own_ret (t := T105.setFrames fs) ?_ ⟨_, hrun, hended, _, _, rfl, ?_, hCf, hRW.1, hRW.2.1, hRW.2.2.1, hRW.2.2.2.mono (by decide) (by decide)⟩
    · exact retN X105 hx (t := .boolean) Bd.returns (by simp) (hb hby d3_27) hr
    · show Q_isBin_N Z _ _ _ _ _ _ h0 n0 _ T105.heap _
      rw [eh105]
      exact ⟨rfl, N105, K107⟩
theorem ef_isBin_0 (m : MethodId)  : entryFrame m #[.null] 1 = mkF m 0 #[.val .null] [] := by first | (simp [entryFrame, mkF, argsToLocals, Value.category]; done) | rfl
def Q_isBin_0 (Z : State)  (h0 : Heap) (n0 : Nat) (vR : Option Value) (hR : Heap) (LR : List Loc) : Prop := vR = some (.int 0) ∧ Fr n0 LR ∧ hR = h0
set_option maxRecDepth 65536 in
set_option maxHeartbeats 40000000 in
theorem isBin_0 (l : Launch) (Z : State) (a0 : Array Value) (hw : ∀ d ∈ tables_1, d.before a0 Z = true) (ws : List Jvm.Cond)  (h0 : Heap) (n0 : Nat) (Z0 : n0 ≤ h0.size)  :
    own_M l (⟨"com/example/sluice/sluice/MessageAttribute", "isBinary", "(Ljava/lang/String;)Z"⟩ : MethodName) prog_6_method_12_code 1 (some .boolean) ws ({ frames := 0, cells := 0, slots := 0, locals := 0 } : Room) Z #[.null] h0 (Q_isBin_0 Z  h0 n0) := by
  refine own_body (own := "com/example/sluice/sluice/MessageAttribute") rfl (plainFor_of_name pn_3) (fun m => ef_isBin_0 m ) ?_
  intro p e s m below meth c s₁ Bd hml hZ hh hx hby hown X0 e0
  have N0 := Fr.nil n0
  refine own_aloadN X0.here hx hby d3_0 rfl rfl ?_
  refine own_ifnullYes X0.here hx hby (pc' := 26) d3_1 (by decide) (by decide) ?_
  refine own_iconst X0.here hx hby d3_26 (v := (0 : Int32)) (by decide) ?_
  obtain ⟨fs, hr, hrun, hended, hW, hsame⟩ := X0.leave (v := some (.int 0)) (fun h => by rw [Bd.returns] at h; cases h)
  refine own_ret (t := s₁.setFrames fs) ?_ ⟨_, hrun, hended, _, _, rfl, ?_, ⟨_, rfl⟩, hW, hsame.mono (by decide) (by decide)⟩
  · exact retN X0 hx (t := .boolean) Bd.returns (by simp) (hb hby d3_27) hr
  · show Q_isBin_0 Z h0 n0 _ s₁.heap _
    rw [e0]
    exact ⟨rfl, N0, rfl⟩
theorem ef_maInit_B_null (m : MethodId) (x0 : Nat) (x1 : Nat) : entryFrame m #[(.ref x0), (.ref x1), .null, .null] 4 = mkF m 0 #[.val (.ref x0), .val (.ref x1), .val .null, .val .null] [] := by first | (simp [entryFrame, mkF, argsToLocals, Value.category]; done) | rfl
theorem pn_1 : plainName "com/example/sluice/sluice/MessageAttribute" = true := by first | (simp [plainName, overriddenIn]; done) | decide +kernel
theorem d1_0 : decode prog_6_method_1_code 0 = .ok (.aload_n 0, 1) := by decide +kernel
theorem d1_1 : decode prog_6_method_1_code 1 = .ok (.invokespecial 1, 3) := by decide +kernel
theorem d1_4 : decode prog_6_method_1_code 4 = .ok (.aload_n 0, 1) := by decide +kernel
theorem d1_5 : decode prog_6_method_1_code 5 = .ok (.aload_n 1, 1) := by decide +kernel
theorem d1_6 : decode prog_6_method_1_code 6 = .ok (.putfield 7, 3) := by decide +kernel
theorem d1_9 : decode prog_6_method_1_code 9 = .ok (.aload_n 1, 1) := by decide +kernel
theorem d1_10 : decode prog_6_method_1_code 10 = .ok (.invokestatic 13, 3) := by decide +kernel
theorem d1_13 : decode prog_6_method_1_code 13 = .ok (.ifCond .eq 30, 3) := by decide +kernel
theorem d1_16 : decode prog_6_method_1_code 16 = .ok (.aload_n 0, 1) := by decide +kernel
theorem d1_17 : decode prog_6_method_1_code 17 = .ok (.aconst_null, 1) := by decide +kernel
theorem d1_18 : decode prog_6_method_1_code 18 = .ok (.putfield 17, 3) := by decide +kernel
theorem d1_21 : decode prog_6_method_1_code 21 = .ok (.aload_n 0, 1) := by decide +kernel
theorem d1_22 : decode prog_6_method_1_code 22 = .ok (.aload_n 3, 1) := by decide +kernel
theorem d1_23 : decode prog_6_method_1_code 23 = .ok (.ifnonnull 7, 3) := by decide +kernel
theorem d1_26 : decode prog_6_method_1_code 26 = .ok (.aconst_null, 1) := by decide +kernel
theorem d1_27 : decode prog_6_method_1_code 27 = .ok (.goto 10, 3) := by decide +kernel
theorem d1_37 : decode prog_6_method_1_code 37 = .ok (.putfield 26, 3) := by decide +kernel
theorem d1_40 : decode prog_6_method_1_code 40 = .ok (.goto 13, 3) := by decide +kernel
theorem d1_53 : decode prog_6_method_1_code 53 = .ok (.return_, 1) := by decide +kernel
def Q_maInit_B_null (Z : State) (at_ : Nat) (x : Nat) (t : Nat) (kt : ClassId) (n : Int32) (vs_ : List Value) (zc : Int32) (h0 : Heap) (n0 : Nat) (vR : Option Value) (hR : Heap) (LR : List Loc) : Prop := vR = none ∧ Fr n0 LR ∧ Keep h0 hR [at_] ∧ (Exa Z hR at_ "com/example/sluice/sluice/MessageAttribute") ∧ (Fld Z hR at_ "com/example/sluice/sluice/MessageAttribute" "binaryValue" "[B" .null)
set_option maxRecDepth 65536 in
set_option maxHeartbeats 40000000 in
theorem maInit_B_null (l : Launch) (Z : State) (a0 : Array Value) (hw : ∀ d ∈ tables_1, d.before a0 Z = true) (ws : List Jvm.Cond) (at_ : Nat) (x : Nat) (t : Nat) (kt : ClassId) (n : Int32) (vs_ : List Value) (zc : Int32) (h0 : Heap) (n0 : Nat) (Z0 : n0 ≤ h0.size) (E_at : Exa Z h0 at_ "com/example/sluice/sluice/MessageAttribute") (g_at_ : n0 ≤ at_) (F_dataType_at : Fld Z h0 at_ "com/example/sluice/sluice/MessageAttribute" "dataType" "Ljava/lang/String;" .null) (F_stringValue_at : Fld Z h0 at_ "com/example/sluice/sluice/MessageAttribute" "stringValue" "Ljava/lang/String;" .null) (F_binaryValue_at : Fld Z h0 at_ "com/example/sluice/sluice/MessageAttribute" "binaryValue" "[B" .null) (E_x : Exa Z h0 x "java/lang/String") (Fc_x : Fld Z h0 x "java/lang/String" "coder" "B" (.int 0)) (Fv_x : Fld Z h0 x "java/lang/String" "value" "[B" (.ref t)) (V_t : Arv Z h0 t kt .byte n vs_ (.int 0)) (S_C : Sta Z h0 "java/lang/String" "COMPACT_STRINGS" "Z" (.int zc)) (hz : ¬ (zc = (0 : Int32))) (hK : own_kindB n vs_) :
    own_MH l (⟨"com/example/sluice/sluice/MessageAttribute", "<init>", "(Ljava/lang/String;Ljava/lang/String;[B)V"⟩ : MethodName) prog_6_method_1_code 4 none ws ({ frames := 5, cells := 4, slots := 60, locals := 71 } : Room) Z #[(.ref at_), (.ref x), .null, .null] h0 (Q_maInit_B_null Z at_ x t kt n vs_ zc h0 n0) consts_1 := by
  refine own_bodyH (own := "com/example/sluice/sluice/MessageAttribute") rfl (plainFor_of_name pn_1) (fun m => ef_maInit_B_null m at_ x) ?_
  intro p e s m below meth c s₁ Bd hml hZ hh hx hby hown X0 e0 hS0 CH0
  have N0 := Fr.nil n0
  have hk0 : h0.size ≤ h0.size := Nat.le_refl _
  have Y0 : Stand p l e ({ frames := 5, cells := 4, slots := 60, locals := 71 } : Room) (s.setVm s.vm) m #[(.ref at_), (.ref x), .null, .null] below meth c s₁ [] 0 0 := X0
  have hEL := own_EW hw
  have C0 := CHr.refl CH0
  have lt1 : h0.size > at_ := E_at.lt
  have lt2 : h0.size > x := E_x.lt
  have lt3 : h0.size > t := V_t.lt
  refine own_aloadN Y0.here hx hby d1_0 rfl rfl ?_
  refine own_initO Y0 hx hZ hown (own_w hw 7 rfl) (own_w hw 8 rfl) (own_w hw 9 rfl) e0 (by rw [hml]; rfl) hby d1_1 (by decide) 0 (Nat.le_of_eq rfl) (by decide) ?_
  intro T4 X4 e4
  refine own_aloadN X4.here hx hby d1_4 rfl rfl ?_
  refine own_aloadN X4.here hx hby d1_5 rfl rfl ?_
  refine own_putF X4 hx hZ (ty := (.object "java/lang/String")) hown (host := "") (Or.inl (own_w hw 10 rfl)) Via.refl e4 F_dataType_at E_at (Or.inr ⟨(own_w hw 11 rfl), rfl, (name_of_methodNamed Bd.named Bd.method).1⟩) (own_w hw 2 rfl) (by decide) rfl rfl hby d1_6 N0 g_at_ ?_
  intro T5 h5 lo5 X5 e5 N5 W5 F5 z5
  have C6 := C0.trans (CHr.wr W5 (Safe.exa hZ.alike E_at (by decide) (by decide)) C0.1)
  refine own_aloadN X5.here hx hby d1_9 rfl rfl ?_
  have f7 := (E_x.wr W5)
  have f8 := (Fc_x.other W5 (Or.inl (ne_exa E_x E_at (by decide))))
  have f9 := (Fv_x.other W5 (Or.inl (ne_exa E_x E_at (by decide))))
  have f10 := (V_t.other W5 (Ne.symm (own_ne_oa E_at (own_w hw 2 rfl) V_t)))
  have f11 := (S_C.wr W5)
  have z13 : n0 ≤ h5.size := by omega
  refine own_callSH X5 hx hZ hEL hown (own_w hw 12 rfl) (own_w hw 13 rfl) (own_w hw 3 rfl) (own_w hw 14 rfl) (by decide) (isBin_B l Z a0 hw [] x t kt n vs_ zc h5 n0 z13 f7 f8 f9 f10 f11 hz hK) 0 (Nat.le_of_eq rfl) (by decide) (by decide) (by rw [hml]; rfl) (argsL := [(.ref x)]) (st := []) (lenOf pd_9 rfl) rfl rfl (by decide) (by decide) e5 hby C6.1 hS0 (by omega) d1_10 ?_
  intro T12 v12 L12 vm12 X12 hS12 hZ12 hown12 hg12 Cn12 hQ12
  obtain ⟨rfl, Nq12, K12⟩ := hQ12
  have N12 := Fr.app N5 Nq12
  have z14 : h5.size ≤ T12.heap.size := K12.1
  have C15 := C6.trans Cn12
  refine own_sh (T := T12) 13 #[.val (.ref at_), .val (.ref x), .val .null, .val .null] [(.int 1)] ?_
  refine own_ifNo X12.here hx hby d1_13 ((if0 _ _).trans (feq (show ¬ ((1 : Int32) = (0 : Int32)) from (by decide))).1) ?_
  refine own_aloadN X12.here hx hby d1_16 rfl rfl ?_
  refine own_aconstNull X12.here hx hby d1_17 ?_
  have f16 := ((E_at.wr W5).keep K12)
  have f17 := ((F_stringValue_at.other W5 (Or.inr (slot_ne (Or.inr (own_w hw 16 rfl)) (Or.inr (own_w hw 11 rfl)) (by decide) (t := (.object "java/lang/String")) (t' := (.object "java/lang/String")) (by decide) (by decide)))).keep K12 nin0)
  refine own_putF X12 hx hZ12 (ty := (.object "java/lang/String")) hown12 (host := "") (Or.inl (own_w hw 15 rfl)) Via.refl rfl f17 f16 (Or.inr ⟨(own_w hw 16 rfl), rfl, (name_of_methodNamed Bd.named Bd.method).1⟩) (own_w hw 2 rfl) (by decide) rfl rfl hby d1_18 N12 g_at_ ?_
  intro T18 h18 lo18 X18 e18 N18 W18 F18 z18
  have C19 := C15.trans (CHr.wr W18 (Safe.exa hZ12.alike f16 (by decide) (by decide)) C15.1)
  refine own_aloadN X18.here hx hby d1_21 rfl rfl ?_
  refine own_aloadN X18.here hx hby d1_22 rfl rfl ?_
  refine own_ifnonnullNo X18.here hx hby d1_23 ?_
  refine own_aconstNull X18.here hx hby d1_26 ?_
  refine own_goto X18.here hx hby (pc' := 37) d1_27 (by decide) (by decide) ?_
  have f20 := (f16.wr W18)
  have f21 := (((F_binaryValue_at.other W5 (Or.inr (slot_ne (Or.inr (own_w hw 18 rfl)) (Or.inr (own_w hw 11 rfl)) (by decide) (t := (.array .byte)) (t' := (.object "java/lang/String")) (by decide) (by decide)))).keep K12 nin0).other W18 (Or.inr (slot_ne (Or.inr (own_w hw 18 rfl)) (Or.inr (own_w hw 16 rfl)) (by decide) (t := (.array .byte)) (t' := (.object "java/lang/String")) (by decide) (by decide))))
  refine own_putF X18 hx hZ12 (ty := (.array .byte)) hown12 (host := "") (Or.inl (own_w hw 17 rfl)) Via.refl e18 f21 f20 (Or.inr ⟨(own_w hw 18 rfl), rfl, (name_of_methodNamed Bd.named Bd.method).1⟩) (own_w hw 2 rfl) (by decide) rfl rfl hby d1_37 N18 g_at_ ?_
  intro T22 h22 lo22 X22 e22 N22 W22 F22 z22
  have C23 := C19.trans (CHr.wr W22 (Safe.exa hZ12.alike f20 (by decide) (by decide)) C19.1)
  refine own_goto X22.here hx hby (pc' := 53) d1_40 (by decide) (by decide) ?_
  have K24 : Keep h0 h22 [at_] := (((((Keep.refl h0 [at_]).wr W5 (Or.inl (List.mem_of_getElem? (i := 0) rfl))).trans K12 all0).wr W18 (Or.inl (List.mem_of_getElem? (i := 0) rfl))).wr W22 (Or.inl (List.mem_of_getElem? (i := 0) rfl)))
  have f25 := (f20.wr W22)
  obtain ⟨fs, hr, hrun, hended, hRW⟩ := X22.leaveW hS12 (by rw [e22]; omega) (v := none) (fun _ => rfl)
  have hCf : CHr Z consts_1 s.vm s.heap T22.vm T22.heap := by
    rw [hh, e22]
    exact C23.trans (CHv.at X22 hZ12 hEL C23.1)
  refine own_ret (t := T22.setFrames fs) ?_ ⟨_, hrun, hended, _, _, rfl, ?_, hCf, hRW.1, hRW.2.1, hRW.2.2.1, hRW.2.2.2.mono (by decide) (by decide)⟩
  · exact X22.returnOut hx Bd.returns (hb hby d1_53) hr
  · show Q_maInit_B_null Z _ _ _ _ _ _ _ h0 n0 _ T22.heap _
    rw [e22]
    exact ⟨rfl, N22, K24, f25, F22⟩
theorem ef_maInit_B_0 (m : MethodId) (x0 : Nat) (x1 : Nat) (x3 : Nat) : entryFrame m #[(.ref x0), (.ref x1), .null, (.ref x3)] 4 = mkF m 0 #[.val (.ref x0), .val (.ref x1), .val .null, .val (.ref x3)] [] := by first | (simp [entryFrame, mkF, argsToLocals, Value.category]; done) | rfl
theorem d1_30 : decode prog_6_method_1_code 30 = .ok (.aload_n 3, 1) := by decide +kernel
theorem d1_31 : decode prog_6_method_1_code 31 = .ok (.invokevirtual 20, 3) := by decide +kernel
theorem d1_34 : decode prog_6_method_1_code 34 = .ok (.checkcast 21, 3) := by decide +kernel
def Q_maInit_B_0 (Z : State) (at_ : Nat) (x : Nat) (t : Nat) (kt : ClassId) (n : Int32) (vs_ : List Value) (zc : Int32) (ip : Nat) (ki : ClassId) (h0 : Heap) (n0 : Nat) (vR : Option Value) (hR : Heap) (LR : List Loc) : Prop := ∃ (bc : Nat) (kc : ClassId), vR = none ∧ Fr n0 LR ∧ Keep h0 hR [at_] ∧ (Exa Z hR at_ "com/example/sluice/sluice/MessageAttribute") ∧ (Fld Z hR at_ "com/example/sluice/sluice/MessageAttribute" "binaryValue" "[B" (.ref bc)) ∧ h0.size ≤ bc ∧ (Exa Z hR bc "[B") ∧ (Arv Z hR bc kc .byte (0 : Int32) [] (.int 0))
set_option maxRecDepth 65536 in
set_option maxHeartbeats 40000000 in
theorem maInit_B_0 (l : Launch) (Z : State) (a0 : Array Value) (hw : ∀ d ∈ tables_1, d.before a0 Z = true) (ws : List Jvm.Cond) (at_ : Nat) (x : Nat) (t : Nat) (kt : ClassId) (n : Int32) (vs_ : List Value) (zc : Int32) (ip : Nat) (ki : ClassId) (h0 : Heap) (n0 : Nat) (Z0 : n0 ≤ h0.size) (E_at : Exa Z h0 at_ "com/example/sluice/sluice/MessageAttribute") (g_at_ : n0 ≤ at_) (F_dataType_at : Fld Z h0 at_ "com/example/sluice/sluice/MessageAttribute" "dataType" "Ljava/lang/String;" .null) (F_stringValue_at : Fld Z h0 at_ "com/example/sluice/sluice/MessageAttribute" "stringValue" "Ljava/lang/String;" .null) (F_binaryValue_at : Fld Z h0 at_ "com/example/sluice/sluice/MessageAttribute" "binaryValue" "[B" .null) (E_x : Exa Z h0 x "java/lang/String") (Fc_x : Fld Z h0 x "java/lang/String" "coder" "B" (.int 0)) (Fv_x : Fld Z h0 x "java/lang/String" "value" "[B" (.ref t)) (V_t : Arv Z h0 t kt .byte n vs_ (.int 0)) (S_C : Sta Z h0 "java/lang/String" "COMPACT_STRINGS" "Z" (.int zc)) (hz : ¬ (zc = (0 : Int32))) (hK : own_kindB n vs_) (E_ip : Exa Z h0 ip "[B") (V_ip : Arv Z h0 ip ki .byte (0 : Int32) [] (.int 0)) :
    own_MH l (⟨"com/example/sluice/sluice/MessageAttribute", "<init>", "(Ljava/lang/String;Ljava/lang/String;[B)V"⟩ : MethodName) prog_6_method_1_code 4 none ws ({ frames := 5, cells := 5, slots := 60, locals := 71 } : Room) Z #[(.ref at_), (.ref x), .null, (.ref ip)] h0 (Q_maInit_B_0 Z at_ x t kt n vs_ zc ip ki h0 n0) consts_1 := by
  refine own_bodyH (own := "com/example/sluice/sluice/MessageAttribute") rfl (plainFor_of_name pn_1) (fun m => ef_maInit_B_0 m at_ x ip) ?_
  intro p e s m below meth c s₁ Bd hml hZ hh hx hby hown X0 e0 hS0 CH0
  have N0 := Fr.nil n0
  have hk0 : h0.size ≤ h0.size := Nat.le_refl _
  have Y0 : Stand p l e ({ frames := 5, cells := 5, slots := 60, locals := 71 } : Room) (s.setVm s.vm) m #[(.ref at_), (.ref x), .null, (.ref ip)] below meth c s₁ [] 0 0 := X0
  have hEL := own_EW hw
  have C0 := CHr.refl CH0
  have lt1 : h0.size > at_ := E_at.lt
  have lt2 : h0.size > x := E_x.lt
  have lt3 : h0.size > t := V_t.lt
  have lt4 : h0.size > ip := E_ip.lt
  refine own_aloadN Y0.here hx hby d1_0 rfl rfl ?_
  refine own_initO Y0 hx hZ hown (own_w hw 7 rfl) (own_w hw 8 rfl) (own_w hw 9 rfl) e0 (by rw [hml]; rfl) hby d1_1 (by decide) 0 (Nat.le_of_eq rfl) (by decide) ?_
  intro T5 X5 e5
  refine own_aloadN X5.here hx hby d1_4 rfl rfl ?_
  refine own_aloadN X5.here hx hby d1_5 rfl rfl ?_
  refine own_putF X5 hx hZ (ty := (.object "java/lang/String")) hown (host := "") (Or.inl (own_w hw 10 rfl)) Via.refl e5 F_dataType_at E_at (Or.inr ⟨(own_w hw 11 rfl), rfl, (name_of_methodNamed Bd.named Bd.method).1⟩) (own_w hw 2 rfl) (by decide) rfl rfl hby d1_6 N0 g_at_ ?_
  intro T6 h6 lo6 X6 e6 N6 W6 F6 z6
  have C7 := C0.trans (CHr.wr W6 (Safe.exa hZ.alike E_at (by decide) (by decide)) C0.1)
  refine own_aloadN X6.here hx hby d1_9 rfl rfl ?_
  have f8 := (E_x.wr W6)
  have f9 := (Fc_x.other W6 (Or.inl (ne_exa E_x E_at (by decide))))
  have f10 := (Fv_x.other W6 (Or.inl (ne_exa E_x E_at (by decide))))
  have f11 := (V_t.other W6 (Ne.symm (own_ne_oa E_at (own_w hw 2 rfl) V_t)))
  have f12 := (S_C.wr W6)
  have z14 : n0 ≤ h6.size := by omega
  refine own_callSH X6 hx hZ hEL hown (own_w hw 12 rfl) (own_w hw 13 rfl) (own_w hw 3 rfl) (own_w hw 14 rfl) (by decide) (isBin_B l Z a0 hw [] x t kt n vs_ zc h6 n0 z14 f8 f9 f10 f11 f12 hz hK) 0 (Nat.le_of_eq rfl) (by decide) (by decide) (by rw [hml]; rfl) (argsL := [(.ref x)]) (st := []) (lenOf pd_9 rfl) rfl rfl (by decide) (by decide) e6 hby C7.1 hS0 (by omega) d1_10 ?_
  intro T13 v13 L13 vm13 X13 hS13 hZ13 hown13 hg13 Cn13 hQ13
  obtain ⟨rfl, Nq13, K13⟩ := hQ13
  have N13 := Fr.app N6 Nq13
  have z15 : h6.size ≤ T13.heap.size := K13.1
  have C16 := C7.trans Cn13
  refine own_sh (T := T13) 13 #[.val (.ref at_), .val (.ref x), .val .null, .val (.ref ip)] [(.int 1)] ?_
  refine own_ifNo X13.here hx hby d1_13 ((if0 _ _).trans (feq (show ¬ ((1 : Int32) = (0 : Int32)) from (by decide))).1) ?_
  refine own_aloadN X13.here hx hby d1_16 rfl rfl ?_
  refine own_aconstNull X13.here hx hby d1_17 ?_
  have f17 := ((E_at.wr W6).keep K13)
  have f18 := ((F_stringValue_at.other W6 (Or.inr (slot_ne (Or.inr (own_w hw 16 rfl)) (Or.inr (own_w hw 11 rfl)) (by decide) (t := (.object "java/lang/String")) (t' := (.object "java/lang/String")) (by decide) (by decide)))).keep K13 nin0)
  refine own_putF X13 hx hZ13 (ty := (.object "java/lang/String")) hown13 (host := "") (Or.inl (own_w hw 15 rfl)) Via.refl rfl f18 f17 (Or.inr ⟨(own_w hw 16 rfl), rfl, (name_of_methodNamed Bd.named Bd.method).1⟩) (own_w hw 2 rfl) (by decide) rfl rfl hby d1_18 N13 g_at_ ?_
  intro T19 h19 lo19 X19 e19 N19 W19 F19 z19
  have C20 := C16.trans (CHr.wr W19 (Safe.exa hZ13.alike f17 (by decide) (by decide)) C16.1)
  refine own_aloadN X19.here hx hby d1_21 rfl rfl ?_
  refine own_aloadN X19.here hx hby d1_22 rfl rfl ?_
  refine own_ifnonnullYes X19.here hx hby (pc' := 30) d1_23 (by decide) (by decide) ?_
  refine own_aloadN X19.here hx hby d1_30 rfl rfl ?_
  have f21 := (((V_ip.other W6 (ne_exa E_ip E_at (by decide))).keep K13 nin0).other W19 (ne_exa E_ip E_at (by decide)))
  have f22 := (((E_ip.wr W6).keep K13).wr W19)
  refine own_cloneH X19 hx hZ13 (ad := "[B") hown13 (own_w hw 103 rfl) (own_w hw 104 rfl) (own_w hw 108 rfl) (own_w hw 106 rfl) (own_w hw 107 rfl) (own_w hw 109 rfl) e19 (Arv.arh f21) f22 (by rw [hml]; rfl) hby d1_31 (by decide) 1 0 (Nat.le_of_eq rfl) (by decide) (by decide) (by decide) (by decide) ?_
  intro T23 h23 b23 X23 e23 E23 g23 A23 C23 lt23
  have z24 : h19.size ≤ h23.size := E23.1
  have C25 := C20.trans (CHr.ext E23 C20.1)
  have V26 : Arv Z h23 b23 ki .byte (0 : Int32) [] (.int 0) := A23
  refine own_castY X23 hx hZ13 hown13 (own_w hw 110 rfl) e23 (Ins.self C23) hby d1_34 ?_
  intro T27 X27 e27
  have f28 := ((f17.wr W19).ext E23)
  have f29 := ((((F_binaryValue_at.other W6 (Or.inr (slot_ne (Or.inr (own_w hw 18 rfl)) (Or.inr (own_w hw 11 rfl)) (by decide) (t := (.array .byte)) (t' := (.object "java/lang/String")) (by decide) (by decide)))).keep K13 nin0).other W19 (Or.inr (slot_ne (Or.inr (own_w hw 18 rfl)) (Or.inr (own_w hw 16 rfl)) (by decide) (t := (.array .byte)) (t' := (.object "java/lang/String")) (by decide) (by decide)))).ext E23)
  refine own_putF X27 hx hZ13 (ty := (.array .byte)) hown13 (host := "") (Or.inl (own_w hw 17 rfl)) Via.refl e27 f29 f28 (Or.inr ⟨(own_w hw 18 rfl), rfl, (name_of_methodNamed Bd.named Bd.method).1⟩) (own_w hw 2 rfl) (by decide) rfl rfl hby d1_37 N19 g_at_ ?_
  intro T30 h30 lo30 X30 e30 N30 W30 F30 z30
  have C31 := C25.trans (CHr.wr W30 (Safe.exa hZ13.alike f28 (by decide) (by decide)) C25.1)
  refine own_goto X30.here hx hby (pc' := 53) d1_40 (by decide) (by decide) ?_
  have K32 : Keep h0 h30 [at_] := ((((((Keep.refl h0 [at_]).wr W6 (Or.inl (List.mem_of_getElem? (i := 0) rfl))).trans K13 all0).wr W19 (Or.inl (List.mem_of_getElem? (i := 0) rfl))).ext E23).wr W30 (Or.inl (List.mem_of_getElem? (i := 0) rfl)))
  have f33 := (f28.wr W30)
  have f34 := (C23.wr W30)
  have f35 := (V26.other W30 (own_nn (by omega)))
  obtain ⟨fs, hr, hrun, hended, hRW⟩ := X30.leaveW hS13 (by rw [e30]; omega) (v := none) (fun _ => rfl)
  have hCf : CHr Z consts_1 s.vm s.heap T30.vm T30.heap := by
    rw [hh, e30]
    exact C31.trans (CHv.at X30 hZ13 hEL C31.1)
  refine own_ret (t := T30.setFrames fs) ?_ ⟨_, hrun, hended, _, _, rfl, ?_, hCf, hRW.1, hRW.2.1, hRW.2.2.1, hRW.2.2.2.mono (by decide) (by decide)⟩
  · exact X30.returnOut hx Bd.returns (hb hby d1_53) hr
  · show Q_maInit_B_0 Z _ _ _ _ _ _ _ _ _ h0 n0 _ T30.heap _
    rw [e30]
    exact ⟨b23, ki, rfl, N30, K32, f33, F30, (by omega), f34, f35⟩
def Q_maInit_B_1 (Z : State) (at_ : Nat) (x : Nat) (t : Nat) (kt : ClassId) (n : Int32) (vs_ : List Value) (zc : Int32) (ip : Nat) (ki : ClassId) (u0 : Int32) (h0 : Heap) (n0 : Nat) (vR : Option Value) (hR : Heap) (LR : List Loc) : Prop := ∃ (bc : Nat) (kc : ClassId), vR = none ∧ Fr n0 LR ∧ Keep h0 hR [at_] ∧ (Exa Z hR at_ "com/example/sluice/sluice/MessageAttribute") ∧ (Fld Z hR at_ "com/example/sluice/sluice/MessageAttribute" "binaryValue" "[B" (.ref bc)) ∧ h0.size ≤ bc ∧ (Exa Z hR bc "[B") ∧ (Arv Z hR bc kc .byte (1 : Int32) [(.int u0)] (.int 0))
set_option maxRecDepth 65536 in
set_option maxHeartbeats 40000000 in
theorem maInit_B_1 (l : Launch) (Z : State) (a0 : Array Value) (hw : ∀ d ∈ tables_1, d.before a0 Z = true) (ws : List Jvm.Cond) (at_ : Nat) (x : Nat) (t : Nat) (kt : ClassId) (n : Int32) (vs_ : List Value) (zc : Int32) (ip : Nat) (ki : ClassId) (u0 : Int32) (h0 : Heap) (n0 : Nat) (Z0 : n0 ≤ h0.size) (E_at : Exa Z h0 at_ "com/example/sluice/sluice/MessageAttribute") (g_at_ : n0 ≤ at_) (F_dataType_at : Fld Z h0 at_ "com/example/sluice/sluice/MessageAttribute" "dataType" "Ljava/lang/String;" .null) (F_stringValue_at : Fld Z h0 at_ "com/example/sluice/sluice/MessageAttribute" "stringValue" "Ljava/lang/String;" .null) (F_binaryValue_at : Fld Z h0 at_ "com/example/sluice/sluice/MessageAttribute" "binaryValue" "[B" .null) (E_x : Exa Z h0 x "java/lang/String") (Fc_x : Fld Z h0 x "java/lang/String" "coder" "B" (.int 0)) (Fv_x : Fld Z h0 x "java/lang/String" "value" "[B" (.ref t)) (V_t : Arv Z h0 t kt .byte n vs_ (.int 0)) (S_C : Sta Z h0 "java/lang/String" "COMPACT_STRINGS" "Z" (.int zc)) (hz : ¬ (zc = (0 : Int32))) (hK : own_kindB n vs_) (E_ip : Exa Z h0 ip "[B") (V_ip : Arv Z h0 ip ki .byte (1 : Int32) [(.int u0)] (.int 0)) :
    own_MH l (⟨"com/example/sluice/sluice/MessageAttribute", "<init>", "(Ljava/lang/String;Ljava/lang/String;[B)V"⟩ : MethodName) prog_6_method_1_code 4 none ws ({ frames := 5, cells := 5, slots := 61, locals := 71 } : Room) Z #[(.ref at_), (.ref x), .null, (.ref ip)] h0 (Q_maInit_B_1 Z at_ x t kt n vs_ zc ip ki u0 h0 n0) consts_1 := by
  refine own_bodyH (own := "com/example/sluice/sluice/MessageAttribute") rfl (plainFor_of_name pn_1) (fun m => ef_maInit_B_0 m at_ x ip) ?_
  intro p e s m below meth c s₁ Bd hml hZ hh hx hby hown X0 e0 hS0 CH0
  have N0 := Fr.nil n0
  have hk0 : h0.size ≤ h0.size := Nat.le_refl _
  have Y0 : Stand p l e ({ frames := 5, cells := 5, slots := 61, locals := 71 } : Room) (s.setVm s.vm) m #[(.ref at_), (.ref x), .null, (.ref ip)] below meth c s₁ [] 0 0 := X0
  have hEL := own_EW hw
  have C0 := CHr.refl CH0
  have lt1 : h0.size > at_ := E_at.lt
  have lt2 : h0.size > x := E_x.lt
  have lt3 : h0.size > t := V_t.lt
  have lt4 : h0.size > ip := E_ip.lt
  refine own_aloadN Y0.here hx hby d1_0 rfl rfl ?_
  refine own_initO Y0 hx hZ hown (own_w hw 7 rfl) (own_w hw 8 rfl) (own_w hw 9 rfl) e0 (by rw [hml]; rfl) hby d1_1 (by decide) 0 (Nat.le_of_eq rfl) (by decide) ?_
  intro T5 X5 e5
  refine own_aloadN X5.here hx hby d1_4 rfl rfl ?_
  refine own_aloadN X5.here hx hby d1_5 rfl rfl ?_
  refine own_putF X5 hx hZ (ty := (.object "java/lang/String")) hown (host := "") (Or.inl (own_w hw 10 rfl)) Via.refl e5 F_dataType_at E_at (Or.inr ⟨(own_w hw 11 rfl), rfl, (name_of_methodNamed Bd.named Bd.method).1⟩) (own_w hw 2 rfl) (by decide) rfl rfl hby d1_6 N0 g_at_ ?_
  intro T6 h6 lo6 X6 e6 N6 W6 F6 z6
  have C7 := C0.trans (CHr.wr W6 (Safe.exa hZ.alike E_at (by decide) (by decide)) C0.1)
  refine own_aloadN X6.here hx hby d1_9 rfl rfl ?_
  have f8 := (E_x.wr W6)
  have f9 := (Fc_x.other W6 (Or.inl (ne_exa E_x E_at (by decide))))
  have f10 := (Fv_x.other W6 (Or.inl (ne_exa E_x E_at (by decide))))
  have f11 := (V_t.other W6 (Ne.symm (own_ne_oa E_at (own_w hw 2 rfl) V_t)))
  have f12 := (S_C.wr W6)
  have z14 : n0 ≤ h6.size := by omega
  refine own_callSH X6 hx hZ hEL hown (own_w hw 12 rfl) (own_w hw 13 rfl) (own_w hw 3 rfl) (own_w hw 14 rfl) (by decide) (isBin_B l Z a0 hw [] x t kt n vs_ zc h6 n0 z14 f8 f9 f10 f11 f12 hz hK) 0 (Nat.le_of_eq rfl) (by decide) (by decide) (by rw [hml]; rfl) (argsL := [(.ref x)]) (st := []) (lenOf pd_9 rfl) rfl rfl (by decide) (by decide) e6 hby C7.1 hS0 (by omega) d1_10 ?_
  intro T13 v13 L13 vm13 X13 hS13 hZ13 hown13 hg13 Cn13 hQ13
  obtain ⟨rfl, Nq13, K13⟩ := hQ13
  have N13 := Fr.app N6 Nq13
  have z15 : h6.size ≤ T13.heap.size := K13.1
  have C16 := C7.trans Cn13
  refine own_sh (T := T13) 13 #[.val (.ref at_), .val (.ref x), .val .null, .val (.ref ip)] [(.int 1)] ?_
  refine own_ifNo X13.here hx hby d1_13 ((if0 _ _).trans (feq (show ¬ ((1 : Int32) = (0 : Int32)) from (by decide))).1) ?_
  refine own_aloadN X13.here hx hby d1_16 rfl rfl ?_
  refine own_aconstNull X13.here hx hby d1_17 ?_
  have f17 := ((E_at.wr W6).keep K13)
  have f18 := ((F_stringValue_at.other W6 (Or.inr (slot_ne (Or.inr (own_w hw 16 rfl)) (Or.inr (own_w hw 11 rfl)) (by decide) (t := (.object "java/lang/String")) (t' := (.object "java/lang/String")) (by decide) (by decide)))).keep K13 nin0)
  refine own_putF X13 hx hZ13 (ty := (.object "java/lang/String")) hown13 (host := "") (Or.inl (own_w hw 15 rfl)) Via.refl rfl f18 f17 (Or.inr ⟨(own_w hw 16 rfl), rfl, (name_of_methodNamed Bd.named Bd.method).1⟩) (own_w hw 2 rfl) (by decide) rfl rfl hby d1_18 N13 g_at_ ?_
  intro T19 h19 lo19 X19 e19 N19 W19 F19 z19
  have C20 := C16.trans (CHr.wr W19 (Safe.exa hZ13.alike f17 (by decide) (by decide)) C16.1)
  refine own_aloadN X19.here hx hby d1_21 rfl rfl ?_
  refine own_aloadN X19.here hx hby d1_22 rfl rfl ?_
  refine own_ifnonnullYes X19.here hx hby (pc' := 30) d1_23 (by decide) (by decide) ?_
  refine own_aloadN X19.here hx hby d1_30 rfl rfl ?_
  have f21 := (((V_ip.other W6 (ne_exa E_ip E_at (by decide))).keep K13 nin0).other W19 (ne_exa E_ip E_at (by decide)))
  have f22 := (((E_ip.wr W6).keep K13).wr W19)
  refine own_cloneH X19 hx hZ13 (ad := "[B") hown13 (own_w hw 103 rfl) (own_w hw 104 rfl) (own_w hw 108 rfl) (own_w hw 106 rfl) (own_w hw 107 rfl) (own_w hw 109 rfl) e19 (Arv.arh f21) f22 (by rw [hml]; rfl) hby d1_31 (by decide) 1 1 (Nat.le_of_eq rfl) (by decide) (by decide) (by decide) (by decide) ?_
  intro T23 h23 b23 X23 e23 E23 g23 A23 C23 lt23
  have z24 : h19.size ≤ h23.size := E23.1
  have C25 := C20.trans (CHr.ext E23 C20.1)
  have V26 : Arv Z h23 b23 ki .byte (1 : Int32) [(.int u0)] (.int 0) := A23
  refine own_castY X23 hx hZ13 hown13 (own_w hw 110 rfl) e23 (Ins.self C23) hby d1_34 ?_
  intro T27 X27 e27
  have f28 := ((f17.wr W19).ext E23)
  have f29 := ((((F_binaryValue_at.other W6 (Or.inr (slot_ne (Or.inr (own_w hw 18 rfl)) (Or.inr (own_w hw 11 rfl)) (by decide) (t := (.array .byte)) (t' := (.object "java/lang/String")) (by decide) (by decide)))).keep K13 nin0).other W19 (Or.inr (slot_ne (Or.inr (own_w hw 18 rfl)) (Or.inr (own_w hw 16 rfl)) (by decide) (t := (.array .byte)) (t' := (.object "java/lang/String")) (by decide) (by decide)))).ext E23)
  refine own_putF X27 hx hZ13 (ty := (.array .byte)) hown13 (host := "") (Or.inl (own_w hw 17 rfl)) Via.refl e27 f29 f28 (Or.inr ⟨(own_w hw 18 rfl), rfl, (name_of_methodNamed Bd.named Bd.method).1⟩) (own_w hw 2 rfl) (by decide) rfl rfl hby d1_37 N19 g_at_ ?_
  intro T30 h30 lo30 X30 e30 N30 W30 F30 z30
  have C31 := C25.trans (CHr.wr W30 (Safe.exa hZ13.alike f28 (by decide) (by decide)) C25.1)
  refine own_goto X30.here hx hby (pc' := 53) d1_40 (by decide) (by decide) ?_
  have K32 : Keep h0 h30 [at_] := ((((((Keep.refl h0 [at_]).wr W6 (Or.inl (List.mem_of_getElem? (i := 0) rfl))).trans K13 all0).wr W19 (Or.inl (List.mem_of_getElem? (i := 0) rfl))).ext E23).wr W30 (Or.inl (List.mem_of_getElem? (i := 0) rfl)))
  have f33 := (f28.wr W30)
  have f34 := (C23.wr W30)
  have f35 := (V26.other W30 (own_nn (by omega)))
  obtain ⟨fs, hr, hrun, hended, hRW⟩ := X30.leaveW hS13 (by rw [e30]; omega) (v := none) (fun _ => rfl)
  have hCf : CHr Z consts_1 s.vm s.heap T30.vm T30.heap := by
    rw [hh, e30]
    exact C31.trans (CHv.at X30 hZ13 hEL C31.1)
  refine own_ret (t := T30.setFrames fs) ?_ ⟨_, hrun, hended, _, _, rfl, ?_, hCf, hRW.1, hRW.2.1, hRW.2.2.1, hRW.2.2.2.mono (by decide) (by decide)⟩
  · exact X30.returnOut hx Bd.returns (hb hby d1_53) hr
  · show Q_maInit_B_1 Z _ _ _ _ _ _ _ _ _ _ h0 n0 _ T30.heap _
    rw [e30]
    exact ⟨b23, ki, rfl, N30, K32, f33, F30, (by omega), f34, f35⟩
def Q_maInit_B_2 (Z : State) (at_ : Nat) (x : Nat) (t : Nat) (kt : ClassId) (n : Int32) (vs_ : List Value) (zc : Int32) (ip : Nat) (ki : ClassId) (u0 : Int32) (u1 : Int32) (h0 : Heap) (n0 : Nat) (vR : Option Value) (hR : Heap) (LR : List Loc) : Prop := ∃ (bc : Nat) (kc : ClassId), vR = none ∧ Fr n0 LR ∧ Keep h0 hR [at_] ∧ (Exa Z hR at_ "com/example/sluice/sluice/MessageAttribute") ∧ (Fld Z hR at_ "com/example/sluice/sluice/MessageAttribute" "binaryValue" "[B" (.ref bc)) ∧ h0.size ≤ bc ∧ (Exa Z hR bc "[B") ∧ (Arv Z hR bc kc .byte (2 : Int32) [(.int u0), (.int u1)] (.int 0))
set_option maxRecDepth 65536 in
set_option maxHeartbeats 40000000 in
theorem maInit_B_2 (l : Launch) (Z : State) (a0 : Array Value) (hw : ∀ d ∈ tables_1, d.before a0 Z = true) (ws : List Jvm.Cond) (at_ : Nat) (x : Nat) (t : Nat) (kt : ClassId) (n : Int32) (vs_ : List Value) (zc : Int32) (ip : Nat) (ki : ClassId) (u0 : Int32) (u1 : Int32) (h0 : Heap) (n0 : Nat) (Z0 : n0 ≤ h0.size) (E_at : Exa Z h0 at_ "com/example/sluice/sluice/MessageAttribute") (g_at_ : n0 ≤ at_) (F_dataType_at : Fld Z h0 at_ "com/example/sluice/sluice/MessageAttribute" "dataType" "Ljava/lang/String;" .null) (F_stringValue_at : Fld Z h0 at_ "com/example/sluice/sluice/MessageAttribute" "stringValue" "Ljava/lang/String;" .null) (F_binaryValue_at : Fld Z h0 at_ "com/example/sluice/sluice/MessageAttribute" "binaryValue" "[B" .null) (E_x : Exa Z h0 x "java/lang/String") (Fc_x : Fld Z h0 x "java/lang/String" "coder" "B" (.int 0)) (Fv_x : Fld Z h0 x "java/lang/String" "value" "[B" (.ref t)) (V_t : Arv Z h0 t kt .byte n vs_ (.int 0)) (S_C : Sta Z h0 "java/lang/String" "COMPACT_STRINGS" "Z" (.int zc)) (hz : ¬ (zc = (0 : Int32))) (hK : own_kindB n vs_) (E_ip : Exa Z h0 ip "[B") (V_ip : Arv Z h0 ip ki .byte (2 : Int32) [(.int u0), (.int u1)] (.int 0)) :
    own_MH l (⟨"com/example/sluice/sluice/MessageAttribute", "<init>", "(Ljava/lang/String;Ljava/lang/String;[B)V"⟩ : MethodName) prog_6_method_1_code 4 none ws ({ frames := 5, cells := 5, slots := 62, locals := 71 } : Room) Z #[(.ref at_), (.ref x), .null, (.ref ip)] h0 (Q_maInit_B_2 Z at_ x t kt n vs_ zc ip ki u0 u1 h0 n0) consts_1 := by
  refine own_bodyH (own := "com/example/sluice/sluice/MessageAttribute") rfl (plainFor_of_name pn_1) (fun m => ef_maInit_B_0 m at_ x ip) ?_
  intro p e s m below meth c s₁ Bd hml hZ hh hx hby hown X0 e0 hS0 CH0
  have N0 := Fr.nil n0
  have hk0 : h0.size ≤ h0.size := Nat.le_refl _
  have Y0 : Stand p l e ({ frames := 5, cells := 5, slots := 62, locals := 71 } : Room) (s.setVm s.vm) m #[(.ref at_), (.ref x), .null, (.ref ip)] below meth c s₁ [] 0 0 := X0
  have hEL := own_EW hw
  have C0 := CHr.refl CH0
  have lt2 : h0.size > at_ := E_at.lt
  have lt3 : h0.size > x := E_x.lt
  have lt4 : h0.size > t := V_t.lt
  have lt5 : h0.size > ip := E_ip.lt
  refine own_aloadN Y0.here hx hby d1_0 rfl rfl ?_
  refine own_initO Y0 hx hZ hown (own_w hw 7 rfl) (own_w hw 8 rfl) (own_w hw 9 rfl) e0 (by rw [hml]; rfl) hby d1_1 (by decide) 0 (Nat.le_of_eq rfl) (by decide) ?_
  intro T6 X6 e6
  refine own_aloadN X6.here hx hby d1_4 rfl rfl ?_
  refine own_aloadN X6.here hx hby d1_5 rfl rfl ?_
  refine own_putF X6 hx hZ (ty := (.object "java/lang/String")) hown (host := "") (Or.inl (own_w hw 10 rfl)) Via.refl e6 F_dataType_at E_at (Or.inr ⟨(own_w hw 11 rfl), rfl, (name_of_methodNamed Bd.named Bd.method).1⟩) (own_w hw 2 rfl) (by decide) rfl rfl hby d1_6 N0 g_at_ ?_
  intro T7 h7 lo7 X7 e7 N7 W7 F7 z7
  have C8 := C0.trans (CHr.wr W7 (Safe.exa hZ.alike E_at (by decide) (by decide)) C0.1)
  refine own_aloadN X7.here hx hby d1_9 rfl rfl ?_
  have f9 := (E_x.wr W7)
  have f10 := (Fc_x.other W7 (Or.inl (ne_exa E_x E_at (by decide))))
  have f11 := (Fv_x.other W7 (Or.inl (ne_exa E_x E_at (by decide))))
  have f12 := (V_t.other W7 (Ne.symm (own_ne_oa E_at (own_w hw 2 rfl) V_t)))
  have f13 := (S_C.wr W7)
  have z15 : n0 ≤ h7.size := by omega
  refine own_callSH X7 hx hZ hEL hown (own_w hw 12 rfl) (own_w hw 13 rfl) (own_w hw 3 rfl) (own_w hw 14 rfl) (by decide) (isBin_B l Z a0 hw [] x t kt n vs_ zc h7 n0 z15 f9 f10 f11 f12 f13 hz hK) 0 (Nat.le_of_eq rfl) (by decide) (by decide) (by rw [hml]; rfl) (argsL := [(.ref x)]) (st := []) (lenOf pd_9 rfl) rfl rfl (by decide) (by decide) e7 hby C8.1 hS0 (by omega) d1_10 ?_
  intro T14 v14 L14 vm14 X14 hS14 hZ14 hown14 hg14 Cn14 hQ14
  obtain ⟨rfl, Nq14, K14⟩ := hQ14
  have N14 := Fr.app N7 Nq14
  have z16 : h7.size ≤ T14.heap.size := K14.1
  have C17 := C8.trans Cn14
  refine own_sh (T := T14) 13 #[.val (.ref at_), .val (.ref x), .val .null, .val (.ref ip)] [(.int 1)] ?_
  refine own_ifNo X14.here hx hby d1_13 ((if0 _ _).trans (feq (show ¬ ((1 : Int32) = (0 : Int32)) from (by decide))).1) ?_
  refine own_aloadN X14.here hx hby d1_16 rfl rfl ?_
  refine own_aconstNull X14.here hx hby d1_17 ?_
  have f18 := ((E_at.wr W7).keep K14)
  have f19 := ((F_stringValue_at.other W7 (Or.inr (slot_ne (Or.inr (own_w hw 16 rfl)) (Or.inr (own_w hw 11 rfl)) (by decide) (t := (.object "java/lang/String")) (t' := (.object "java/lang/String")) (by decide) (by decide)))).keep K14 nin0)
  refine own_putF X14 hx hZ14 (ty := (.object "java/lang/String")) hown14 (host := "") (Or.inl (own_w hw 15 rfl)) Via.refl rfl f19 f18 (Or.inr ⟨(own_w hw 16 rfl), rfl, (name_of_methodNamed Bd.named Bd.method).1⟩) (own_w hw 2 rfl) (by decide) rfl rfl hby d1_18 N14 g_at_ ?_
  intro T20 h20 lo20 X20 e20 N20 W20 F20 z20
  have C21 := C17.trans (CHr.wr W20 (Safe.exa hZ14.alike f18 (by decide) (by decide)) C17.1)
  refine own_aloadN X20.here hx hby d1_21 rfl rfl ?_
  refine own_aloadN X20.here hx hby d1_22 rfl rfl ?_
  refine own_ifnonnullYes X20.here hx hby (pc' := 30) d1_23 (by decide) (by decide) ?_
  refine own_aloadN X20.here hx hby d1_30 rfl rfl ?_
  have f22 := (((V_ip.other W7 (ne_exa E_ip E_at (by decide))).keep K14 nin0).other W20 (ne_exa E_ip E_at (by decide)))
  have f23 := (((E_ip.wr W7).keep K14).wr W20)
  refine own_cloneH X20 hx hZ14 (ad := "[B") hown14 (own_w hw 103 rfl) (own_w hw 104 rfl) (own_w hw 108 rfl) (own_w hw 106 rfl) (own_w hw 107 rfl) (own_w hw 109 rfl) e20 (Arv.arh f22) f23 (by rw [hml]; rfl) hby d1_31 (by decide) 1 2 (Nat.le_of_eq rfl) (by decide) (by decide) (by decide) (by decide) ?_
  intro T24 h24 b24 X24 e24 E24 g24 A24 C24 lt24
  have z25 : h20.size ≤ h24.size := E24.1
  have C26 := C21.trans (CHr.ext E24 C21.1)
  have V27 : Arv Z h24 b24 ki .byte (2 : Int32) [(.int u0), (.int u1)] (.int 0) := A24
  refine own_castY X24 hx hZ14 hown14 (own_w hw 110 rfl) e24 (Ins.self C24) hby d1_34 ?_
  intro T28 X28 e28
  have f29 := ((f18.wr W20).ext E24)
  have f30 := ((((F_binaryValue_at.other W7 (Or.inr (slot_ne (Or.inr (own_w hw 18 rfl)) (Or.inr (own_w hw 11 rfl)) (by decide) (t := (.array .byte)) (t' := (.object "java/lang/String")) (by decide) (by decide)))).keep K14 nin0).other W20 (Or.inr (slot_ne (Or.inr (own_w hw 18 rfl)) (Or.inr (own_w hw 16 rfl)) (by decide) (t := (.array .byte)) (t' := (.object "java/lang/String")) (by decide) (by decide)))).ext E24)
  refine own_putF X28 hx hZ14 (ty := (.array .byte)) hown14 (host := "") (Or.inl (own_w hw 17 rfl)) Via.refl e28 f30 f29 (Or.inr ⟨(own_w hw 18 rfl), rfl, (name_of_methodNamed Bd.named Bd.method).1⟩) (own_w hw 2 rfl) (by decide) rfl rfl hby d1_37 N20 g_at_ ?_
  intro T31 h31 lo31 X31 e31 N31 W31 F31 z31
  have C32 := C26.trans (CHr.wr W31 (Safe.exa hZ14.alike f29 (by decide) (by decide)) C26.1)
  refine own_goto X31.here hx hby (pc' := 53) d1_40 (by decide) (by decide) ?_
  have K33 : Keep h0 h31 [at_] := ((((((Keep.refl h0 [at_]).wr W7 (Or.inl (List.mem_of_getElem? (i := 0) rfl))).trans K14 all0).wr W20 (Or.inl (List.mem_of_getElem? (i := 0) rfl))).ext E24).wr W31 (Or.inl (List.mem_of_getElem? (i := 0) rfl)))
  have f34 := (f29.wr W31)
  have f35 := (C24.wr W31)
  have f36 := (V27.other W31 (own_nn (by omega)))
  obtain ⟨fs, hr, hrun, hended, hRW⟩ := X31.leaveW hS14 (by rw [e31]; omega) (v := none) (fun _ => rfl)
  have hCf : CHr Z consts_1 s.vm s.heap T31.vm T31.heap := by
    rw [hh, e31]
    exact C32.trans (CHv.at X31 hZ14 hEL C32.1)
  refine own_ret (t := T31.setFrames fs) ?_ ⟨_, hrun, hended, _, _, rfl, ?_, hCf, hRW.1, hRW.2.1, hRW.2.2.1, hRW.2.2.2.mono (by decide) (by decide)⟩
  · exact X31.returnOut hx Bd.returns (hb hby d1_53) hr
  · show Q_maInit_B_2 Z _ _ _ _ _ _ _ _ _ _ _ h0 n0 _ T31.heap _
    rw [e31]
    exact ⟨b24, ki, rfl, N31, K33, f34, F31, (by omega), f35, f36⟩
def Q_maInit_B_3 (Z : State) (at_ : Nat) (x : Nat) (t : Nat) (kt : ClassId) (n : Int32) (vs_ : List Value) (zc : Int32) (ip : Nat) (ki : ClassId) (u0 : Int32) (u1 : Int32) (u2 : Int32) (h0 : Heap) (n0 : Nat) (vR : Option Value) (hR : Heap) (LR : List Loc) : Prop := ∃ (bc : Nat) (kc : ClassId), vR = none ∧ Fr n0 LR ∧ Keep h0 hR [at_] ∧ (Exa Z hR at_ "com/example/sluice/sluice/MessageAttribute") ∧ (Fld Z hR at_ "com/example/sluice/sluice/MessageAttribute" "binaryValue" "[B" (.ref bc)) ∧ h0.size ≤ bc ∧ (Exa Z hR bc "[B") ∧ (Arv Z hR bc kc .byte (3 : Int32) [(.int u0), (.int u1), (.int u2)] (.int 0))
set_option maxRecDepth 65536 in
set_option maxHeartbeats 40000000 in
theorem maInit_B_3 (l : Launch) (Z : State) (a0 : Array Value) (hw : ∀ d ∈ tables_1, d.before a0 Z = true) (ws : List Jvm.Cond) (at_ : Nat) (x : Nat) (t : Nat) (kt : ClassId) (n : Int32) (vs_ : List Value) (zc : Int32) (ip : Nat) (ki : ClassId) (u0 : Int32) (u1 : Int32) (u2 : Int32) (h0 : Heap) (n0 : Nat) (Z0 : n0 ≤ h0.size) (E_at : Exa Z h0 at_ "com/example/sluice/sluice/MessageAttribute") (g_at_ : n0 ≤ at_) (F_dataType_at : Fld Z h0 at_ "com/example/sluice/sluice/MessageAttribute" "dataType" "Ljava/lang/String;" .null) (F_stringValue_at : Fld Z h0 at_ "com/example/sluice/sluice/MessageAttribute" "stringValue" "Ljava/lang/String;" .null) (F_binaryValue_at : Fld Z h0 at_ "com/example/sluice/sluice/MessageAttribute" "binaryValue" "[B" .null) (E_x : Exa Z h0 x "java/lang/String") (Fc_x : Fld Z h0 x "java/lang/String" "coder" "B" (.int 0)) (Fv_x : Fld Z h0 x "java/lang/String" "value" "[B" (.ref t)) (V_t : Arv Z h0 t kt .byte n vs_ (.int 0)) (S_C : Sta Z h0 "java/lang/String" "COMPACT_STRINGS" "Z" (.int zc)) (hz : ¬ (zc = (0 : Int32))) (hK : own_kindB n vs_) (E_ip : Exa Z h0 ip "[B") (V_ip : Arv Z h0 ip ki .byte (3 : Int32) [(.int u0), (.int u1), (.int u2)] (.int 0)) :
    own_MH l (⟨"com/example/sluice/sluice/MessageAttribute", "<init>", "(Ljava/lang/String;Ljava/lang/String;[B)V"⟩ : MethodName) prog_6_method_1_code 4 none ws ({ frames := 5, cells := 5, slots := 63, locals := 71 } : Room) Z #[(.ref at_), (.ref x), .null, (.ref ip)] h0 (Q_maInit_B_3 Z at_ x t kt n vs_ zc ip ki u0 u1 u2 h0 n0) consts_1 := by
  refine own_bodyH (own := "com/example/sluice/sluice/MessageAttribute") rfl (plainFor_of_name pn_1) (fun m => ef_maInit_B_0 m at_ x ip) ?_
  intro p e s m below meth c s₁ Bd hml hZ hh hx hby hown X0 e0 hS0 CH0
  have N0 := Fr.nil n0
  have hk0 : h0.size ≤ h0.size := Nat.le_refl _
  have Y0 : Stand p l e ({ frames := 5, cells := 5, slots := 63, locals := 71 } : Room) (s.setVm s.vm) m #[(.ref at_), (.ref x), .null, (.ref ip)] below meth c s₁ [] 0 0 := X0
  have hEL := own_EW hw
  have C0 := CHr.refl CH0
  have lt3 : h0.size > at_ := E_at.lt
  have lt4 : h0.size > x := E_x.lt
  have lt5 : h0.size > t := V_t.lt
  have lt6 : h0.size > ip := E_ip.lt
  refine own_aloadN Y0.here hx hby d1_0 rfl rfl ?_
  refine own_initO Y0 hx hZ hown (own_w hw 7 rfl) (own_w hw 8 rfl) (own_w hw 9 rfl) e0 (by rw [hml]; rfl) hby d1_1 (by decide) 0 (Nat.le_of_eq rfl) (by decide) ?_
  intro T7 X7 e7
  refine own_aloadN X7.here hx hby d1_4 rfl rfl ?_
  refine own_aloadN X7.here hx hby d1_5 rfl rfl ?_
  refine own_putF X7 hx hZ (ty := (.object "java/lang/String")) hown (host := "") (Or.inl (own_w hw 10 rfl)) Via.refl e7 F_dataType_at E_at (Or.inr ⟨(own_w hw 11 rfl), rfl, (name_of_methodNamed Bd.named Bd.method).1⟩) (own_w hw 2 rfl) (by decide) rfl rfl hby d1_6 N0 g_at_ ?_
  intro T8 h8 lo8 X8 e8 N8 W8 F8 z8
  have C9 := C0.trans (CHr.wr W8 (Safe.exa hZ.alike E_at (by decide) (by decide)) C0.1)
  refine own_aloadN X8.here hx hby d1_9 rfl rfl ?_
  have f10 := (E_x.wr W8)
  have f11 := (Fc_x.other W8 (Or.inl (ne_exa E_x E_at (by decide))))
  have f12 := (Fv_x.other W8 (Or.inl (ne_exa E_x E_at (by decide))))
  have f13 := (V_t.other W8 (Ne.symm (own_ne_oa E_at (own_w hw 2 rfl) V_t)))
  have f14 := (S_C.wr W8)
  have z16 : n0 ≤ h8.size := by omega
  refine own_callSH X8 hx hZ hEL hown (own_w hw 12 rfl) (own_w hw 13 rfl) (own_w hw 3 rfl) (own_w hw 14 rfl) (by decide) (isBin_B l Z a0 hw [] x t kt n vs_ zc h8 n0 z16 f10 f11 f12 f13 f14 hz hK) 0 (Nat.le_of_eq rfl) (by decide) (by decide) (by rw [hml]; rfl) (argsL := [(.ref x)]) (st := []) (lenOf pd_9 rfl) rfl rfl (by decide) (by decide) e8 hby C9.1 hS0 (by omega) d1_10 ?_
  intro T15 v15 L15 vm15 X15 hS15 hZ15 hown15 hg15 Cn15 hQ15
  obtain ⟨rfl, Nq15, K15⟩ := hQ15
  have N15 := Fr.app N8 Nq15
  have z17 : h8.size ≤ T15.heap.size := K15.1
  have C18 := C9.trans Cn15
  refine own_sh (T := T15) 13 #[.val (.ref at_), .val (.ref x), .val .null, .val (.ref ip)] [(.int 1)] ?_
  refine own_ifNo X15.here hx hby d1_13 ((if0 _ _).trans (feq (show ¬ ((1 : Int32) = (0 : Int32)) from (by decide))).1) ?_
  refine own_aloadN X15.here hx hby d1_16 rfl rfl ?_
  refine own_aconstNull X15.here hx hby d1_17 ?_
  have f19 := ((E_at.wr W8).keep K15)
  have f20 := ((F_stringValue_at.other W8 (Or.inr (slot_ne (Or.inr (own_w hw 16 rfl)) (Or.inr (own_w hw 11 rfl)) (by decide) (t := (.object "java/lang/String")) (t' := (.object "java/lang/String")) (by decide) (by decide)))).keep K15 nin0)
  refine own_putF X15 hx hZ15 (ty := (.object "java/lang/String")) hown15 (host := "") (Or.inl (own_w hw 15 rfl)) Via.refl rfl f20 f19 (Or.inr ⟨(own_w hw 16 rfl), rfl, (name_of_methodNamed Bd.named Bd.method).1⟩) (own_w hw 2 rfl) (by decide) rfl rfl hby d1_18 N15 g_at_ ?_
  intro T21 h21 lo21 X21 e21 N21 W21 F21 z21
  have C22 := C18.trans (CHr.wr W21 (Safe.exa hZ15.alike f19 (by decide) (by decide)) C18.1)
  refine own_aloadN X21.here hx hby d1_21 rfl rfl ?_
  refine own_aloadN X21.here hx hby d1_22 rfl rfl ?_
  refine own_ifnonnullYes X21.here hx hby (pc' := 30) d1_23 (by decide) (by decide) ?_
  refine own_aloadN X21.here hx hby d1_30 rfl rfl ?_
  have f23 := (((V_ip.other W8 (ne_exa E_ip E_at (by decide))).keep K15 nin0).other W21 (ne_exa E_ip E_at (by decide)))
  have f24 := (((E_ip.wr W8).keep K15).wr W21)
  refine own_cloneH X21 hx hZ15 (ad := "[B") hown15 (own_w hw 103 rfl) (own_w hw 104 rfl) (own_w hw 108 rfl) (own_w hw 106 rfl) (own_w hw 107 rfl) (own_w hw 109 rfl) e21 (Arv.arh f23) f24 (by rw [hml]; rfl) hby d1_31 (by decide) 1 3 (Nat.le_of_eq rfl) (by decide) (by decide) (by decide) (by decide) ?_
  intro T25 h25 b25 X25 e25 E25 g25 A25 C25 lt25
  have z26 : h21.size ≤ h25.size := E25.1
  have C27 := C22.trans (CHr.ext E25 C22.1)
  have V28 : Arv Z h25 b25 ki .byte (3 : Int32) [(.int u0), (.int u1), (.int u2)] (.int 0) := A25
  refine own_castY X25 hx hZ15 hown15 (own_w hw 110 rfl) e25 (Ins.self C25) hby d1_34 ?_
  intro T29 X29 e29
  have f30 := ((f19.wr W21).ext E25)
  have f31 := ((((F_binaryValue_at.other W8 (Or.inr (slot_ne (Or.inr (own_w hw 18 rfl)) (Or.inr (own_w hw 11 rfl)) (by decide) (t := (.array .byte)) (t' := (.object "java/lang/String")) (by decide) (by decide)))).keep K15 nin0).other W21 (Or.inr (slot_ne (Or.inr (own_w hw 18 rfl)) (Or.inr (own_w hw 16 rfl)) (by decide) (t := (.array .byte)) (t' := (.object "java/lang/String")) (by decide) (by decide)))).ext E25)
  refine own_putF X29 hx hZ15 (ty := (.array .byte)) hown15 (host := "") (Or.inl (own_w hw 17 rfl)) Via.refl e29 f31 f30 (Or.inr ⟨(own_w hw 18 rfl), rfl, (name_of_methodNamed Bd.named Bd.method).1⟩) (own_w hw 2 rfl) (by decide) rfl rfl hby d1_37 N21 g_at_ ?_
  intro T32 h32 lo32 X32 e32 N32 W32 F32 z32
  have C33 := C27.trans (CHr.wr W32 (Safe.exa hZ15.alike f30 (by decide) (by decide)) C27.1)
  refine own_goto X32.here hx hby (pc' := 53) d1_40 (by decide) (by decide) ?_
  have K34 : Keep h0 h32 [at_] := ((((((Keep.refl h0 [at_]).wr W8 (Or.inl (List.mem_of_getElem? (i := 0) rfl))).trans K15 all0).wr W21 (Or.inl (List.mem_of_getElem? (i := 0) rfl))).ext E25).wr W32 (Or.inl (List.mem_of_getElem? (i := 0) rfl)))
  have f35 := (f30.wr W32)
  have f36 := (C25.wr W32)
  have f37 := (V28.other W32 (own_nn (by omega)))
  obtain ⟨fs, hr, hrun, hended, hRW⟩ := X32.leaveW hS15 (by rw [e32]; omega) (v := none) (fun _ => rfl)
  have hCf : CHr Z consts_1 s.vm s.heap T32.vm T32.heap := by
    rw [hh, e32]
    exact C33.trans (CHv.at X32 hZ15 hEL C33.1)
  refine own_ret (t := T32.setFrames fs) ?_ ⟨_, hrun, hended, _, _, rfl, ?_, hCf, hRW.1, hRW.2.1, hRW.2.2.1, hRW.2.2.2.mono (by decide) (by decide)⟩
  · exact X32.returnOut hx Bd.returns (hb hby d1_53) hr
  · show Q_maInit_B_3 Z _ _ _ _ _ _ _ _ _ _ _ _ h0 n0 _ T32.heap _
    rw [e32]
    exact ⟨b25, ki, rfl, N32, K34, f35, F32, (by omega), f36, f37⟩
theorem d1_43 : decode prog_6_method_1_code 43 = .ok (.aload_n 0, 1) := by decide +kernel
theorem d1_44 : decode prog_6_method_1_code 44 = .ok (.aload_n 2, 1) := by decide +kernel
theorem d1_45 : decode prog_6_method_1_code 45 = .ok (.putfield 17, 3) := by decide +kernel
theorem d1_48 : decode prog_6_method_1_code 48 = .ok (.aload_n 0, 1) := by decide +kernel
theorem d1_49 : decode prog_6_method_1_code 49 = .ok (.aconst_null, 1) := by decide +kernel
theorem d1_50 : decode prog_6_method_1_code 50 = .ok (.putfield 26, 3) := by decide +kernel
def Q_maInit_N_null (Z : State) (at_ : Nat) (x : Nat) (t : Nat) (kt : ClassId) (n : Int32) (vs_ : List Value) (zc : Int32) (h0 : Heap) (n0 : Nat) (vR : Option Value) (hR : Heap) (LR : List Loc) : Prop := vR = none ∧ Fr n0 LR ∧ Keep h0 hR [at_] ∧ (Exa Z hR at_ "com/example/sluice/sluice/MessageAttribute") ∧ (Fld Z hR at_ "com/example/sluice/sluice/MessageAttribute" "binaryValue" "[B" .null)
set_option maxRecDepth 65536 in
set_option maxHeartbeats 40000000 in
theorem maInit_N_null (l : Launch) (Z : State) (a0 : Array Value) (hw : ∀ d ∈ tables_1, d.before a0 Z = true) (ws : List Jvm.Cond) (at_ : Nat) (x : Nat) (t : Nat) (kt : ClassId) (n : Int32) (vs_ : List Value) (zc : Int32) (h0 : Heap) (n0 : Nat) (Z0 : n0 ≤ h0.size) (E_at : Exa Z h0 at_ "com/example/sluice/sluice/MessageAttribute") (g_at_ : n0 ≤ at_) (F_dataType_at : Fld Z h0 at_ "com/example/sluice/sluice/MessageAttribute" "dataType" "Ljava/lang/String;" .null) (F_stringValue_at : Fld Z h0 at_ "com/example/sluice/sluice/MessageAttribute" "stringValue" "Ljava/lang/String;" .null) (F_binaryValue_at : Fld Z h0 at_ "com/example/sluice/sluice/MessageAttribute" "binaryValue" "[B" .null) (E_x : Exa Z h0 x "java/lang/String") (Fc_x : Fld Z h0 x "java/lang/String" "coder" "B" (.int 0)) (Fv_x : Fld Z h0 x "java/lang/String" "value" "[B" (.ref t)) (V_t : Arv Z h0 t kt .byte n vs_ (.int 0)) (S_C : Sta Z h0 "java/lang/String" "COMPACT_STRINGS" "Z" (.int zc)) (hz : ¬ (zc = (0 : Int32))) (hK : own_kindN n vs_) :
    own_MH l (⟨"com/example/sluice/sluice/MessageAttribute", "<init>", "(Ljava/lang/String;Ljava/lang/String;[B)V"⟩ : MethodName) prog_6_method_1_code 4 none ws ({ frames := 5, cells := 4, slots := 60, locals := 71 } : Room) Z #[(.ref at_), (.ref x), .null, .null] h0 (Q_maInit_N_null Z at_ x t kt n vs_ zc h0 n0) consts_1 := by
  refine own_bodyH (own := "com/example/sluice/sluice/MessageAttribute") rfl (plainFor_of_name pn_1) (fun m => ef_maInit_B_null m at_ x) ?_
  intro p e s m below meth c s₁ Bd hml hZ hh hx hby hown X0 e0 hS0 CH0
  have N0 := Fr.nil n0
  have hk0 : h0.size ≤ h0.size := Nat.le_refl _
  have Y0 : Stand p l e ({ frames := 5, cells := 4, slots := 60, locals := 71 } : Room) (s.setVm s.vm) m #[(.ref at_), (.ref x), .null, .null] below meth c s₁ [] 0 0 := X0
  have hEL := own_EW hw
  have C0 := CHr.refl CH0
  have lt1 : h0.size > at_ := E_at.lt
  have lt2 : h0.size > x := E_x.lt
  have lt3 : h0.size > t := V_t.lt
  refine own_aloadN Y0.here hx hby d1_0 rfl rfl ?_
  refine own_initO Y0 hx hZ hown (own_w hw 7 rfl) (own_w hw 8 rfl) (own_w hw 9 rfl) e0 (by rw [hml]; rfl) hby d1_1 (by decide) 0 (Nat.le_of_eq rfl) (by decide) ?_
  intro T4 X4 e4
  refine own_aloadN X4.here hx hby d1_4 rfl rfl ?_
  refine own_aloadN X4.here hx hby d1_5 rfl rfl ?_
  refine own_putF X4 hx hZ (ty := (.object "java/lang/String")) hown (host := "") (Or.inl (own_w hw 10 rfl)) Via.refl e4 F_dataType_at E_at (Or.inr ⟨(own_w hw 11 rfl), rfl, (name_of_methodNamed Bd.named Bd.method).1⟩) (own_w hw 2 rfl) (by decide) rfl rfl hby d1_6 N0 g_at_ ?_
  intro T5 h5 lo5 X5 e5 N5 W5 F5 z5
  have C6 := C0.trans (CHr.wr W5 (Safe.exa hZ.alike E_at (by decide) (by decide)) C0.1)
  refine own_aloadN X5.here hx hby d1_9 rfl rfl ?_
  have f7 := (E_x.wr W5)
  have f8 := (Fc_x.other W5 (Or.inl (ne_exa E_x E_at (by decide))))
  have f9 := (Fv_x.other W5 (Or.inl (ne_exa E_x E_at (by decide))))
  have f10 := (V_t.other W5 (Ne.symm (own_ne_oa E_at (own_w hw 2 rfl) V_t)))
  have f11 := (S_C.wr W5)
  have z13 : n0 ≤ h5.size := by omega
  refine own_callSH X5 hx hZ hEL hown (own_w hw 12 rfl) (own_w hw 13 rfl) (own_w hw 3 rfl) (own_w hw 14 rfl) (by decide) (isBin_N l Z a0 hw [] x t kt n vs_ zc h5 n0 z13 f7 f8 f9 f10 f11 hz hK) 0 (Nat.le_of_eq rfl) (by decide) (by decide) (by rw [hml]; rfl) (argsL := [(.ref x)]) (st := []) (lenOf pd_9 rfl) rfl rfl (by decide) (by decide) e5 hby C6.1 hS0 (by omega) d1_10 ?_
  intro T12 v12 L12 vm12 X12 hS12 hZ12 hown12 hg12 Cn12 hQ12
  obtain ⟨rfl, Nq12, K12⟩ := hQ12
  have N12 := Fr.app N5 Nq12
  have z14 : h5.size ≤ T12.heap.size := K12.1
  have C15 := C6.trans Cn12
  refine own_sh (T := T12) 13 #[.val (.ref at_), .val (.ref x), .val .null, .val .null] [(.int 0)] ?_
  refine own_ifYes X12.here hx hby (pc' := 43) d1_13 ((if0 _ _).trans (teq (show (0 : Int32) = (0 : Int32) from (by decide))).1) (by decide) (by decide) ?_
  refine own_aloadN X12.here hx hby d1_43 rfl rfl ?_
  refine own_aloadN X12.here hx hby d1_44 rfl rfl ?_
  have f16 := ((E_at.wr W5).keep K12)
  have f17 := ((F_stringValue_at.other W5 (Or.inr (slot_ne (Or.inr (own_w hw 16 rfl)) (Or.inr (own_w hw 11 rfl)) (by decide) (t := (.object "java/lang/String")) (t' := (.object "java/lang/String")) (by decide) (by decide)))).keep K12 nin0)
  refine own_putF X12 hx hZ12 (ty := (.object "java/lang/String")) hown12 (host := "") (Or.inl (own_w hw 15 rfl)) Via.refl rfl f17 f16 (Or.inr ⟨(own_w hw 16 rfl), rfl, (name_of_methodNamed Bd.named Bd.method).1⟩) (own_w hw 2 rfl) (by decide) rfl rfl hby d1_45 N12 g_at_ ?_
  intro T18 h18 lo18 X18 e18 N18 W18 F18 z18
  have C19 := C15.trans (CHr.wr W18 (Safe.exa hZ12.alike f16 (by decide) (by decide)) C15.1)
  refine own_aloadN X18.here hx hby d1_48 rfl rfl ?_
  refine own_aconstNull X18.here hx hby d1_49 ?_
  have f20 := (f16.wr W18)
  have f21 := (((F_binaryValue_at.other W5 (Or.inr (slot_ne (Or.inr (own_w hw 18 rfl)) (Or.inr (own_w hw 11 rfl)) (by decide) (t := (.array .byte)) (t' := (.object "java/lang/String")) (by decide) (by decide)))).keep K12 nin0).other W18 (Or.inr (slot_ne (Or.inr (own_w hw 18 rfl)) (Or.inr (own_w hw 16 rfl)) (by decide) (t := (.array .byte)) (t' := (.object "java/lang/String")) (by decide) (by decide))))
  refine own_putF X18 hx hZ12 (ty := (.array .byte)) hown12 (host := "") (Or.inl (own_w hw 17 rfl)) Via.refl e18 f21 f20 (Or.inr ⟨(own_w hw 18 rfl), rfl, (name_of_methodNamed Bd.named Bd.method).1⟩) (own_w hw 2 rfl) (by decide) rfl rfl hby d1_50 N18 g_at_ ?_
  intro T22 h22 lo22 X22 e22 N22 W22 F22 z22
  have C23 := C19.trans (CHr.wr W22 (Safe.exa hZ12.alike f20 (by decide) (by decide)) C19.1)
  have K24 : Keep h0 h22 [at_] := (((((Keep.refl h0 [at_]).wr W5 (Or.inl (List.mem_of_getElem? (i := 0) rfl))).trans K12 all0).wr W18 (Or.inl (List.mem_of_getElem? (i := 0) rfl))).wr W22 (Or.inl (List.mem_of_getElem? (i := 0) rfl)))
  have f25 := (f20.wr W22)
  obtain ⟨fs, hr, hrun, hended, hRW⟩ := X22.leaveW hS12 (by rw [e22]; omega) (v := none) (fun _ => rfl)
  have hCf : CHr Z consts_1 s.vm s.heap T22.vm T22.heap := by
    rw [hh, e22]
    exact C23.trans (CHv.at X22 hZ12 hEL C23.1)
  refine own_ret (t := T22.setFrames fs) ?_ ⟨_, hrun, hended, _, _, rfl, ?_, hCf, hRW.1, hRW.2.1, hRW.2.2.1, hRW.2.2.2.mono (by decide) (by decide)⟩
  · exact X22.returnOut hx Bd.returns (hb hby d1_53) hr
  · show Q_maInit_N_null Z _ _ _ _ _ _ _ h0 n0 _ T22.heap _
    rw [e22]
    exact ⟨rfl, N22, K24, f25, F22⟩
def Q_maInit_N_any (Z : State) (at_ : Nat) (x : Nat) (t : Nat) (kt : ClassId) (n : Int32) (vs_ : List Value) (zc : Int32) (ip : Nat) (h0 : Heap) (n0 : Nat) (vR : Option Value) (hR : Heap) (LR : List Loc) : Prop := vR = none ∧ Fr n0 LR ∧ Keep h0 hR [at_] ∧ (Exa Z hR at_ "com/example/sluice/sluice/MessageAttribute") ∧ (Fld Z hR at_ "com/example/sluice/sluice/MessageAttribute" "binaryValue" "[B" .null)
set_option maxRecDepth 65536 in
set_option maxHeartbeats 40000000 in
theorem maInit_N_any (l : Launch) (Z : State) (a0 : Array Value) (hw : ∀ d ∈ tables_1, d.before a0 Z = true) (ws : List Jvm.Cond) (at_ : Nat) (x : Nat) (t : Nat) (kt : ClassId) (n : Int32) (vs_ : List Value) (zc : Int32) (ip : Nat) (h0 : Heap) (n0 : Nat) (Z0 : n0 ≤ h0.size) (E_at : Exa Z h0 at_ "com/example/sluice/sluice/MessageAttribute") (g_at_ : n0 ≤ at_) (F_dataType_at : Fld Z h0 at_ "com/example/sluice/sluice/MessageAttribute" "dataType" "Ljava/lang/String;" .null) (F_stringValue_at : Fld Z h0 at_ "com/example/sluice/sluice/MessageAttribute" "stringValue" "Ljava/lang/String;" .null) (F_binaryValue_at : Fld Z h0 at_ "com/example/sluice/sluice/MessageAttribute" "binaryValue" "[B" .null) (E_x : Exa Z h0 x "java/lang/String") (Fc_x : Fld Z h0 x "java/lang/String" "coder" "B" (.int 0)) (Fv_x : Fld Z h0 x "java/lang/String" "value" "[B" (.ref t)) (V_t : Arv Z h0 t kt .byte n vs_ (.int 0)) (S_C : Sta Z h0 "java/lang/String" "COMPACT_STRINGS" "Z" (.int zc)) (hz : ¬ (zc = (0 : Int32))) (hK : own_kindN n vs_) :
    own_MH l (⟨"com/example/sluice/sluice/MessageAttribute", "<init>", "(Ljava/lang/String;Ljava/lang/String;[B)V"⟩ : MethodName) prog_6_method_1_code 4 none ws ({ frames := 5, cells := 4, slots := 60, locals := 71 } : Room) Z #[(.ref at_), (.ref x), .null, (.ref ip)] h0 (Q_maInit_N_any Z at_ x t kt n vs_ zc ip h0 n0) consts_1 := by
  refine own_bodyH (own := "com/example/sluice/sluice/MessageAttribute") rfl (plainFor_of_name pn_1) (fun m => ef_maInit_B_0 m at_ x ip) ?_
  intro p e s m below meth c s₁ Bd hml hZ hh hx hby hown X0 e0 hS0 CH0
  have N0 := Fr.nil n0
  have hk0 : h0.size ≤ h0.size := Nat.le_refl _
  have Y0 : Stand p l e ({ frames := 5, cells := 4, slots := 60, locals := 71 } : Room) (s.setVm s.vm) m #[(.ref at_), (.ref x), .null, (.ref ip)] below meth c s₁ [] 0 0 := X0
  have hEL := own_EW hw
  have C0 := CHr.refl CH0
  have lt1 : h0.size > at_ := E_at.lt
  have lt2 : h0.size > x := E_x.lt
  have lt3 : h0.size > t := V_t.lt
  refine own_aloadN Y0.here hx hby d1_0 rfl rfl ?_
  refine own_initO Y0 hx hZ hown (own_w hw 7 rfl) (own_w hw 8 rfl) (own_w hw 9 rfl) e0 (by rw [hml]; rfl) hby d1_1 (by decide) 0 (Nat.le_of_eq rfl) (by decide) ?_
  intro T4 X4 e4
  refine own_aloadN X4.here hx hby d1_4 rfl rfl ?_
  refine own_aloadN X4.here hx hby d1_5 rfl rfl ?_
  refine own_putF X4 hx hZ (ty := (.object "java/lang/String")) hown (host := "") (Or.inl (own_w hw 10 rfl)) Via.refl e4 F_dataType_at E_at (Or.inr ⟨(own_w hw 11 rfl), rfl, (name_of_methodNamed Bd.named Bd.method).1⟩) (own_w hw 2 rfl) (by decide) rfl rfl hby d1_6 N0 g_at_ ?_
  intro T5 h5 lo5 X5 e5 N5 W5 F5 z5
  have C6 := C0.trans (CHr.wr W5 (Safe.exa hZ.alike E_at (by decide) (by decide)) C0.1)
  refine own_aloadN X5.here hx hby d1_9 rfl rfl ?_
  have f7 := (E_x.wr W5)
  have f8 := (Fc_x.other W5 (Or.inl (ne_exa E_x E_at (by decide))))
  have f9 := (Fv_x.other W5 (Or.inl (ne_exa E_x E_at (by decide))))
  have f10 := (V_t.other W5 (Ne.symm (own_ne_oa E_at (own_w hw 2 rfl) V_t)))
  have f11 := (S_C.wr W5)
  have z13 : n0 ≤ h5.size := by omega
  refine own_callSH X5 hx hZ hEL hown (own_w hw 12 rfl) (own_w hw 13 rfl) (own_w hw 3 rfl) (own_w hw 14 rfl) (by decide) (isBin_N l Z a0 hw [] x t kt n vs_ zc h5 n0 z13 f7 f8 f9 f10 f11 hz hK) 0 (Nat.le_of_eq rfl) (by decide) (by decide) (by rw [hml]; rfl) (argsL := [(.ref x)]) (st := []) (lenOf pd_9 rfl) rfl rfl (by decide) (by decide) e5 hby C6.1 hS0 (by omega) d1_10 ?_
  intro T12 v12 L12 vm12 X12 hS12 hZ12 hown12 hg12 Cn12 hQ12
  obtain ⟨rfl, Nq12, K12⟩ := hQ12
  have N12 := Fr.app N5 Nq12
  have z14 : h5.size ≤ T12.heap.size := K12.1
  have C15 := C6.trans Cn12
  refine own_sh (T := T12) 13 #[.val (.ref at_), .val (.ref x), .val .null, .val (.ref ip)] [(.int 0)] ?_
  refine own_ifYes X12.here hx hby (pc' := 43) d1_13 ((if0 _ _).trans (teq (show (0 : Int32) = (0 : Int32) from (by decide))).1) (by decide) (by decide) ?_
  refine own_aloadN X12.here hx hby d1_43 rfl rfl ?_
  refine own_aloadN X12.here hx hby d1_44 rfl rfl ?_
  have f16 := ((E_at.wr W5).keep K12)
  have f17 := ((F_stringValue_at.other W5 (Or.inr (slot_ne (Or.inr (own_w hw 16 rfl)) (Or.inr (own_w hw 11 rfl)) (by decide) (t := (.object "java/lang/String")) (t' := (.object "java/lang/String")) (by decide) (by decide)))).keep K12 nin0)
  refine own_putF X12 hx hZ12 (ty := (.object "java/lang/String")) hown12 (host := "") (Or.inl (own_w hw 15 rfl)) Via.refl rfl f17 f16 (Or.inr ⟨(own_w hw 16 rfl), rfl, (name_of_methodNamed Bd.named Bd.method).1⟩) (own_w hw 2 rfl) (by decide) rfl rfl hby d1_45 N12 g_at_ ?_
  intro T18 h18 lo18 X18 e18 N18 W18 F18 z18
  have C19 := C15.trans (CHr.wr W18 (Safe.exa hZ12.alike f16 (by decide) (by decide)) C15.1)
  refine own_aloadN X18.here hx hby d1_48 rfl rfl ?_
  refine own_aconstNull X18.here hx hby d1_49 ?_
  have f20 := (f16.wr W18)
  have f21 := (((F_binaryValue_at.other W5 (Or.inr (slot_ne (Or.inr (own_w hw 18 rfl)) (Or.inr (own_w hw 11 rfl)) (by decide) (t := (.array .byte)) (t' := (.object "java/lang/String")) (by decide) (by decide)))).keep K12 nin0).other W18 (Or.inr (slot_ne (Or.inr (own_w hw 18 rfl)) (Or.inr (own_w hw 16 rfl)) (by decide) (t := (.array .byte)) (t' := (.object "java/lang/String")) (by decide) (by decide))))
  refine own_putF X18 hx hZ12 (ty := (.array .byte)) hown12 (host := "") (Or.inl (own_w hw 17 rfl)) Via.refl e18 f21 f20 (Or.inr ⟨(own_w hw 18 rfl), rfl, (name_of_methodNamed Bd.named Bd.method).1⟩) (own_w hw 2 rfl) (by decide) rfl rfl hby d1_50 N18 g_at_ ?_
  intro T22 h22 lo22 X22 e22 N22 W22 F22 z22
  have C23 := C19.trans (CHr.wr W22 (Safe.exa hZ12.alike f20 (by decide) (by decide)) C19.1)
  have K24 : Keep h0 h22 [at_] := (((((Keep.refl h0 [at_]).wr W5 (Or.inl (List.mem_of_getElem? (i := 0) rfl))).trans K12 all0).wr W18 (Or.inl (List.mem_of_getElem? (i := 0) rfl))).wr W22 (Or.inl (List.mem_of_getElem? (i := 0) rfl)))
  have f25 := (f20.wr W22)
  obtain ⟨fs, hr, hrun, hended, hRW⟩ := X22.leaveW hS12 (by rw [e22]; omega) (v := none) (fun _ => rfl)
  have hCf : CHr Z consts_1 s.vm s.heap T22.vm T22.heap := by
    rw [hh, e22]
    exact C23.trans (CHv.at X22 hZ12 hEL C23.1)
  refine own_ret (t := T22.setFrames fs) ?_ ⟨_, hrun, hended, _, _, rfl, ?_, hCf, hRW.1, hRW.2.1, hRW.2.2.1, hRW.2.2.2.mono (by decide) (by decide)⟩
  · exact X22.returnOut hx Bd.returns (hb hby d1_53) hr
  · show Q_maInit_N_any Z _ _ _ _ _ _ _ _ h0 n0 _ T22.heap _
    rw [e22]
    exact ⟨rfl, N22, K24, f25, F22⟩
theorem ef_maInit_0_null (m : MethodId) (x0 : Nat) : entryFrame m #[(.ref x0), .null, .null, .null] 4 = mkF m 0 #[.val (.ref x0), .val .null, .val .null, .val .null] [] := by first | (simp [entryFrame, mkF, argsToLocals, Value.category]; done) | rfl
def Q_maInit_0_null (Z : State) (at_ : Nat) (h0 : Heap) (n0 : Nat) (vR : Option Value) (hR : Heap) (LR : List Loc) : Prop := vR = none ∧ Fr n0 LR ∧ Keep h0 hR [at_] ∧ (Exa Z hR at_ "com/example/sluice/sluice/MessageAttribute") ∧ (Fld Z hR at_ "com/example/sluice/sluice/MessageAttribute" "binaryValue" "[B" .null)
set_option maxRecDepth 65536 in
set_option maxHeartbeats 40000000 in
theorem maInit_0_null (l : Launch) (Z : State) (a0 : Array Value) (hw : ∀ d ∈ tables_1, d.before a0 Z = true) (ws : List Jvm.Cond) (at_ : Nat) (h0 : Heap) (n0 : Nat) (Z0 : n0 ≤ h0.size) (E_at : Exa Z h0 at_ "com/example/sluice/sluice/MessageAttribute") (g_at_ : n0 ≤ at_) (F_dataType_at : Fld Z h0 at_ "com/example/sluice/sluice/MessageAttribute" "dataType" "Ljava/lang/String;" .null) (F_stringValue_at : Fld Z h0 at_ "com/example/sluice/sluice/MessageAttribute" "stringValue" "Ljava/lang/String;" .null) (F_binaryValue_at : Fld Z h0 at_ "com/example/sluice/sluice/MessageAttribute" "binaryValue" "[B" .null) :
    own_M l (⟨"com/example/sluice/sluice/MessageAttribute", "<init>", "(Ljava/lang/String;Ljava/lang/String;[B)V"⟩ : MethodName) prog_6_method_1_code 4 none ws ({ frames := 1, cells := 0, slots := 0, locals := 12 } : Room) Z #[(.ref at_), .null, .null, .null] h0 (Q_maInit_0_null Z at_ h0 n0) := by
  refine own_body (own := "com/example/sluice/sluice/MessageAttribute") rfl (plainFor_of_name pn_1) (fun m => ef_maInit_0_null m at_) ?_
  intro p e s m below meth c s₁ Bd hml hZ hh hx hby hown X0 e0
  have N0 := Fr.nil n0
  have lt1 : h0.size > at_ := E_at.lt
  refine own_aloadN X0.here hx hby d1_0 rfl rfl ?_
  refine own_initO X0 hx hZ hown (own_w hw 7 rfl) (own_w hw 8 rfl) (own_w hw 9 rfl) e0 (by rw [hml]; rfl) hby d1_1 (by decide) 0 (Nat.le_of_eq rfl) (by decide) ?_
  intro T2 X2 e2
  refine own_aloadN X2.here hx hby d1_4 rfl rfl ?_
  refine own_aloadN X2.here hx hby d1_5 rfl rfl ?_
  refine own_putF X2 hx hZ (ty := (.object "java/lang/String")) hown (host := "") (Or.inl (own_w hw 10 rfl)) Via.refl e2 F_dataType_at E_at (Or.inr ⟨(own_w hw 11 rfl), rfl, (name_of_methodNamed Bd.named Bd.method).1⟩) (own_w hw 2 rfl) (by decide) rfl rfl hby d1_6 N0 g_at_ ?_
  intro T3 h3 lo3 X3 e3 N3 W3 F3 z3
  refine own_aloadN X3.here hx hby d1_9 rfl rfl ?_
  have z5 : n0 ≤ h3.size := by omega
  refine own_callS X3 hx hZ hown (own_w hw 12 rfl) (own_w hw 13 rfl) (own_w hw 3 rfl) (own_w hw 14 rfl) (by decide) (isBin_0 l Z a0 hw []  h3 n0 z5 ) 0 (Nat.le_of_eq rfl) (by decide) (by decide) (by rw [hml]; rfl) (argsL := [.null]) (st := []) (lenOf pd_9 rfl) rfl rfl (by decide) (by decide) e3 hby d1_10 ?_
  intro T4 v4 L4 X4 hQ4
  obtain ⟨rfl, Nq4, eh4⟩ := hQ4
  have N4 := Fr.app N3 Nq4
  refine own_sh (T := T4) 13 #[.val (.ref at_), .val .null, .val .null, .val .null] [(.int 0)] ?_
  refine own_ifYes X4.here hx hby (pc' := 43) d1_13 ((if0 _ _).trans (teq (show (0 : Int32) = (0 : Int32) from (by decide))).1) (by decide) (by decide) ?_
  refine own_aloadN X4.here hx hby d1_43 rfl rfl ?_
  refine own_aloadN X4.here hx hby d1_44 rfl rfl ?_
  have f6 := (E_at.wr W3)
  have f7 := (F_stringValue_at.other W3 (Or.inr (slot_ne (Or.inr (own_w hw 16 rfl)) (Or.inr (own_w hw 11 rfl)) (by decide) (t := (.object "java/lang/String")) (t' := (.object "java/lang/String")) (by decide) (by decide))))
  refine own_putF X4 hx hZ (ty := (.object "java/lang/String")) hown (host := "") (Or.inl (own_w hw 15 rfl)) Via.refl eh4 f7 f6 (Or.inr ⟨(own_w hw 16 rfl), rfl, (name_of_methodNamed Bd.named Bd.method).1⟩) (own_w hw 2 rfl) (by decide) rfl rfl hby d1_45 N4 g_at_ ?_
  intro T8 h8 lo8 X8 e8 N8 W8 F8 z8
  refine own_aloadN X8.here hx hby d1_48 rfl rfl ?_
  refine own_aconstNull X8.here hx hby d1_49 ?_
  have f9 := (f6.wr W8)
  have f10 := ((F_binaryValue_at.other W3 (Or.inr (slot_ne (Or.inr (own_w hw 18 rfl)) (Or.inr (own_w hw 11 rfl)) (by decide) (t := (.array .byte)) (t' := (.object "java/lang/String")) (by decide) (by decide)))).other W8 (Or.inr (slot_ne (Or.inr (own_w hw 18 rfl)) (Or.inr (own_w hw 16 rfl)) (by decide) (t := (.array .byte)) (t' := (.object "java/lang/String")) (by decide) (by decide))))
  refine own_putF X8 hx hZ (ty := (.array .byte)) hown (host := "") (Or.inl (own_w hw 17 rfl)) Via.refl e8 f10 f9 (Or.inr ⟨(own_w hw 18 rfl), rfl, (name_of_methodNamed Bd.named Bd.method).1⟩) (own_w hw 2 rfl) (by decide) rfl rfl hby d1_50 N8 g_at_ ?_
  intro T11 h11 lo11 X11 e11 N11 W11 F11 z11
  have K12 : Keep h0 h11 [at_] := ((((Keep.refl h0 [at_]).wr W3 (Or.inl (List.mem_of_getElem? (i := 0) rfl))).wr W8 (Or.inl (List.mem_of_getElem? (i := 0) rfl))).wr W11 (Or.inl (List.mem_of_getElem? (i := 0) rfl)))
  have f13 := (f9.wr W11)
  obtain ⟨fs, hr, hrun, hended, hW, hsame⟩ := X11.leave (v := none) (fun _ => rfl)
  refine own_ret (t := T11.setFrames fs) ?_ ⟨_, hrun, hended, _, _, rfl, ?_, ⟨_, rfl⟩, hW, hsame.mono (by decide) (by decide)⟩
  · exact X11.returnOut hx Bd.returns (hb hby d1_53) hr
  · show Q_maInit_0_null Z _ h0 n0 _ T11.heap _
    rw [e11]
    exact ⟨rfl, N11, K12, f13, F11⟩
theorem ef_maInit_0_any (m : MethodId) (x0 : Nat) (x3 : Nat) : entryFrame m #[(.ref x0), .null, .null, (.ref x3)] 4 = mkF m 0 #[.val (.ref x0), .val .null, .val .null, .val (.ref x3)] [] := by first | (simp [entryFrame, mkF, argsToLocals, Value.category]; done) | rfl
def Q_maInit_0_any (Z : State) (at_ : Nat) (ip : Nat) (h0 : Heap) (n0 : Nat) (vR : Option Value) (hR : Heap) (LR : List Loc) : Prop := vR = none ∧ Fr n0 LR ∧ Keep h0 hR [at_] ∧ (Exa Z hR at_ "com/example/sluice/sluice/MessageAttribute") ∧ (Fld Z hR at_ "com/example/sluice/sluice/MessageAttribute" "binaryValue" "[B" .null)
set_option maxRecDepth 65536 in
set_option maxHeartbeats 40000000 in
theorem maInit_0_any (l : Launch) (Z : State) (a0 : Array Value) (hw : ∀ d ∈ tables_1, d.before a0 Z = true) (ws : List Jvm.Cond) (at_ : Nat) (ip : Nat) (h0 : Heap) (n0 : Nat) (Z0 : n0 ≤ h0.size) (E_at : Exa Z h0 at_ "com/example/sluice/sluice/MessageAttribute") (g_at_ : n0 ≤ at_) (F_dataType_at : Fld Z h0 at_ "com/example/sluice/sluice/MessageAttribute" "dataType" "Ljava/lang/String;" .null) (F_stringValue_at : Fld Z h0 at_ "com/example/sluice/sluice/MessageAttribute" "stringValue" "Ljava/lang/String;" .null) (F_binaryValue_at : Fld Z h0 at_ "com/example/sluice/sluice/MessageAttribute" "binaryValue" "[B" .null) :
    own_M l (⟨"com/example/sluice/sluice/MessageAttribute", "<init>", "(Ljava/lang/String;Ljava/lang/String;[B)V"⟩ : MethodName) prog_6_method_1_code 4 none ws ({ frames := 1, cells := 0, slots := 0, locals := 12 } : Room) Z #[(.ref at_), .null, .null, (.ref ip)] h0 (Q_maInit_0_any Z at_ ip h0 n0) := by
  refine own_body (own := "com/example/sluice/sluice/MessageAttribute") rfl (plainFor_of_name pn_1) (fun m => ef_maInit_0_any m at_ ip) ?_
  intro p e s m below meth c s₁ Bd hml hZ hh hx hby hown X0 e0
  have N0 := Fr.nil n0
  have lt1 : h0.size > at_ := E_at.lt
  refine own_aloadN X0.here hx hby d1_0 rfl rfl ?_
  refine own_initO X0 hx hZ hown (own_w hw 7 rfl) (own_w hw 8 rfl) (own_w hw 9 rfl) e0 (by rw [hml]; rfl) hby d1_1 (by decide) 0 (Nat.le_of_eq rfl) (by decide) ?_
  intro T2 X2 e2
  refine own_aloadN X2.here hx hby d1_4 rfl rfl ?_
  refine own_aloadN X2.here hx hby d1_5 rfl rfl ?_
  refine own_putF X2 hx hZ (ty := (.object "java/lang/String")) hown (host := "") (Or.inl (own_w hw 10 rfl)) Via.refl e2 F_dataType_at E_at (Or.inr ⟨(own_w hw 11 rfl), rfl, (name_of_methodNamed Bd.named Bd.method).1⟩) (own_w hw 2 rfl) (by decide) rfl rfl hby d1_6 N0 g_at_ ?_
  intro T3 h3 lo3 X3 e3 N3 W3 F3 z3
  refine own_aloadN X3.here hx hby d1_9 rfl rfl ?_
  have z5 : n0 ≤ h3.size := by omega
  refine own_callS X3 hx hZ hown (own_w hw 12 rfl) (own_w hw 13 rfl) (own_w hw 3 rfl) (own_w hw 14 rfl) (by decide) (isBin_0 l Z a0 hw []  h3 n0 z5 ) 0 (Nat.le_of_eq rfl) (by decide) (by decide) (by rw [hml]; rfl) (argsL := [.null]) (st := []) (lenOf pd_9 rfl) rfl rfl (by decide) (by decide) e3 hby d1_10 ?_
  intro T4 v4 L4 X4 hQ4
  obtain ⟨rfl, Nq4, eh4⟩ := hQ4
  have N4 := Fr.app N3 Nq4
  refine own_sh (T := T4) 13 #[.val (.ref at_), .val .null, .val .null, .val (.ref ip)] [(.int 0)] ?_
  refine own_ifYes X4.here hx hby (pc' := 43) d1_13 ((if0 _ _).trans (teq (show (0 : Int32) = (0 : Int32) from (by decide))).1) (by decide) (by decide) ?_
  refine own_aloadN X4.here hx hby d1_43 rfl rfl ?_
  refine own_aloadN X4.here hx hby d1_44 rfl rfl ?_
  have f6 := (E_at.wr W3)
  have f7 := (F_stringValue_at.other W3 (Or.inr (slot_ne (Or.inr (own_w hw 16 rfl)) (Or.inr (own_w hw 11 rfl)) (by decide) (t := (.object "java/lang/String")) (t' := (.object "java/lang/String")) (by decide) (by decide))))
  refine own_putF X4 hx hZ (ty := (.object "java/lang/String")) hown (host := "") (Or.inl (own_w hw 15 rfl)) Via.refl eh4 f7 f6 (Or.inr ⟨(own_w hw 16 rfl), rfl, (name_of_methodNamed Bd.named Bd.method).1⟩) (own_w hw 2 rfl) (by decide) rfl rfl hby d1_45 N4 g_at_ ?_
  intro T8 h8 lo8 X8 e8 N8 W8 F8 z8
  refine own_aloadN X8.here hx hby d1_48 rfl rfl ?_
  refine own_aconstNull X8.here hx hby d1_49 ?_
  have f9 := (f6.wr W8)
  have f10 := ((F_binaryValue_at.other W3 (Or.inr (slot_ne (Or.inr (own_w hw 18 rfl)) (Or.inr (own_w hw 11 rfl)) (by decide) (t := (.array .byte)) (t' := (.object "java/lang/String")) (by decide) (by decide)))).other W8 (Or.inr (slot_ne (Or.inr (own_w hw 18 rfl)) (Or.inr (own_w hw 16 rfl)) (by decide) (t := (.array .byte)) (t' := (.object "java/lang/String")) (by decide) (by decide))))
  refine own_putF X8 hx hZ (ty := (.array .byte)) hown (host := "") (Or.inl (own_w hw 17 rfl)) Via.refl e8 f10 f9 (Or.inr ⟨(own_w hw 18 rfl), rfl, (name_of_methodNamed Bd.named Bd.method).1⟩) (own_w hw 2 rfl) (by decide) rfl rfl hby d1_50 N8 g_at_ ?_
  intro T11 h11 lo11 X11 e11 N11 W11 F11 z11
  have K12 : Keep h0 h11 [at_] := ((((Keep.refl h0 [at_]).wr W3 (Or.inl (List.mem_of_getElem? (i := 0) rfl))).wr W8 (Or.inl (List.mem_of_getElem? (i := 0) rfl))).wr W11 (Or.inl (List.mem_of_getElem? (i := 0) rfl)))
  have f13 := (f9.wr W11)
  obtain ⟨fs, hr, hrun, hended, hW, hsame⟩ := X11.leave (v := none) (fun _ => rfl)
  refine own_ret (t := T11.setFrames fs) ?_ ⟨_, hrun, hended, _, _, rfl, ?_, ⟨_, rfl⟩, hW, hsame.mono (by decide) (by decide)⟩
  · exact X11.returnOut hx Bd.returns (hb hby d1_53) hr
  · show Q_maInit_0_any Z _ _ h0 n0 _ T11.heap _
    rw [e11]
    exact ⟨rfl, N11, K12, f13, F11⟩
theorem ef_binV_null (m : MethodId) (x0 : Nat) : entryFrame m #[(.ref x0)] 1 = mkF m 0 #[.val (.ref x0)] [] := by first | (simp [entryFrame, mkF, argsToLocals, Value.category]; done) | rfl
theorem pn_4 : plainName "com/example/sluice/sluice/MessageAttribute" = true := by first | (simp [plainName, overriddenIn]; done) | decide +kernel
theorem d4_0 : decode prog_6_method_4_code 0 = .ok (.aload_n 0, 1) := by decide +kernel
theorem d4_1 : decode prog_6_method_4_code 1 = .ok (.getfield 26, 3) := by decide +kernel
theorem d4_4 : decode prog_6_method_4_code 4 = .ok (.ifnonnull 7, 3) := by decide +kernel
theorem d4_7 : decode prog_6_method_4_code 7 = .ok (.aconst_null, 1) := by decide +kernel
theorem d4_8 : decode prog_6_method_4_code 8 = .ok (.goto 13, 3) := by decide +kernel
theorem d4_21 : decode prog_6_method_4_code 21 = .ok (.areturn, 1) := by decide +kernel
def Q_binV_null (Z : State) (at_ : Nat) (h0 : Heap) (n0 : Nat) (vR : Option Value) (hR : Heap) (LR : List Loc) : Prop := vR = some .null ∧ Fr n0 LR ∧ hR = h0
set_option maxRecDepth 65536 in
set_option maxHeartbeats 40000000 in
theorem binV_null (l : Launch) (Z : State) (a0 : Array Value) (hw : ∀ d ∈ tables_1, d.before a0 Z = true) (ws : List Jvm.Cond) (at_ : Nat) (h0 : Heap) (n0 : Nat) (Z0 : n0 ≤ h0.size) (F_binaryValue_at : Fld Z h0 at_ "com/example/sluice/sluice/MessageAttribute" "binaryValue" "[B" .null) :
    own_M l (⟨"com/example/sluice/sluice/MessageAttribute", "binaryValue", "()[B"⟩ : MethodName) prog_6_method_4_code 1 (some (.array .byte)) ws ({ frames := 0, cells := 0, slots := 0, locals := 0 } : Room) Z #[(.ref at_)] h0 (Q_binV_null Z at_ h0 n0) := by
  refine own_body (own := "com/example/sluice/sluice/MessageAttribute") rfl (plainFor_of_name pn_4) (fun m => ef_binV_null m at_) ?_
  intro p e s m below meth c s₁ Bd hml hZ hh hx hby hown X0 e0
  have N0 := Fr.nil n0
  have lt1 : h0.size > at_ := F_binaryValue_at.lt
  refine own_aloadN X0.here hx hby d4_0 rfl rfl ?_
  refine own_getF X0 hx hZ hown (host := "") (Or.inl (own_w hw 17 rfl)) Via.refl e0 F_binaryValue_at hby d4_1 ?_
  intro T2 X2 e2
  refine own_ifnonnullNo X2.here hx hby d4_4 ?_
  refine own_aconstNull X2.here hx hby d4_7 ?_
  refine own_goto X2.here hx hby (pc' := 21) d4_8 (by decide) (by decide) ?_
  obtain ⟨fs, hr, hrun, hended, hW, hsame⟩ := X2.leave (v := some .null) (fun h => by rw [Bd.returns] at h; cases h)
  refine own_ret (t := T2.setFrames fs) ?_ ⟨_, hrun, hended, _, _, rfl, ?_, ⟨_, rfl⟩, hW, hsame.mono (by decide) (by decide)⟩
  · exact retOut X2 hx Bd.returns rfl (Or.inr (Or.inr (Or.inr (Or.inr ⟨rfl, rfl, rfl⟩)))) (hb hby d4_21) hr
  · show Q_binV_null Z _ h0 n0 _ T2.heap _
    rw [e2]
    exact ⟨rfl, N0, rfl⟩
theorem d4_11 : decode prog_6_method_4_code 11 = .ok (.aload_n 0, 1) := by decide +kernel
theorem d4_12 : decode prog_6_method_4_code 12 = .ok (.getfield 26, 3) := by decide +kernel
theorem d4_15 : decode prog_6_method_4_code 15 = .ok (.invokevirtual 20, 3) := by decide +kernel
theorem d4_18 : decode prog_6_method_4_code 18 = .ok (.checkcast 21, 3) := by decide +kernel
def Q_binV_0 (Z : State) (at_ : Nat) (bc : Nat) (kc : ClassId) (h0 : Heap) (n0 : Nat) (vR : Option Value) (hR : Heap) (LR : List Loc) : Prop := ∃ (r : Nat) (kr : ClassId), vR = some (.ref r) ∧ Fr n0 LR ∧ Keep h0 hR [] ∧ h0.size ≤ r ∧ (Exa Z hR r "[B") ∧ (Arv Z hR r kr .byte (0 : Int32) [] (.int 0))
set_option maxRecDepth 65536 in
set_option maxHeartbeats 40000000 in
theorem binV_0 (l : Launch) (Z : State) (a0 : Array Value) (hw : ∀ d ∈ tables_1, d.before a0 Z = true) (ws : List Jvm.Cond) (at_ : Nat) (bc : Nat) (kc : ClassId) (h0 : Heap) (n0 : Nat) (Z0 : n0 ≤ h0.size) (F_binaryValue_at : Fld Z h0 at_ "com/example/sluice/sluice/MessageAttribute" "binaryValue" "[B" (.ref bc)) (E_bc : Exa Z h0 bc "[B") (V_bc : Arv Z h0 bc kc .byte (0 : Int32) [] (.int 0)) :
    own_M l (⟨"com/example/sluice/sluice/MessageAttribute", "binaryValue", "()[B"⟩ : MethodName) prog_6_method_4_code 1 (some (.array .byte)) ws ({ frames := 1, cells := 1, slots := 0, locals := 14 } : Room) Z #[(.ref at_)] h0 (Q_binV_0 Z at_ bc kc h0 n0) := by
  refine own_body (own := "com/example/sluice/sluice/MessageAttribute") rfl (plainFor_of_name pn_4) (fun m => ef_binV_null m at_) ?_
  intro p e s m below meth c s₁ Bd hml hZ hh hx hby hown X0 e0
  have N0 := Fr.nil n0
  have lt1 : h0.size > at_ := F_binaryValue_at.lt
  have lt2 : h0.size > bc := E_bc.lt
  refine own_aloadN X0.here hx hby d4_0 rfl rfl ?_
  refine own_getF X0 hx hZ hown (host := "") (Or.inl (own_w hw 17 rfl)) Via.refl e0 F_binaryValue_at hby d4_1 ?_
  intro T3 X3 e3
  refine own_ifnonnullYes X3.here hx hby (pc' := 11) d4_4 (by decide) (by decide) ?_
  refine own_aloadN X3.here hx hby d4_11 rfl rfl ?_
  refine own_getF X3 hx hZ hown (host := "") (Or.inl (own_w hw 17 rfl)) Via.refl e3 F_binaryValue_at hby d4_12 ?_
  intro T4 X4 e4
  refine own_cloneH X4 hx hZ (ad := "[B") hown (own_w hw 103 rfl) (own_w hw 104 rfl) (own_w hw 108 rfl) (own_w hw 106 rfl) (own_w hw 107 rfl) (own_w hw 109 rfl) e4 (Arv.arh V_bc) E_bc (by rw [hml]; rfl) hby d4_15 (by decide) 0 0 (Nat.le_of_eq rfl) (by decide) (by decide) (by decide) (by decide) ?_
  intro T5 h5 b5 X5 e5 E5 g5 A5 C5 lt5
  have z6 : h0.size ≤ h5.size := E5.1
  have V7 : Arv Z h5 b5 kc .byte (0 : Int32) [] (.int 0) := A5
  refine own_castY X5 hx hZ hown (own_w hw 110 rfl) e5 (Ins.self C5) hby d4_18 ?_
  intro T8 X8 e8
  have K9 : Keep h0 h5 [] := ((Keep.refl h0 []).ext E5)
  obtain ⟨fs, hr, hrun, hended, hW, hsame⟩ := X8.leave (v := some (.ref b5)) (fun h => by rw [Bd.returns] at h; cases h)
  refine own_ret (t := T8.setFrames fs) ?_ ⟨_, hrun, hended, _, _, rfl, ?_, ⟨_, rfl⟩, hW, hsame.mono (by decide) (by decide)⟩
  · exact retOut X8 hx Bd.returns rfl (Or.inr (Or.inr (Or.inr (Or.inr ⟨rfl, rfl, rfl⟩)))) (hb hby d4_21) hr
  · show Q_binV_0 Z _ _ _ h0 n0 _ T8.heap _
    rw [e8]
    exact ⟨b5, kc, rfl, N0, K9, (by omega), C5, V7⟩
def Q_binV_1 (Z : State) (at_ : Nat) (bc : Nat) (kc : ClassId) (u0 : Int32) (h0 : Heap) (n0 : Nat) (vR : Option Value) (hR : Heap) (LR : List Loc) : Prop := ∃ (r : Nat) (kr : ClassId), vR = some (.ref r) ∧ Fr n0 LR ∧ Keep h0 hR [] ∧ h0.size ≤ r ∧ (Exa Z hR r "[B") ∧ (Arv Z hR r kr .byte (1 : Int32) [(.int u0)] (.int 0))
set_option maxRecDepth 65536 in
set_option maxHeartbeats 40000000 in
theorem binV_1 (l : Launch) (Z : State) (a0 : Array Value) (hw : ∀ d ∈ tables_1, d.before a0 Z = true) (ws : List Jvm.Cond) (at_ : Nat) (bc : Nat) (kc : ClassId) (u0 : Int32) (h0 : Heap) (n0 : Nat) (Z0 : n0 ≤ h0.size) (F_binaryValue_at : Fld Z h0 at_ "com/example/sluice/sluice/MessageAttribute" "binaryValue" "[B" (.ref bc)) (E_bc : Exa Z h0 bc "[B") (V_bc : Arv Z h0 bc kc .byte (1 : Int32) [(.int u0)] (.int 0)) :
    own_M l (⟨"com/example/sluice/sluice/MessageAttribute", "binaryValue", "()[B"⟩ : MethodName) prog_6_method_4_code 1 (some (.array .byte)) ws ({ frames := 1, cells := 1, slots := 1, locals := 14 } : Room) Z #[(.ref at_)] h0 (Q_binV_1 Z at_ bc kc u0 h0 n0) := by
  refine own_body (own := "com/example/sluice/sluice/MessageAttribute") rfl (plainFor_of_name pn_4) (fun m => ef_binV_null m at_) ?_
  intro p e s m below meth c s₁ Bd hml hZ hh hx hby hown X0 e0
  have N0 := Fr.nil n0
  have lt1 : h0.size > at_ := F_binaryValue_at.lt
  have lt2 : h0.size > bc := E_bc.lt
  refine own_aloadN X0.here hx hby d4_0 rfl rfl ?_
  refine own_getF X0 hx hZ hown (host := "") (Or.inl (own_w hw 17 rfl)) Via.refl e0 F_binaryValue_at hby d4_1 ?_
  intro T3 X3 e3
  refine own_ifnonnullYes X3.here hx hby (pc' := 11) d4_4 (by decide) (by decide) ?_
  refine own_aloadN X3.here hx hby d4_11 rfl rfl ?_
  refine own_getF X3 hx hZ hown (host := "") (Or.inl (own_w hw 17 rfl)) Via.refl e3 F_binaryValue_at hby d4_12 ?_
  intro T4 X4 e4
  refine own_cloneH X4 hx hZ (ad := "[B") hown (own_w hw 103 rfl) (own_w hw 104 rfl) (own_w hw 108 rfl) (own_w hw 106 rfl) (own_w hw 107 rfl) (own_w hw 109 rfl) e4 (Arv.arh V_bc) E_bc (by rw [hml]; rfl) hby d4_15 (by decide) 0 1 (Nat.le_of_eq rfl) (by decide) (by decide) (by decide) (by decide) ?_
  intro T5 h5 b5 X5 e5 E5 g5 A5 C5 lt5
  have z6 : h0.size ≤ h5.size := E5.1
  have V7 : Arv Z h5 b5 kc .byte (1 : Int32) [(.int u0)] (.int 0) := A5
  refine own_castY X5 hx hZ hown (own_w hw 110 rfl) e5 (Ins.self C5) hby d4_18 ?_
  intro T8 X8 e8
  have K9 : Keep h0 h5 [] := ((Keep.refl h0 []).ext E5)
  obtain ⟨fs, hr, hrun, hended, hW, hsame⟩ := X8.leave (v := some (.ref b5)) (fun h => by rw [Bd.returns] at h; cases h)
  refine own_ret (t := T8.setFrames fs) ?_ ⟨_, hrun, hended, _, _, rfl, ?_, ⟨_, rfl⟩, hW, hsame.mono (by decide) (by decide)⟩
  · exact retOut X8 hx Bd.returns rfl (Or.inr (Or.inr (Or.inr (Or.inr ⟨rfl, rfl, rfl⟩)))) (hb hby d4_21) hr
  · show Q_binV_1 Z _ _ _ _ h0 n0 _ T8.heap _
    rw [e8]
    exact ⟨b5, kc, rfl, N0, K9, (by omega), C5, V7⟩
def Q_binV_2 (Z : State) (at_ : Nat) (bc : Nat) (kc : ClassId) (u0 : Int32) (u1 : Int32) (h0 : Heap) (n0 : Nat) (vR : Option Value) (hR : Heap) (LR : List Loc) : Prop := ∃ (r : Nat) (kr : ClassId), vR = some (.ref r) ∧ Fr n0 LR ∧ Keep h0 hR [] ∧ h0.size ≤ r ∧ (Exa Z hR r "[B") ∧ (Arv Z hR r kr .byte (2 : Int32) [(.int u0), (.int u1)] (.int 0))
set_option maxRecDepth 65536 in
set_option maxHeartbeats 40000000 in
theorem binV_2 (l : Launch) (Z : State) (a0 : Array Value) (hw : ∀ d ∈ tables_1, d.before a0 Z = true) (ws : List Jvm.Cond) (at_ : Nat) (bc : Nat) (kc : ClassId) (u0 : Int32) (u1 : Int32) (h0 : Heap) (n0 : Nat) (Z0 : n0 ≤ h0.size) (F_binaryValue_at : Fld Z h0 at_ "com/example/sluice/sluice/MessageAttribute" "binaryValue" "[B" (.ref bc)) (E_bc : Exa Z h0 bc "[B") (V_bc : Arv Z h0 bc kc .byte (2 : Int32) [(.int u0), (.int u1)] (.int 0)) :
    own_M l (⟨"com/example/sluice/sluice/MessageAttribute", "binaryValue", "()[B"⟩ : MethodName) prog_6_method_4_code 1 (some (.array .byte)) ws ({ frames := 1, cells := 1, slots := 2, locals := 14 } : Room) Z #[(.ref at_)] h0 (Q_binV_2 Z at_ bc kc u0 u1 h0 n0) := by
  refine own_body (own := "com/example/sluice/sluice/MessageAttribute") rfl (plainFor_of_name pn_4) (fun m => ef_binV_null m at_) ?_
  intro p e s m below meth c s₁ Bd hml hZ hh hx hby hown X0 e0
  have N0 := Fr.nil n0
  have lt2 : h0.size > at_ := F_binaryValue_at.lt
  have lt3 : h0.size > bc := E_bc.lt
  refine own_aloadN X0.here hx hby d4_0 rfl rfl ?_
  refine own_getF X0 hx hZ hown (host := "") (Or.inl (own_w hw 17 rfl)) Via.refl e0 F_binaryValue_at hby d4_1 ?_
  intro T4 X4 e4
  refine own_ifnonnullYes X4.here hx hby (pc' := 11) d4_4 (by decide) (by decide) ?_
  refine own_aloadN X4.here hx hby d4_11 rfl rfl ?_
  refine own_getF X4 hx hZ hown (host := "") (Or.inl (own_w hw 17 rfl)) Via.refl e4 F_binaryValue_at hby d4_12 ?_
  intro T5 X5 e5
  refine own_cloneH X5 hx hZ (ad := "[B") hown (own_w hw 103 rfl) (own_w hw 104 rfl) (own_w hw 108 rfl) (own_w hw 106 rfl) (own_w hw 107 rfl) (own_w hw 109 rfl) e5 (Arv.arh V_bc) E_bc (by rw [hml]; rfl) hby d4_15 (by decide) 0 2 (Nat.le_of_eq rfl) (by decide) (by decide) (by decide) (by decide) ?_
  intro T6 h6 b6 X6 e6 E6 g6 A6 C6 lt6
  have z7 : h0.size ≤ h6.size := E6.1
  have V8 : Arv Z h6 b6 kc .byte (2 : Int32) [(.int u0), (.int u1)] (.int 0) := A6
  refine own_castY X6 hx hZ hown (own_w hw 110 rfl) e6 (Ins.self C6) hby d4_18 ?_
  intro T9 X9 e9
  have K10 : Keep h0 h6 [] := ((Keep.refl h0 []).ext E6)
  obtain ⟨fs, hr, hrun, hended, hW, hsame⟩ := X9.leave (v := some (.ref b6)) (fun h => by rw [Bd.returns] at h; cases h)
  refine own_ret (t := T9.setFrames fs) ?_ ⟨_, hrun, hended, _, _, rfl, ?_, ⟨_, rfl⟩, hW, hsame.mono (by decide) (by decide)⟩
  · exact retOut X9 hx Bd.returns rfl (Or.inr (Or.inr (Or.inr (Or.inr ⟨rfl, rfl, rfl⟩)))) (hb hby d4_21) hr
  · show Q_binV_2 Z _ _ _ _ _ h0 n0 _ T9.heap _
    rw [e9]
    exact ⟨b6, kc, rfl, N0, K10, (by omega), C6, V8⟩
def Q_binV_3 (Z : State) (at_ : Nat) (bc : Nat) (kc : ClassId) (u0 : Int32) (u1 : Int32) (u2 : Int32) (h0 : Heap) (n0 : Nat) (vR : Option Value) (hR : Heap) (LR : List Loc) : Prop := ∃ (r : Nat) (kr : ClassId), vR = some (.ref r) ∧ Fr n0 LR ∧ Keep h0 hR [] ∧ h0.size ≤ r ∧ (Exa Z hR r "[B") ∧ (Arv Z hR r kr .byte (3 : Int32) [(.int u0), (.int u1), (.int u2)] (.int 0))
set_option maxRecDepth 65536 in
set_option maxHeartbeats 40000000 in
theorem binV_3 (l : Launch) (Z : State) (a0 : Array Value) (hw : ∀ d ∈ tables_1, d.before a0 Z = true) (ws : List Jvm.Cond) (at_ : Nat) (bc : Nat) (kc : ClassId) (u0 : Int32) (u1 : Int32) (u2 : Int32) (h0 : Heap) (n0 : Nat) (Z0 : n0 ≤ h0.size) (F_binaryValue_at : Fld Z h0 at_ "com/example/sluice/sluice/MessageAttribute" "binaryValue" "[B" (.ref bc)) (E_bc : Exa Z h0 bc "[B") (V_bc : Arv Z h0 bc kc .byte (3 : Int32) [(.int u0), (.int u1), (.int u2)] (.int 0)) :
    own_M l (⟨"com/example/sluice/sluice/MessageAttribute", "binaryValue", "()[B"⟩ : MethodName) prog_6_method_4_code 1 (some (.array .byte)) ws ({ frames := 1, cells := 1, slots := 3, locals := 14 } : Room) Z #[(.ref at_)] h0 (Q_binV_3 Z at_ bc kc u0 u1 u2 h0 n0) := by
  refine own_body (own := "com/example/sluice/sluice/MessageAttribute") rfl (plainFor_of_name pn_4) (fun m => ef_binV_null m at_) ?_
  intro p e s m below meth c s₁ Bd hml hZ hh hx hby hown X0 e0
  have N0 := Fr.nil n0
  have lt3 : h0.size > at_ := F_binaryValue_at.lt
  have lt4 : h0.size > bc := E_bc.lt
  refine own_aloadN X0.here hx hby d4_0 rfl rfl ?_
  refine own_getF X0 hx hZ hown (host := "") (Or.inl (own_w hw 17 rfl)) Via.refl e0 F_binaryValue_at hby d4_1 ?_
  intro T5 X5 e5
  refine own_ifnonnullYes X5.here hx hby (pc' := 11) d4_4 (by decide) (by decide) ?_
  refine own_aloadN X5.here hx hby d4_11 rfl rfl ?_
  refine own_getF X5 hx hZ hown (host := "") (Or.inl (own_w hw 17 rfl)) Via.refl e5 F_binaryValue_at hby d4_12 ?_
  intro T6 X6 e6
  refine own_cloneH X6 hx hZ (ad := "[B") hown (own_w hw 103 rfl) (own_w hw 104 rfl) (own_w hw 108 rfl) (own_w hw 106 rfl) (own_w hw 107 rfl) (own_w hw 109 rfl) e6 (Arv.arh V_bc) E_bc (by rw [hml]; rfl) hby d4_15 (by decide) 0 3 (Nat.le_of_eq rfl) (by decide) (by decide) (by decide) (by decide) ?_
  intro T7 h7 b7 X7 e7 E7 g7 A7 C7 lt7
  have z8 : h0.size ≤ h7.size := E7.1
  have V9 : Arv Z h7 b7 kc .byte (3 : Int32) [(.int u0), (.int u1), (.int u2)] (.int 0) := A7
  refine own_castY X7 hx hZ hown (own_w hw 110 rfl) e7 (Ins.self C7) hby d4_18 ?_
  intro T10 X10 e10
  have K11 : Keep h0 h7 [] := ((Keep.refl h0 []).ext E7)
  obtain ⟨fs, hr, hrun, hended, hW, hsame⟩ := X10.leave (v := some (.ref b7)) (fun h => by rw [Bd.returns] at h; cases h)
  refine own_ret (t := T10.setFrames fs) ?_ ⟨_, hrun, hended, _, _, rfl, ?_, ⟨_, rfl⟩, hW, hsame.mono (by decide) (by decide)⟩
  · exact retOut X10 hx Bd.returns rfl (Or.inr (Or.inr (Or.inr (Or.inr ⟨rfl, rfl, rfl⟩)))) (hb hby d4_21) hr
  · show Q_binV_3 Z _ _ _ _ _ _ h0 n0 _ T10.heap _
    rw [e10]
    exact ⟨b7, kc, rfl, N0, K11, (by omega), C7, V9⟩
theorem ef_rm0 (m : MethodId) (x0 : Int32) (x1 : Int32) (x2 : Int32) (x3 : Int32) : entryFrame m #[(.int x0), (.int x1), (.int x2), (.int x3)] maxLocals = mkF m 0 #[.val (.int x0), .val (.int x1), .val (.int x2), .val (.int x3), .unset, .unset, .unset, .unset, .unset, .unset, .unset, .unset, .unset, .unset, .unset, .unset, .unset] [] := by first | (simp [entryFrame, mkF, argsToLocals, Value.category, maxLocals]; done) | rfl
theorem pn_0 : plainName "com/example/sluice/sluice/MessageAttributeBinaryValuePinLaw" = true := by first | (simp [plainName, overriddenIn]; done) | decide +kernel
theorem pd_10 : parseMethodDescriptor "(Ljava/lang/String;Ljava/lang/String;[B)V" = some ⟨[(.object "java/lang/String"), (.object "java/lang/String"), (.array .byte)], none⟩ := by decide +kernel
theorem pd_11 : parseMethodDescriptor "()[B" = some ⟨[], some (.array .byte)⟩ := by decide +kernel
theorem pd_12 : parseMethodDescriptor "([C)V" = some ⟨[(.array .char)], none⟩ := by decide +kernel
theorem pd_13 : parseMethodDescriptor "(C)Ljava/lang/String;" = some ⟨[.char], some (.object "java/lang/String")⟩ := by decide +kernel
def Q_rm0 (Z : State) (p1 : Int32) (p2 : Int32) (p3 : Int32) (p4 : Int32) (zc : Int32) (h0 : Heap) (n0 : Nat) (vR : Option Value) (hR : Heap) (LR : List Loc) : Prop := vR = some (.int 1) ∧ Fr n0 LR ∧ True
set_option maxRecDepth 65536 in
set_option maxHeartbeats 40000000 in
theorem rm0 (l : Launch) (Z : State) (a0 : Array Value) (hw : ∀ d ∈ tables_1, d.before a0 Z = true) (ws : List Jvm.Cond) (p1 : Int32) (p2 : Int32) (p3 : Int32) (p4 : Int32) (zc : Int32) (h0 : Heap) (n0 : Nat) (Z0 : n0 ≤ h0.size) (S_C : Sta Z h0 "java/lang/String" "COMPACT_STRINGS" "Z" (.int zc)) (hz : ¬ (zc = (0 : Int32))) :
    own_MH l x code maxLocals ret ws room_1 Z #[(.int p1), (.int p2), (.int p3), (.int p4)] h0 (Q_rm0 Z p1 p2 p3 p4 zc h0 n0) consts_1 := by
  refine own_bodyH (own := "com/example/sluice/sluice/MessageAttributeBinaryValuePinLaw") rfl (plainFor_of_name pn_0) (fun m => ef_rm0 m p1 p2 p3 p4) ?_
  intro p e s m below meth c s₁ Bd hml hZ hh hx hby hown X0 e0 hS0 CH0
  have N0 := Fr.nil n0
  have hk0 : h0.size ≤ h0.size := Nat.le_refl _
  have Y0 : Stand p l e room_1 (s.setVm s.vm) m #[(.int p1), (.int p2), (.int p3), (.int p4)] below meth c s₁ [] 0 0 := X0
  have hEL := own_EW hw
  have C0 := CHr.refl CH0
  refine own_iloadN Y0.here hx hby at_0 rfl ?_
  refine own_sipush Y0.here hx hby at_1 (v := (255 : Int32)) (by decide) ?_
  refine own_iand Y0.here hx hby at_4 rfl ?_
  refine own_i2c Y0.here hx hby at_5 rfl ?_
  refine own_sh (T := s₁) 6 #[.val (.int p1), .val (.int p2), .val (.int p3), .val (.int p4), .unset, .unset, .unset, .unset, .unset, .unset, .unset, .unset, .unset, .unset, .unset, .unset, .unset] [(.int ((p2 &&& (255 : Int32)).toUInt32.toUInt16.toUInt32.toInt32))] ?_
  rw [show ((p2 &&& (255 : Int32)).toUInt32.toUInt16.toUInt32.toInt32) = (p2 &&& (255 : Int32)) from (i2c_mask p2)]
  refine own_istore Y0.here hx hby at_6 (l' := #[.val (.int p1), .val (.int p2), .val (.int p3), .val (.int p4), .val (.int (p2 &&& (255 : Int32))), .unset, .unset, .unset, .unset, .unset, .unset, .unset, .unset, .unset, .unset, .unset, .unset]) rfl ?_
  refine own_iloadN Y0.here hx hby at_8 rfl ?_
  refine own_bipush Y0.here hx hby at_9 (v := (7 : Int32)) (by decide) ?_
  refine own_iand Y0.here hx hby at_11 rfl ?_
  refine own_istore Y0.here hx hby at_12 (l' := #[.val (.int p1), .val (.int p2), .val (.int p3), .val (.int p4), .val (.int (p2 &&& (255 : Int32))), .val (.int (p1 &&& (7 : Int32))), .unset, .unset, .unset, .unset, .unset, .unset, .unset, .unset, .unset, .unset, .unset]) rfl ?_
  refine own_sh (T := s₁) 14 #[.val (.int p1), .val (.int p2), .val (.int p3), .val (.int p4), .val (.int (p2 &&& (255 : Int32))), .val (.int (p1 &&& (7 : Int32))), .unset, .unset, .unset, .unset, .unset, .unset, .unset, .unset, .unset, .unset, .unset] [] ?_
  refine own_cut (fun Pq => ∀ (Tc5 : State) (hc5 : Heap) (loc5 : List Loc) (vmc5 : Vm) (kc5 : Nat) (x : Nat) (t : Nat) (kt : ClassId) (n : Int32) (vs_ : List Value) (Xc5 : Stand p l e room_1 (s.setVm vmc5) m #[(.int p1), (.int p2), (.int p3), (.int p4)] below meth c Tc5 loc5 12 400) (ec5 : Tc5.heap = hc5) (Nc5 : Fr n0 loc5) (zc5 : n0 ≤ hc5.size) (yc5 : h0.size ≤ hc5.size) (hSc5 : s.Since vmc5 kc5) (hkc5 : kc5 ≤ hc5.size) (hZc5 : Z.Warmed39 vmc5) (hownc5 : vmc5.findClass "com/example/sluice/sluice/MessageAttributeBinaryValuePinLaw" = some m.cls) (Cc5 : CHr Z consts_1 s.vm h0 vmc5 hc5) (E_x : Exa Z hc5 x "java/lang/String") (Fc_x : Fld Z hc5 x "java/lang/String" "coder" "B" (.int 0)) (Fv_x : Fld Z hc5 x "java/lang/String" "value" "[B" (.ref t)) (V_t : Arv Z hc5 t kt .byte n vs_ (.int 0)) (S_C : Sta Z hc5 "java/lang/String" "COMPACT_STRINGS" "Z" (.int zc)) (hK : own_kindB n vs_), own_Go p.tables e below Pq (Tc5.setTop (mkF m 292 #[.val (.int p1), .val (.int p2), .val (.int p3), .val (.int p4), .val (.int (p2 &&& (255 : Int32))), .val (.int (p1 &&& (7 : Int32))), .val (.ref x), .val (.int 1), .unset, .unset, .unset, .unset, .unset, .unset, .unset, .unset, .unset] []))) ?_ ?_
  · intro Tc5 hc5 loc5 vmc5 kc5 x t kt n vs_ Xc5 ec5 Nc5 zc5 yc5 hSc5 hkc5 hZc5 hownc5 Cc5 E_x Fc_x Fv_x V_t S_C hK
    have lt6 : hc5.size > x := E_x.lt
    have lt7 : hc5.size > t := V_t.lt
    refine own_iloadN Xc5.here hx hby at_292 rfl ?_
    refine own_i2b Xc5.here hx hby at_293 rfl ?_
    refine own_istore Xc5.here hx hby at_294 (l' := #[.val (.int p1), .val (.int p2), .val (.int p3), .val (.int p4), .val (.int (p2 &&& (255 : Int32))), .val (.int (p1 &&& (7 : Int32))), .val (.ref x), .val (.int 1), .val (.int (p3.toInt8.toInt32)), .unset, .unset, .unset, .unset, .unset, .unset, .unset, .unset]) rfl ?_
    refine own_iloadN Xc5.here hx hby at_296 rfl ?_
    refine own_bipush Xc5.here hx hby at_297 (v := (8 : Int32)) (by decide) ?_
    refine own_iushr Xc5.here hx hby at_299 rfl ?_
    refine own_i2b Xc5.here hx hby at_300 rfl ?_
    refine own_istore Xc5.here hx hby at_301 (l' := #[.val (.int p1), .val (.int p2), .val (.int p3), .val (.int p4), .val (.int (p2 &&& (255 : Int32))), .val (.int (p1 &&& (7 : Int32))), .val (.ref x), .val (.int 1), .val (.int (p3.toInt8.toInt32)), .val (.int (((p3.toUInt32 >>> ((8 : Int32) &&& 31).toUInt32).toInt32).toInt8.toInt32)), .unset, .unset, .unset, .unset, .unset, .unset, .unset]) rfl ?_
    refine own_iloadN Xc5.here hx hby at_303 rfl ?_
    refine own_bipush Xc5.here hx hby at_304 (v := (16 : Int32)) (by decide) ?_
    refine own_iushr Xc5.here hx hby at_306 rfl ?_
    refine own_i2b Xc5.here hx hby at_307 rfl ?_
    refine own_istore Xc5.here hx hby at_308 (l' := #[.val (.int p1), .val (.int p2), .val (.int p3), .val (.int p4), .val (.int (p2 &&& (255 : Int32))), .val (.int (p1 &&& (7 : Int32))), .val (.ref x), .val (.int 1), .val (.int (p3.toInt8.toInt32)), .val (.int (((p3.toUInt32 >>> ((8 : Int32) &&& 31).toUInt32).toInt32).toInt8.toInt32)), .val (.int (((p3.toUInt32 >>> ((16 : Int32) &&& 31).toUInt32).toInt32).toInt8.toInt32)), .unset, .unset, .unset, .unset, .unset, .unset]) rfl ?_
    refine own_iloadN Xc5.here hx hby at_310 rfl ?_
    refine own_iconst Xc5.here hx hby at_311 (v := (3 : Int32)) (by decide) ?_
    refine own_iand Xc5.here hx hby at_312 rfl ?_
    refine own_istore Xc5.here hx hby at_313 (l' := #[.val (.int p1), .val (.int p2), .val (.int p3), .val (.int p4), .val (.int (p2 &&& (255 : Int32))), .val (.int (p1 &&& (7 : Int32))), .val (.ref x), .val (.int 1), .val (.int (p3.toInt8.toInt32)), .val (.int (((p3.toUInt32 >>> ((8 : Int32) &&& 31).toUInt32).toInt32).toInt8.toInt32)), .val (.int (((p3.toUInt32 >>> ((16 : Int32) &&& 31).toUInt32).toInt32).toInt8.toInt32)), .val (.int (p4 &&& (3 : Int32))), .unset, .unset, .unset, .unset, .unset]) rfl ?_
    refine own_iloadN Xc5.here hx hby at_315 rfl ?_
    refine own_iconst Xc5.here hx hby at_316 (v := (4 : Int32)) (by decide) ?_
    refine own_iand Xc5.here hx hby at_317 rfl ?_
    by_cases hc318_8 : (p4 &&& (4 : Int32)) = (0 : Int32)
    · refine own_ifYes Xc5.here hx hby (pc' := 325) at_318 ((if0 _ _).trans (teq hc318_8).1) (by decide) (by decide) ?_
      refine own_iconst Xc5.here hx hby at_325 (v := (0 : Int32)) (by decide) ?_
      refine own_istore Xc5.here hx hby at_326 (l' := #[.val (.int p1), .val (.int p2), .val (.int p3), .val (.int p4), .val (.int (p2 &&& (255 : Int32))), .val (.int (p1 &&& (7 : Int32))), .val (.ref x), .val (.int 1), .val (.int (p3.toInt8.toInt32)), .val (.int (((p3.toUInt32 >>> ((8 : Int32) &&& 31).toUInt32).toInt32).toInt8.toInt32)), .val (.int (((p3.toUInt32 >>> ((16 : Int32) &&& 31).toUInt32).toInt32).toInt8.toInt32)), .val (.int (p4 &&& (3 : Int32))), .val (.int 0), .unset, .unset, .unset, .unset]) rfl ?_
      refine own_iload Xc5.here hx hby at_328 rfl ?_
      refine own_ifYes Xc5.here hx hby (pc' := 339) at_330 ((if0 _ _).trans (teq (show (0 : Int32) = (0 : Int32) from (by decide))).1) (by decide) (by decide) ?_
      refine own_sh (T := Tc5) 339 #[.val (.int p1), .val (.int p2), .val (.int p3), .val (.int p4), .val (.int (p2 &&& (255 : Int32))), .val (.int (p1 &&& (7 : Int32))), .val (.ref x), .val (.int 1), .val (.int (p3.toInt8.toInt32)), .val (.int (((p3.toUInt32 >>> ((8 : Int32) &&& 31).toUInt32).toInt32).toInt8.toInt32)), .val (.int (((p3.toUInt32 >>> ((16 : Int32) &&& 31).toUInt32).toInt32).toInt8.toInt32)), .val (.int (p4 &&& (3 : Int32))), .val (.int 0), .unset, .unset, .unset, .unset] [] ?_
      rcases own_and3 p4 with hk | hk | hk | hk
      · rw [hk]
        refine own_iload Xc5.here hx hby at_339 rfl ?_
        refine own_ifNo Xc5.here hx hby at_341 ((if0 _ _).trans (teq (show (0 : Int32) = (0 : Int32) from (by decide))).2) ?_
        refine own_iconst Xc5.here hx hby at_344 (v := (0 : Int32)) (by decide) ?_
        refine own_newP Xc5 hx hZc5 (aty := .byte) (own_w hw 0 rfl) ec5 hby at_345 (by decide) 0 (by decide) (by decide) (by decide) (by decide) (ad := "[B") (by decide) ?_
        intro T9 h9 k9 b9 X9 e9 E9 g9 V9 C9 lt9
        have z10 : hc5.size ≤ h9.size := E9.1
        have C11 := Cc5.trans (CHr.ext E9 Cc5.1)
        have V12 : Arv Z h9 b9 k9 .byte (0 : Int32) [] (.int 0) := V9
        refine own_astore X9.here hx hby at_347 rfl (l' := #[.val (.int p1), .val (.int p2), .val (.int p3), .val (.int p4), .val (.int (p2 &&& (255 : Int32))), .val (.int (p1 &&& (7 : Int32))), .val (.ref x), .val (.int 1), .val (.int (p3.toInt8.toInt32)), .val (.int (((p3.toUInt32 >>> ((8 : Int32) &&& 31).toUInt32).toInt32).toInt8.toInt32)), .val (.int (((p3.toUInt32 >>> ((16 : Int32) &&& 31).toUInt32).toInt32).toInt8.toInt32)), .val (.int 0), .val (.int 0), .val (.ref b9), .unset, .unset, .unset]) rfl ?_
        refine own_goto X9.here hx hby (pc' := 415) at_349 (by decide) (by decide) ?_
        refine own_newO X9 hx hZc5 hownc5 (own_w hw 1 rfl) (own_w hw 2 rfl) (own_w hw 3 rfl) e9 hby at_415 (by decide) (by decide) ?_
        intro T13 h13 b13 X13 e13 E13 g13 A13 D13 lt13
        have z14 : h9.size ≤ h13.size := E13.1
        have C15 := C11.trans (CHr.ext E13 C11.1)
        have F16 : Fld Z h13 b13 "com/example/sluice/sluice/MessageAttribute" "dataType" "Ljava/lang/String;" .null := D13 (Or.inr (own_w hw 11 rfl)) (ty := (.object "java/lang/String")) (by decide)
        have F17 : Fld Z h13 b13 "com/example/sluice/sluice/MessageAttribute" "stringValue" "Ljava/lang/String;" .null := D13 (Or.inr (own_w hw 16 rfl)) (ty := (.object "java/lang/String")) (by decide)
        have F18 : Fld Z h13 b13 "com/example/sluice/sluice/MessageAttribute" "binaryValue" "[B" .null := D13 (Or.inr (own_w hw 18 rfl)) (ty := (.array .byte)) (by decide)
        refine own_dup X13.here hx hby at_418 rfl ?_
        refine own_aload X13.here hx hby at_419 rfl rfl ?_
        refine own_aconstNull X13.here hx hby at_421 ?_
        refine own_aload X13.here hx hby at_422 rfl rfl ?_
        have f19 := ((E_x.ext E9).ext E13)
        have f20 := ((Fc_x.ext E9).ext E13)
        have f21 := ((Fv_x.ext E9).ext E13)
        have f22 := ((V_t.ext E9).ext E13)
        have f23 := ((S_C.ext E9).ext E13)
        have f24 := (C9.ext E13)
        have f25 := (V12.ext E13)
        have z27 : n0 ≤ h13.size := by omega
        refine own_specialH X13 hx hZc5 hEL rfl hownc5 (own_w hw 4 rfl) (own_w hw 5 rfl) (own_w hw 3 rfl) (own_w hw 6 rfl) (by decide) (maInit_B_0 l Z a0 hw [] b13 x t kt n vs_ zc b9 k9 h13 n0 z27 A13 (by omega) F16 F17 F18 f19 f20 f21 f22 f23 hz hK f24 f25) 1 (Nat.le_of_eq rfl) (by decide) (by decide) (by rw [hml]; rfl) (argsL := [(.ref x), .null, (.ref b9)]) (st := [(.ref b13)]) (a := b13) (lenOf pd_10 rfl) rfl rfl (by decide) (by decide) e13 hby C15.1 hSc5 (by omega) at_424 ?_
        intro T26 v26 L26 vm26 X26 hS26 hZ26 hown26 hg26 Cn26 hQ26
        obtain ⟨bc_26, kc_26, rfl, Nq26, K26, P26_0, P26_1, P26_2, P26_3, P26_4⟩ := hQ26
        have N26 := Fr.app Nc5 Nq26
        have z28 : h13.size ≤ T26.heap.size := K26.1
        have C29 := C15.trans Cn26
        have lt30 : T26.heap.size > b13 := P26_0.lt
        have lt31 : T26.heap.size > bc_26 := P26_3.lt
        refine own_sh (T := T26) 427 #[.val (.int p1), .val (.int p2), .val (.int p3), .val (.int p4), .val (.int (p2 &&& (255 : Int32))), .val (.int (p1 &&& (7 : Int32))), .val (.ref x), .val (.int 1), .val (.int (p3.toInt8.toInt32)), .val (.int (((p3.toUInt32 >>> ((8 : Int32) &&& 31).toUInt32).toInt32).toInt8.toInt32)), .val (.int (((p3.toUInt32 >>> ((16 : Int32) &&& 31).toUInt32).toInt32).toInt8.toInt32)), .val (.int 0), .val (.int 0), .val (.ref b9), .unset, .unset, .unset] [(.ref b13)] ?_
        refine own_astore X26.here hx hby at_427 rfl (l' := #[.val (.int p1), .val (.int p2), .val (.int p3), .val (.int p4), .val (.int (p2 &&& (255 : Int32))), .val (.int (p1 &&& (7 : Int32))), .val (.ref x), .val (.int 1), .val (.int (p3.toInt8.toInt32)), .val (.int (((p3.toUInt32 >>> ((8 : Int32) &&& 31).toUInt32).toInt32).toInt8.toInt32)), .val (.int (((p3.toUInt32 >>> ((16 : Int32) &&& 31).toUInt32).toInt32).toInt8.toInt32)), .val (.int 0), .val (.int 0), .val (.ref b9), .val (.ref b13), .unset, .unset]) rfl ?_
        refine own_aload X26.here hx hby at_429 rfl rfl ?_
        refine own_ifnullNo X26.here hx hby at_431 ?_
        refine own_iload X26.here hx hby at_434 rfl ?_
        refine own_ifYes X26.here hx hby (pc' := 448) at_436 ((if0 _ _).trans (flt (show ¬ ((0 : Int32) < (0 : Int32)) from (by decide))).2.2.2) (by decide) (by decide) ?_
        refine own_aload X26.here hx hby at_448 rfl rfl ?_
        have z33 : n0 ≤ T26.heap.size := by omega
        refine own_virtual X26 hx hZ26 hown26 (own_w hw 19 rfl) (own_w hw 20 rfl) (notFace_of_selects (args := #[]) (mvT hZ26 (own_w hw 22 rfl))) (own_w hw 22 rfl) (own_w hw 21 rfl) (own_w hw 3 rfl) (own_w hw 23 rfl) (by decide) (binV_0 l Z a0 hw [] b13 bc_26 kc_26 T26.heap n0 z33 P26_1 P26_3 P26_4) 0 (Nat.le_of_eq rfl) (by decide) (by decide) (by rw [hml]; rfl) (argsL := []) (st := []) P26_0 (lenOf pd_11 rfl) rfl rfl (by decide) (by decide) rfl hby at_450 ?_
        intro T32 v32 L32 X32 hQ32
        obtain ⟨r_32, kr_32, rfl, Nq32, K32, P32_0, P32_1, P32_2⟩ := hQ32
        have N32 := Fr.app N26 Nq32
        have z34 : T26.heap.size ≤ T32.heap.size := K32.1
        have C35 := C29.trans (CHr.keep K32 sf0 C29.1)
        have lt36 : T32.heap.size > r_32 := P32_1.lt
        refine own_sh (T := T32) 453 #[.val (.int p1), .val (.int p2), .val (.int p3), .val (.int p4), .val (.int (p2 &&& (255 : Int32))), .val (.int (p1 &&& (7 : Int32))), .val (.ref x), .val (.int 1), .val (.int (p3.toInt8.toInt32)), .val (.int (((p3.toUInt32 >>> ((8 : Int32) &&& 31).toUInt32).toInt32).toInt8.toInt32)), .val (.int (((p3.toUInt32 >>> ((16 : Int32) &&& 31).toUInt32).toInt32).toInt8.toInt32)), .val (.int 0), .val (.int 0), .val (.ref b9), .val (.ref b13), .unset, .unset] [(.ref r_32)] ?_
        refine own_astore X32.here hx hby at_453 rfl (l' := #[.val (.int p1), .val (.int p2), .val (.int p3), .val (.int p4), .val (.int (p2 &&& (255 : Int32))), .val (.int (p1 &&& (7 : Int32))), .val (.ref x), .val (.int 1), .val (.int (p3.toInt8.toInt32)), .val (.int (((p3.toUInt32 >>> ((8 : Int32) &&& 31).toUInt32).toInt32).toInt8.toInt32)), .val (.int (((p3.toUInt32 >>> ((16 : Int32) &&& 31).toUInt32).toInt32).toInt8.toInt32)), .val (.int 0), .val (.int 0), .val (.ref b9), .val (.ref b13), .val (.ref r_32), .unset]) rfl ?_
        refine own_iload X32.here hx hby at_455 rfl ?_
        refine own_ifNo X32.here hx hby at_457 ((if0 _ _).trans (feq (show ¬ ((1 : Int32) = (0 : Int32)) from (by decide))).1) ?_
        refine own_aload X32.here hx hby at_460 rfl rfl ?_
        refine own_ifnonnullYes X32.here hx hby (pc' := 476) at_462 (by decide) (by decide) ?_
        refine own_aload X32.here hx hby at_476 rfl rfl ?_
        refine own_ifnullNo X32.here hx hby at_478 ?_
        refine own_aload X32.here hx hby at_481 rfl rfl ?_
        refine own_aload X32.here hx hby at_483 rfl rfl ?_
        refine own_acmp X32 hx (same := false) (pc' := 488) hby at_485 rfl rfl (decide_eq_false fun q => absurd (Value.ref.inj q) (own_nn (by omega))) (by decide) (by decide) ?_
        refine own_aload X32.here hx hby at_488 rfl rfl ?_
        refine own_alen X32 hx hZ26 rfl P32_2 hby at_490 ?_
        refine own_iload X32.here hx hby at_491 rfl ?_
        refine own_icmpYes X32.here hx hby (pc' := 498) at_493 (teq (show (0 : Int32) = (0 : Int32) from (by decide))).1 (by decide) (by decide) ?_
        refine own_iload X32.here hx hby at_498 rfl ?_
        refine own_iconst X32.here hx hby at_500 (v := (1 : Int32)) (by decide) ?_
        refine own_icmpYes X32.here hx hby (pc' := 513) at_501 (tlt (show (0 : Int32) < (1 : Int32) from (by decide))).1 (by decide) (by decide) ?_
        refine own_iload X32.here hx hby at_513 rfl ?_
        refine own_iconst X32.here hx hby at_515 (v := (2 : Int32)) (by decide) ?_
        refine own_icmpYes X32.here hx hby (pc' := 528) at_516 (tlt (show (0 : Int32) < (2 : Int32) from (by decide))).1 (by decide) (by decide) ?_
        refine own_iload X32.here hx hby at_528 rfl ?_
        refine own_iconst X32.here hx hby at_530 (v := (3 : Int32)) (by decide) ?_
        refine own_icmpYes X32.here hx hby (pc' := 545) at_531 (tlt (show (0 : Int32) < (3 : Int32) from (by decide))).1 (by decide) (by decide) ?_
        refine own_iload X32.here hx hby at_545 rfl ?_
        refine own_ifYes X32.here hx hby (pc' := 559) at_547 ((if0 _ _).trans (flt (show ¬ ((0 : Int32) < (0 : Int32)) from (by decide))).2.2.2) (by decide) (by decide) ?_
        refine own_aload X32.here hx hby at_559 rfl rfl ?_
        have f37 := (P26_1.keep K32 nin0)
        have f38 := (P26_3.keep K32)
        have f39 := (P26_4.keep K32 nin0)
        have z41 : n0 ≤ T32.heap.size := by omega
        have f42 := (P26_0.keep K32)
        refine own_virtual X32 hx hZ26 hown26 (own_w hw 19 rfl) (own_w hw 20 rfl) (notFace_of_selects (args := #[]) (mvT hZ26 (own_w hw 22 rfl))) (own_w hw 22 rfl) (own_w hw 21 rfl) (own_w hw 3 rfl) (own_w hw 23 rfl) (by decide) (binV_0 l Z a0 hw [] b13 bc_26 kc_26 T32.heap n0 z41 f37 f38 f39) 0 (Nat.le_of_eq rfl) (by decide) (by decide) (by rw [hml]; rfl) (argsL := []) (st := []) f42 (lenOf pd_11 rfl) rfl rfl (by decide) (by decide) rfl hby at_561 ?_
        intro T40 v40 L40 X40 hQ40
        obtain ⟨r_40, kr_40, rfl, Nq40, K40, P40_0, P40_1, P40_2⟩ := hQ40
        have N40 := Fr.app N32 Nq40
        have z43 : T32.heap.size ≤ T40.heap.size := K40.1
        have C44 := C35.trans (CHr.keep K40 sf0 C35.1)
        have lt45 : T40.heap.size > r_40 := P40_1.lt
        refine own_sh (T := T40) 564 #[.val (.int p1), .val (.int p2), .val (.int p3), .val (.int p4), .val (.int (p2 &&& (255 : Int32))), .val (.int (p1 &&& (7 : Int32))), .val (.ref x), .val (.int 1), .val (.int (p3.toInt8.toInt32)), .val (.int (((p3.toUInt32 >>> ((8 : Int32) &&& 31).toUInt32).toInt32).toInt8.toInt32)), .val (.int (((p3.toUInt32 >>> ((16 : Int32) &&& 31).toUInt32).toInt32).toInt8.toInt32)), .val (.int 0), .val (.int 0), .val (.ref b9), .val (.ref b13), .val (.ref r_32), .unset] [(.ref r_40)] ?_
        refine own_astore X40.here hx hby at_564 rfl (l' := #[.val (.int p1), .val (.int p2), .val (.int p3), .val (.int p4), .val (.int (p2 &&& (255 : Int32))), .val (.int (p1 &&& (7 : Int32))), .val (.ref x), .val (.int 1), .val (.int (p3.toInt8.toInt32)), .val (.int (((p3.toUInt32 >>> ((8 : Int32) &&& 31).toUInt32).toInt32).toInt8.toInt32)), .val (.int (((p3.toUInt32 >>> ((16 : Int32) &&& 31).toUInt32).toInt32).toInt8.toInt32)), .val (.int 0), .val (.int 0), .val (.ref b9), .val (.ref b13), .val (.ref r_32), .val (.ref r_40)]) rfl ?_
        refine own_aload X40.here hx hby at_566 rfl rfl ?_
        refine own_ifnullNo X40.here hx hby at_568 ?_
        refine own_aload X40.here hx hby at_571 rfl rfl ?_
        refine own_aload X40.here hx hby at_573 rfl rfl ?_
        refine own_acmp X40 hx (same := false) (pc' := 578) hby at_575 rfl rfl (decide_eq_false fun q => absurd (Value.ref.inj q) (own_nn (by omega))) (by decide) (by decide) ?_
        refine own_aload X40.here hx hby at_578 rfl rfl ?_
        refine own_aload X40.here hx hby at_580 rfl rfl ?_
        refine own_acmp X40 hx (same := false) (pc' := 585) hby at_582 rfl rfl (decide_eq_false fun q => absurd (Value.ref.inj q) (own_nn (by omega))) (by decide) (by decide) ?_
        refine own_aload X40.here hx hby at_585 rfl rfl ?_
        refine own_alen X40 hx hZ26 rfl P40_2 hby at_587 ?_
        refine own_iload X40.here hx hby at_588 rfl ?_
        refine own_icmpYes X40.here hx hby (pc' := 595) at_590 (teq (show (0 : Int32) = (0 : Int32) from (by decide))).1 (by decide) (by decide) ?_
        refine own_iload X40.here hx hby at_595 rfl ?_
        refine own_iconst X40.here hx hby at_597 (v := (1 : Int32)) (by decide) ?_
        refine own_icmpYes X40.here hx hby (pc' := 610) at_598 (tlt (show (0 : Int32) < (1 : Int32) from (by decide))).1 (by decide) (by decide) ?_
        refine own_iload X40.here hx hby at_610 rfl ?_
        refine own_iconst X40.here hx hby at_612 (v := (2 : Int32)) (by decide) ?_
        refine own_icmpYes X40.here hx hby (pc' := 625) at_613 (tlt (show (0 : Int32) < (2 : Int32) from (by decide))).1 (by decide) (by decide) ?_
        refine own_iload X40.here hx hby at_625 rfl ?_
        refine own_iconst X40.here hx hby at_627 (v := (3 : Int32)) (by decide) ?_
        refine own_icmpYes X40.here hx hby (pc' := 640) at_628 (tlt (show (0 : Int32) < (3 : Int32) from (by decide))).1 (by decide) (by decide) ?_
        refine own_iconst X40.here hx hby at_640 (v := (1 : Int32)) (by decide) ?_
        refine own_goto X40.here hx hby (pc' := 645) at_641 (by decide) (by decide) ?_
        obtain ⟨fs, hr, hrun, hended, hRW⟩ := X40.leaveW hS26 (by omega) (v := some (.int 1)) (fun h => by rw [Bd.returns] at h; cases h)
        have hCf : CHr Z consts_1 s.vm s.heap T40.vm T40.heap := by
          rw [hh]
          exact C44.trans (CHv.at X40 hZ26 hEL C44.1)
        refine own_ret (t := T40.setFrames fs) ?_ ⟨_, hrun, hended, _, _, rfl, ?_, hCf, hRW.1, hRW.2.1, hRW.2.2.1, hRW.2.2.2.mono (by decide) (by decide)⟩
        · exact retN X40 hx (t := .boolean) Bd.returns (by simp) (hb hby at_645) hr
        · show Q_rm0 Z _ _ _ _ _ h0 n0 _ T40.heap _
          exact ⟨rfl, N40, trivial⟩
      · rw [hk]
        refine own_iload Xc5.here hx hby at_339 rfl ?_
        refine own_ifYes Xc5.here hx hby (pc' := 352) at_341 ((if0 _ _).trans (feq (show ¬ ((1 : Int32) = (0 : Int32)) from (by decide))).2) (by decide) (by decide) ?_
        refine own_iload Xc5.here hx hby at_352 rfl ?_
        refine own_iconst Xc5.here hx hby at_354 (v := (1 : Int32)) (by decide) ?_
        refine own_icmpNo Xc5.here hx hby at_355 (teq (show (1 : Int32) = (1 : Int32) from (by decide))).2 ?_
        refine own_iconst Xc5.here hx hby at_358 (v := (1 : Int32)) (by decide) ?_
        refine own_newP Xc5 hx hZc5 (aty := .byte) (own_w hw 0 rfl) ec5 hby at_359 (by decide) 1 (by decide) (by decide) (by decide) (by decide) (ad := "[B") (by decide) ?_
        intro T46 h46 k46 b46 X46 e46 E46 g46 V46 C46 lt46
        have z47 : hc5.size ≤ h46.size := E46.1
        have C48 := Cc5.trans (CHr.ext E46 Cc5.1)
        have V49 : Arv Z h46 b46 k46 .byte (1 : Int32) [(.int 0)] (.int 0) := V46.pad (pad_rep [] (.int 0) 1)
        refine own_dup X46.here hx hby at_361 rfl ?_
        refine own_iconst X46.here hx hby at_362 (v := (0 : Int32)) (by decide) ?_
        refine own_iload X46.here hx hby at_363 rfl ?_
        refine own_bastore X46 hx hZc5 e46 V49 ⟨by decide, by decide⟩ 0 (by decide) (Nat.le_of_ble_eq_true rfl) (w := (.int (p3.toInt8.toInt32))) (congrArg Value.int (own_i2bb p3)) hby at_365 Nc5 (by omega) ?_
        intro T50 h50 lo50 X50 e50 N50 W50 V50 z50
        have V51 : Arv Z h50 b46 k46 .byte (1 : Int32) [(.int (p3.toInt8.toInt32))] (.int 0) := V50
        have sf52 := (Safe.ext E46 Cc5.1 (Safe.new (h := hc5) (x := b46) (by omega)))
        have C53 := C48.trans (CHr.wr W50 sf52 C48.1)
        refine own_astore X50.here hx hby at_366 rfl (l' := #[.val (.int p1), .val (.int p2), .val (.int p3), .val (.int p4), .val (.int (p2 &&& (255 : Int32))), .val (.int (p1 &&& (7 : Int32))), .val (.ref x), .val (.int 1), .val (.int (p3.toInt8.toInt32)), .val (.int (((p3.toUInt32 >>> ((8 : Int32) &&& 31).toUInt32).toInt32).toInt8.toInt32)), .val (.int (((p3.toUInt32 >>> ((16 : Int32) &&& 31).toUInt32).toInt32).toInt8.toInt32)), .val (.int 1), .val (.int 0), .val (.ref b46), .unset, .unset, .unset]) rfl ?_
        refine own_goto X50.here hx hby (pc' := 415) at_368 (by decide) (by decide) ?_
        refine own_newO X50 hx hZc5 hownc5 (own_w hw 1 rfl) (own_w hw 2 rfl) (own_w hw 3 rfl) e50 hby at_415 (by decide) (by decide) ?_
        intro T54 h54 b54 X54 e54 E54 g54 A54 D54 lt54
        have z55 : h50.size ≤ h54.size := E54.1
        have C56 := C53.trans (CHr.ext E54 C53.1)
        have F57 : Fld Z h54 b54 "com/example/sluice/sluice/MessageAttribute" "dataType" "Ljava/lang/String;" .null := D54 (Or.inr (own_w hw 11 rfl)) (ty := (.object "java/lang/String")) (by decide)
        have F58 : Fld Z h54 b54 "com/example/sluice/sluice/MessageAttribute" "stringValue" "Ljava/lang/String;" .null := D54 (Or.inr (own_w hw 16 rfl)) (ty := (.object "java/lang/String")) (by decide)
        have F59 : Fld Z h54 b54 "com/example/sluice/sluice/MessageAttribute" "binaryValue" "[B" .null := D54 (Or.inr (own_w hw 18 rfl)) (ty := (.array .byte)) (by decide)
        refine own_dup X54.here hx hby at_418 rfl ?_
        refine own_aload X54.here hx hby at_419 rfl rfl ?_
        refine own_aconstNull X54.here hx hby at_421 ?_
        refine own_aload X54.here hx hby at_422 rfl rfl ?_
        have f60 := (((E_x.ext E46).wr W50).ext E54)
        have f61 := (((Fc_x.ext E46).other W50 (Or.inl (own_nn (by omega)))).ext E54)
        have f62 := (((Fv_x.ext E46).other W50 (Or.inl (own_nn (by omega)))).ext E54)
        have f63 := (((V_t.ext E46).other W50 (own_nn (by omega))).ext E54)
        have f64 := (((S_C.ext E46).wr W50).ext E54)
        have f65 := ((C46.wr W50).ext E54)
        have f66 := (V51.ext E54)
        have z68 : n0 ≤ h54.size := by omega
        refine own_specialH X54 hx hZc5 hEL rfl hownc5 (own_w hw 4 rfl) (own_w hw 5 rfl) (own_w hw 3 rfl) (own_w hw 6 rfl) (by decide) (maInit_B_1 l Z a0 hw [] b54 x t kt n vs_ zc b46 k46 (p3.toInt8.toInt32) h54 n0 z68 A54 (by omega) F57 F58 F59 f60 f61 f62 f63 f64 hz hK f65 f66) 1 (Nat.le_of_eq rfl) (by decide) (by decide) (by rw [hml]; rfl) (argsL := [(.ref x), .null, (.ref b46)]) (st := [(.ref b54)]) (a := b54) (lenOf pd_10 rfl) rfl rfl (by decide) (by decide) e54 hby C56.1 hSc5 (by omega) at_424 ?_
        intro T67 v67 L67 vm67 X67 hS67 hZ67 hown67 hg67 Cn67 hQ67
        obtain ⟨bc_67, kc_67, rfl, Nq67, K67, P67_0, P67_1, P67_2, P67_3, P67_4⟩ := hQ67
        have N67 := Fr.app N50 Nq67
        have z69 : h54.size ≤ T67.heap.size := K67.1
        have C70 := C56.trans Cn67
        have lt71 : T67.heap.size > b54 := P67_0.lt
        have lt72 : T67.heap.size > bc_67 := P67_3.lt
        refine own_sh (T := T67) 427 #[.val (.int p1), .val (.int p2), .val (.int p3), .val (.int p4), .val (.int (p2 &&& (255 : Int32))), .val (.int (p1 &&& (7 : Int32))), .val (.ref x), .val (.int 1), .val (.int (p3.toInt8.toInt32)), .val (.int (((p3.toUInt32 >>> ((8 : Int32) &&& 31).toUInt32).toInt32).toInt8.toInt32)), .val (.int (((p3.toUInt32 >>> ((16 : Int32) &&& 31).toUInt32).toInt32).toInt8.toInt32)), .val (.int 1), .val (.int 0), .val (.ref b46), .unset, .unset, .unset] [(.ref b54)] ?_
        refine own_astore X67.here hx hby at_427 rfl (l' := #[.val (.int p1), .val (.int p2), .val (.int p3), .val (.int p4), .val (.int (p2 &&& (255 : Int32))), .val (.int (p1 &&& (7 : Int32))), .val (.ref x), .val (.int 1), .val (.int (p3.toInt8.toInt32)), .val (.int (((p3.toUInt32 >>> ((8 : Int32) &&& 31).toUInt32).toInt32).toInt8.toInt32)), .val (.int (((p3.toUInt32 >>> ((16 : Int32) &&& 31).toUInt32).toInt32).toInt8.toInt32)), .val (.int 1), .val (.int 0), .val (.ref b46), .val (.ref b54), .unset, .unset]) rfl ?_
        refine own_aload X67.here hx hby at_429 rfl rfl ?_
        refine own_ifnullNo X67.here hx hby at_431 ?_
        refine own_iload X67.here hx hby at_434 rfl ?_
        refine own_ifNo X67.here hx hby at_436 ((if0 _ _).trans (tlt (show (0 : Int32) < (1 : Int32) from (by decide))).2.2.2) ?_
        refine own_aload X67.here hx hby at_439 rfl rfl ?_
        refine own_iconst X67.here hx hby at_441 (v := (0 : Int32)) (by decide) ?_
        refine own_iload X67.here hx hby at_442 rfl ?_
        refine own_iconst X67.here hx hby at_444 (v := (-1 : Int32)) (by decide) ?_
        refine own_ixor X67.here hx hby at_445 rfl ?_
        refine own_i2b X67.here hx hby at_446 rfl ?_
        have f73 := (f66.keep K67 (ninS (own_nn (by omega)) nin0))
        refine own_bastore X67 hx hZ67 rfl f73 ⟨by decide, by decide⟩ 0 (by decide) (Nat.le_of_ble_eq_true rfl) (w := (.int (((p3.toInt8.toInt32) ^^^ (-1 : Int32)).toInt8.toInt32))) (congrArg Value.int (own_i2bb ((p3.toInt8.toInt32) ^^^ (-1 : Int32)))) hby at_447 N67 (by omega) ?_
        intro T74 h74 lo74 X74 e74 N74 W74 V74 z74
        have V75 : Arv Z h74 b46 k46 .byte (1 : Int32) [(.int (((p3.toInt8.toInt32) ^^^ (-1 : Int32)).toInt8.toInt32))] (.int 0) := V74
        have sf76 := (Cn67.safe (own_ll (by omega)) (Safe.ext E54 C53.1 (Safe.wr W50 sf52 C48.1 sf52)))
        have C77 := C70.trans (CHr.wr W74 sf76 C70.1)
        refine own_aload X74.here hx hby at_448 rfl rfl ?_
        have f78 := (P67_1.other W74 (Or.inl (own_nn (by omega))))
        have f79 := (P67_3.wr W74)
        have f80 := (P67_4.other W74 (own_nn (by omega)))
        have z82 : n0 ≤ h74.size := by omega
        have f83 := (P67_0.wr W74)
        refine own_virtual X74 hx hZ67 hown67 (own_w hw 19 rfl) (own_w hw 20 rfl) (notFace_of_selects (args := #[]) (mvT hZ67 (own_w hw 22 rfl))) (own_w hw 22 rfl) (own_w hw 21 rfl) (own_w hw 3 rfl) (own_w hw 23 rfl) (by decide) (binV_1 l Z a0 hw [] b54 bc_67 kc_67 (p3.toInt8.toInt32) h74 n0 z82 f78 f79 f80) 0 (Nat.le_of_eq rfl) (by decide) (by decide) (by rw [hml]; rfl) (argsL := []) (st := []) f83 (lenOf pd_11 rfl) rfl rfl (by decide) (by decide) e74 hby at_450 ?_
        intro T81 v81 L81 X81 hQ81
        obtain ⟨r_81, kr_81, rfl, Nq81, K81, P81_0, P81_1, P81_2⟩ := hQ81
        have N81 := Fr.app N74 Nq81
        have z84 : h74.size ≤ T81.heap.size := K81.1
        have C85 := C77.trans (CHr.keep K81 sf0 C77.1)
        have lt86 : T81.heap.size > r_81 := P81_1.lt
        refine own_sh (T := T81) 453 #[.val (.int p1), .val (.int p2), .val (.int p3), .val (.int p4), .val (.int (p2 &&& (255 : Int32))), .val (.int (p1 &&& (7 : Int32))), .val (.ref x), .val (.int 1), .val (.int (p3.toInt8.toInt32)), .val (.int (((p3.toUInt32 >>> ((8 : Int32) &&& 31).toUInt32).toInt32).toInt8.toInt32)), .val (.int (((p3.toUInt32 >>> ((16 : Int32) &&& 31).toUInt32).toInt32).toInt8.toInt32)), .val (.int 1), .val (.int 0), .val (.ref b46), .val (.ref b54), .unset, .unset] [(.ref r_81)] ?_
        refine own_astore X81.here hx hby at_453 rfl (l' := #[.val (.int p1), .val (.int p2), .val (.int p3), .val (.int p4), .val (.int (p2 &&& (255 : Int32))), .val (.int (p1 &&& (7 : Int32))), .val (.ref x), .val (.int 1), .val (.int (p3.toInt8.toInt32)), .val (.int (((p3.toUInt32 >>> ((8 : Int32) &&& 31).toUInt32).toInt32).toInt8.toInt32)), .val (.int (((p3.toUInt32 >>> ((16 : Int32) &&& 31).toUInt32).toInt32).toInt8.toInt32)), .val (.int 1), .val (.int 0), .val (.ref b46), .val (.ref b54), .val (.ref r_81), .unset]) rfl ?_
        refine own_iload X81.here hx hby at_455 rfl ?_
        refine own_ifNo X81.here hx hby at_457 ((if0 _ _).trans (feq (show ¬ ((1 : Int32) = (0 : Int32)) from (by decide))).1) ?_
        refine own_aload X81.here hx hby at_460 rfl rfl ?_
        refine own_ifnonnullYes X81.here hx hby (pc' := 476) at_462 (by decide) (by decide) ?_
        refine own_aload X81.here hx hby at_476 rfl rfl ?_
        refine own_ifnullNo X81.here hx hby at_478 ?_
        refine own_aload X81.here hx hby at_481 rfl rfl ?_
        refine own_aload X81.here hx hby at_483 rfl rfl ?_
        refine own_acmp X81 hx (same := false) (pc' := 488) hby at_485 rfl rfl (decide_eq_false fun q => absurd (Value.ref.inj q) (own_nn (by omega))) (by decide) (by decide) ?_
        refine own_aload X81.here hx hby at_488 rfl rfl ?_
        refine own_alen X81 hx hZ67 rfl P81_2 hby at_490 ?_
        refine own_iload X81.here hx hby at_491 rfl ?_
        refine own_icmpYes X81.here hx hby (pc' := 498) at_493 (teq (show (1 : Int32) = (1 : Int32) from (by decide))).1 (by decide) (by decide) ?_
        refine own_iload X81.here hx hby at_498 rfl ?_
        refine own_iconst X81.here hx hby at_500 (v := (1 : Int32)) (by decide) ?_
        refine own_icmpNo X81.here hx hby at_501 (flt (show ¬ ((1 : Int32) < (1 : Int32)) from (by decide))).1 ?_
        refine own_aload X81.here hx hby at_504 rfl rfl ?_
        refine own_iconst X81.here hx hby at_506 (v := (0 : Int32)) (by decide) ?_
        refine own_baload X81 hx hZ67 rfl P81_2 ⟨by decide, by decide⟩ (v := (.int (p3.toInt8.toInt32))) rfl hby at_507 ?_
        refine own_iload X81.here hx hby at_508 rfl ?_
        refine own_icmpNo X81.here hx hby at_510 (teq (show (p3.toInt8.toInt32) = (p3.toInt8.toInt32) from rfl)).2 ?_
        refine own_iload X81.here hx hby at_513 rfl ?_
        refine own_iconst X81.here hx hby at_515 (v := (2 : Int32)) (by decide) ?_
        refine own_icmpYes X81.here hx hby (pc' := 528) at_516 (tlt (show (1 : Int32) < (2 : Int32) from (by decide))).1 (by decide) (by decide) ?_
        refine own_iload X81.here hx hby at_528 rfl ?_
        refine own_iconst X81.here hx hby at_530 (v := (3 : Int32)) (by decide) ?_
        refine own_icmpYes X81.here hx hby (pc' := 545) at_531 (tlt (show (1 : Int32) < (3 : Int32) from (by decide))).1 (by decide) (by decide) ?_
        refine own_iload X81.here hx hby at_545 rfl ?_
        refine own_ifNo X81.here hx hby at_547 ((if0 _ _).trans (tlt (show (0 : Int32) < (1 : Int32) from (by decide))).2.2.2) ?_
        refine own_aload X81.here hx hby at_550 rfl rfl ?_
        refine own_iconst X81.here hx hby at_552 (v := (0 : Int32)) (by decide) ?_
        refine own_iload X81.here hx hby at_553 rfl ?_
        refine own_iconst X81.here hx hby at_555 (v := (-1 : Int32)) (by decide) ?_
        refine own_ixor X81.here hx hby at_556 rfl ?_
        refine own_i2b X81.here hx hby at_557 rfl ?_
        refine own_bastore X81 hx hZ67 rfl P81_2 ⟨by decide, by decide⟩ 0 (by decide) (Nat.le_of_ble_eq_true rfl) (w := (.int (((p3.toInt8.toInt32) ^^^ (-1 : Int32)).toInt8.toInt32))) (congrArg Value.int (own_i2bb ((p3.toInt8.toInt32) ^^^ (-1 : Int32)))) hby at_558 N81 (by omega) ?_
        intro T87 h87 lo87 X87 e87 N87 W87 V87 z87
        have V88 : Arv Z h87 r_81 kr_81 .byte (1 : Int32) [(.int (((p3.toInt8.toInt32) ^^^ (-1 : Int32)).toInt8.toInt32))] (.int 0) := V87
        have sf89 := (Safe.keep K81 sf0 C77.1 (Safe.new (h := h74) (x := r_81) (by omega)))
        have C90 := C85.trans (CHr.wr W87 sf89 C85.1)
        refine own_aload X87.here hx hby at_559 rfl rfl ?_
        have f91 := ((f78.keep K81 nin0).other W87 (Or.inl (own_nn (by omega))))
        have f92 := ((f79.keep K81).wr W87)
        have f93 := ((f80.keep K81 nin0).other W87 (own_nn (by omega)))
        have z95 : n0 ≤ h87.size := by omega
        have f96 := ((f83.keep K81).wr W87)
        refine own_virtual X87 hx hZ67 hown67 (own_w hw 19 rfl) (own_w hw 20 rfl) (notFace_of_selects (args := #[]) (mvT hZ67 (own_w hw 22 rfl))) (own_w hw 22 rfl) (own_w hw 21 rfl) (own_w hw 3 rfl) (own_w hw 23 rfl) (by decide) (binV_1 l Z a0 hw [] b54 bc_67 kc_67 (p3.toInt8.toInt32) h87 n0 z95 f91 f92 f93) 0 (Nat.le_of_eq rfl) (by decide) (by decide) (by rw [hml]; rfl) (argsL := []) (st := []) f96 (lenOf pd_11 rfl) rfl rfl (by decide) (by decide) e87 hby at_561 ?_
        intro T94 v94 L94 X94 hQ94
        obtain ⟨r_94, kr_94, rfl, Nq94, K94, P94_0, P94_1, P94_2⟩ := hQ94
        have N94 := Fr.app N87 Nq94
        have z97 : h87.size ≤ T94.heap.size := K94.1
        have C98 := C90.trans (CHr.keep K94 sf0 C90.1)
        have lt99 : T94.heap.size > r_94 := P94_1.lt
        refine own_sh (T := T94) 564 #[.val (.int p1), .val (.int p2), .val (.int p3), .val (.int p4), .val (.int (p2 &&& (255 : Int32))), .val (.int (p1 &&& (7 : Int32))), .val (.ref x), .val (.int 1), .val (.int (p3.toInt8.toInt32)), .val (.int (((p3.toUInt32 >>> ((8 : Int32) &&& 31).toUInt32).toInt32).toInt8.toInt32)), .val (.int (((p3.toUInt32 >>> ((16 : Int32) &&& 31).toUInt32).toInt32).toInt8.toInt32)), .val (.int 1), .val (.int 0), .val (.ref b46), .val (.ref b54), .val (.ref r_81), .unset] [(.ref r_94)] ?_
        refine own_astore X94.here hx hby at_564 rfl (l' := #[.val (.int p1), .val (.int p2), .val (.int p3), .val (.int p4), .val (.int (p2 &&& (255 : Int32))), .val (.int (p1 &&& (7 : Int32))), .val (.ref x), .val (.int 1), .val (.int (p3.toInt8.toInt32)), .val (.int (((p3.toUInt32 >>> ((8 : Int32) &&& 31).toUInt32).toInt32).toInt8.toInt32)), .val (.int (((p3.toUInt32 >>> ((16 : Int32) &&& 31).toUInt32).toInt32).toInt8.toInt32)), .val (.int 1), .val (.int 0), .val (.ref b46), .val (.ref b54), .val (.ref r_81), .val (.ref r_94)]) rfl ?_
        refine own_aload X94.here hx hby at_566 rfl rfl ?_
        refine own_ifnullNo X94.here hx hby at_568 ?_
        refine own_aload X94.here hx hby at_571 rfl rfl ?_
        refine own_aload X94.here hx hby at_573 rfl rfl ?_
        refine own_acmp X94 hx (same := false) (pc' := 578) hby at_575 rfl rfl (decide_eq_false fun q => absurd (Value.ref.inj q) (own_nn (by omega))) (by decide) (by decide) ?_
        refine own_aload X94.here hx hby at_578 rfl rfl ?_
        refine own_aload X94.here hx hby at_580 rfl rfl ?_
        refine own_acmp X94 hx (same := false) (pc' := 585) hby at_582 rfl rfl (decide_eq_false fun q => absurd (Value.ref.inj q) (own_nn (by omega))) (by decide) (by decide) ?_
        refine own_aload X94.here hx hby at_585 rfl rfl ?_
        refine own_alen X94 hx hZ67 rfl P94_2 hby at_587 ?_
        refine own_iload X94.here hx hby at_588 rfl ?_
        refine own_icmpYes X94.here hx hby (pc' := 595) at_590 (teq (show (1 : Int32) = (1 : Int32) from (by decide))).1 (by decide) (by decide) ?_
        refine own_iload X94.here hx hby at_595 rfl ?_
        refine own_iconst X94.here hx hby at_597 (v := (1 : Int32)) (by decide) ?_
        refine own_icmpNo X94.here hx hby at_598 (flt (show ¬ ((1 : Int32) < (1 : Int32)) from (by decide))).1 ?_
        refine own_aload X94.here hx hby at_601 rfl rfl ?_
        refine own_iconst X94.here hx hby at_603 (v := (0 : Int32)) (by decide) ?_
        refine own_baload X94 hx hZ67 rfl P94_2 ⟨by decide, by decide⟩ (v := (.int (p3.toInt8.toInt32))) rfl hby at_604 ?_
        refine own_iload X94.here hx hby at_605 rfl ?_
        refine own_icmpNo X94.here hx hby at_607 (teq (show (p3.toInt8.toInt32) = (p3.toInt8.toInt32) from rfl)).2 ?_
        refine own_iload X94.here hx hby at_610 rfl ?_
        refine own_iconst X94.here hx hby at_612 (v := (2 : Int32)) (by decide) ?_
        refine own_icmpYes X94.here hx hby (pc' := 625) at_613 (tlt (show (1 : Int32) < (2 : Int32) from (by decide))).1 (by decide) (by decide) ?_
        refine own_iload X94.here hx hby at_625 rfl ?_
        refine own_iconst X94.here hx hby at_627 (v := (3 : Int32)) (by decide) ?_
        refine own_icmpYes X94.here hx hby (pc' := 640) at_628 (tlt (show (1 : Int32) < (3 : Int32) from (by decide))).1 (by decide) (by decide) ?_
        refine own_iconst X94.here hx hby at_640 (v := (1 : Int32)) (by decide) ?_
        refine own_goto X94.here hx hby (pc' := 645) at_641 (by decide) (by decide) ?_
        obtain ⟨fs, hr, hrun, hended, hRW⟩ := X94.leaveW hS67 (by omega) (v := some (.int 1)) (fun h => by rw [Bd.returns] at h; cases h)
        have hCf : CHr Z consts_1 s.vm s.heap T94.vm T94.heap := by
          rw [hh]
          exact C98.trans (CHv.at X94 hZ67 hEL C98.1)
        refine own_ret (t := T94.setFrames fs) ?_ ⟨_, hrun, hended, _, _, rfl, ?_, hCf, hRW.1, hRW.2.1, hRW.2.2.1, hRW.2.2.2.mono (by decide) (by decide)⟩
        · exact retN X94 hx (t := .boolean) Bd.returns (by simp) (hb hby at_645) hr
        · show Q_rm0 Z _ _ _ _ _ h0 n0 _ T94.heap _
          exact ⟨rfl, N94, trivial⟩
      · rw [hk]
        refine own_iload Xc5.here hx hby at_339 rfl ?_
        refine own_ifYes Xc5.here hx hby (pc' := 352) at_341 ((if0 _ _).trans (feq (show ¬ ((2 : Int32) = (0 : Int32)) from (by decide))).2) (by decide) (by decide) ?_
        refine own_iload Xc5.here hx hby at_352 rfl ?_
        refine own_iconst Xc5.here hx hby at_354 (v := (1 : Int32)) (by decide) ?_
        refine own_icmpYes Xc5.here hx hby (pc' := 371) at_355 (feq (show ¬ ((2 : Int32) = (1 : Int32)) from (by decide))).2 (by decide) (by decide) ?_
        refine own_iload Xc5.here hx hby at_371 rfl ?_
        refine own_iconst Xc5.here hx hby at_373 (v := (2 : Int32)) (by decide) ?_
        refine own_icmpNo Xc5.here hx hby at_374 (teq (show (2 : Int32) = (2 : Int32) from (by decide))).2 ?_
        refine own_iconst Xc5.here hx hby at_377 (v := (2 : Int32)) (by decide) ?_
        refine own_newP Xc5 hx hZc5 (aty := .byte) (own_w hw 0 rfl) ec5 hby at_378 (by decide) 2 (by decide) (by decide) (by decide) (by decide) (ad := "[B") (by decide) ?_
        intro T100 h100 k100 b100 X100 e100 E100 g100 V100 C100 lt100
        have z101 : hc5.size ≤ h100.size := E100.1
        have C102 := Cc5.trans (CHr.ext E100 Cc5.1)
        have V103 : Arv Z h100 b100 k100 .byte (2 : Int32) [(.int 0), (.int 0)] (.int 0) := V100.pad (pad_rep [] (.int 0) 2)
        refine own_dup X100.here hx hby at_380 rfl ?_
        refine own_iconst X100.here hx hby at_381 (v := (0 : Int32)) (by decide) ?_
        refine own_iload X100.here hx hby at_382 rfl ?_
        refine own_bastore X100 hx hZc5 e100 V103 ⟨by decide, by decide⟩ 0 (by decide) (Nat.le_of_ble_eq_true rfl) (w := (.int (p3.toInt8.toInt32))) (congrArg Value.int (own_i2bb p3)) hby at_384 Nc5 (by omega) ?_
        intro T104 h104 lo104 X104 e104 N104 W104 V104 z104
        have V105 : Arv Z h104 b100 k100 .byte (2 : Int32) [(.int (p3.toInt8.toInt32)), (.int 0)] (.int 0) := V104
        have sf106 := (Safe.ext E100 Cc5.1 (Safe.new (h := hc5) (x := b100) (by omega)))
        have C107 := C102.trans (CHr.wr W104 sf106 C102.1)
        refine own_dup X104.here hx hby at_385 rfl ?_
        refine own_iconst X104.here hx hby at_386 (v := (1 : Int32)) (by decide) ?_
        refine own_iload X104.here hx hby at_387 rfl ?_
        refine own_bastore X104 hx hZc5 e104 V105 ⟨by decide, by decide⟩ 1 (by decide) (Nat.le_of_ble_eq_true rfl) (w := (.int (((p3.toUInt32 >>> ((8 : Int32) &&& 31).toUInt32).toInt32).toInt8.toInt32))) (congrArg Value.int (own_i2bb ((p3.toUInt32 >>> ((8 : Int32) &&& 31).toUInt32).toInt32))) hby at_389 N104 (by omega) ?_
        intro T108 h108 lo108 X108 e108 N108 W108 V108 z108
        have V109 : Arv Z h108 b100 k100 .byte (2 : Int32) [(.int (p3.toInt8.toInt32)), (.int (((p3.toUInt32 >>> ((8 : Int32) &&& 31).toUInt32).toInt32).toInt8.toInt32))] (.int 0) := V108
        have sf110 := (Safe.wr W104 sf106 C102.1 sf106)
        have C111 := C107.trans (CHr.wr W108 sf110 C107.1)
        refine own_astore X108.here hx hby at_390 rfl (l' := #[.val (.int p1), .val (.int p2), .val (.int p3), .val (.int p4), .val (.int (p2 &&& (255 : Int32))), .val (.int (p1 &&& (7 : Int32))), .val (.ref x), .val (.int 1), .val (.int (p3.toInt8.toInt32)), .val (.int (((p3.toUInt32 >>> ((8 : Int32) &&& 31).toUInt32).toInt32).toInt8.toInt32)), .val (.int (((p3.toUInt32 >>> ((16 : Int32) &&& 31).toUInt32).toInt32).toInt8.toInt32)), .val (.int 2), .val (.int 0), .val (.ref b100), .unset, .unset, .unset]) rfl ?_
        refine own_goto X108.here hx hby (pc' := 415) at_392 (by decide) (by decide) ?_
        refine own_newO X108 hx hZc5 hownc5 (own_w hw 1 rfl) (own_w hw 2 rfl) (own_w hw 3 rfl) e108 hby at_415 (by decide) (by decide) ?_
        intro T112 h112 b112 X112 e112 E112 g112 A112 D112 lt112
        have z113 : h108.size ≤ h112.size := E112.1
        have C114 := C111.trans (CHr.ext E112 C111.1)
        have F115 : Fld Z h112 b112 "com/example/sluice/sluice/MessageAttribute" "dataType" "Ljava/lang/String;" .null := D112 (Or.inr (own_w hw 11 rfl)) (ty := (.object "java/lang/String")) (by decide)
        have F116 : Fld Z h112 b112 "com/example/sluice/sluice/MessageAttribute" "stringValue" "Ljava/lang/String;" .null := D112 (Or.inr (own_w hw 16 rfl)) (ty := (.object "java/lang/String")) (by decide)
        have F117 : Fld Z h112 b112 "com/example/sluice/sluice/MessageAttribute" "binaryValue" "[B" .null := D112 (Or.inr (own_w hw 18 rfl)) (ty := (.array .byte)) (by decide)
        refine own_dup X112.here hx hby at_418 rfl ?_
        refine own_aload X112.here hx hby at_419 rfl rfl ?_
        refine own_aconstNull X112.here hx hby at_421 ?_
        refine own_aload X112.here hx hby at_422 rfl rfl ?_
        have f118 := ((((E_x.ext E100).wr W104).wr W108).ext E112)
        have f119 := ((((Fc_x.ext E100).other W104 (Or.inl (own_nn (by omega)))).other W108 (Or.inl (own_nn (by omega)))).ext E112)
        have f120 := ((((Fv_x.ext E100).other W104 (Or.inl (own_nn (by omega)))).other W108 (Or.inl (own_nn (by omega)))).ext E112)
        have f121 := ((((V_t.ext E100).other W104 (own_nn (by omega))).other W108 (own_nn (by omega))).ext E112)
        have f122 := ((((S_C.ext E100).wr W104).wr W108).ext E112)
        have f123 := (((C100.wr W104).wr W108).ext E112)
        have f124 := (V109.ext E112)
        have z126 : n0 ≤ h112.size := by omega
        refine own_specialH X112 hx hZc5 hEL rfl hownc5 (own_w hw 4 rfl) (own_w hw 5 rfl) (own_w hw 3 rfl) (own_w hw 6 rfl) (by decide) (maInit_B_2 l Z a0 hw [] b112 x t kt n vs_ zc b100 k100 (p3.toInt8.toInt32) (((p3.toUInt32 >>> ((8 : Int32) &&& 31).toUInt32).toInt32).toInt8.toInt32) h112 n0 z126 A112 (by omega) F115 F116 F117 f118 f119 f120 f121 f122 hz hK f123 f124) 1 (Nat.le_of_eq rfl) (by decide) (by decide) (by rw [hml]; rfl) (argsL := [(.ref x), .null, (.ref b100)]) (st := [(.ref b112)]) (a := b112) (lenOf pd_10 rfl) rfl rfl (by decide) (by decide) e112 hby C114.1 hSc5 (by omega) at_424 ?_
        intro T125 v125 L125 vm125 X125 hS125 hZ125 hown125 hg125 Cn125 hQ125
        obtain ⟨bc_125, kc_125, rfl, Nq125, K125, P125_0, P125_1, P125_2, P125_3, P125_4⟩ := hQ125
        have N125 := Fr.app N108 Nq125
        have z127 : h112.size ≤ T125.heap.size := K125.1
        have C128 := C114.trans Cn125
        have lt129 : T125.heap.size > b112 := P125_0.lt
        have lt130 : T125.heap.size > bc_125 := P125_3.lt
        refine own_sh (T := T125) 427 #[.val (.int p1), .val (.int p2), .val (.int p3), .val (.int p4), .val (.int (p2 &&& (255 : Int32))), .val (.int (p1 &&& (7 : Int32))), .val (.ref x), .val (.int 1), .val (.int (p3.toInt8.toInt32)), .val (.int (((p3.toUInt32 >>> ((8 : Int32) &&& 31).toUInt32).toInt32).toInt8.toInt32)), .val (.int (((p3.toUInt32 >>> ((16 : Int32) &&& 31).toUInt32).toInt32).toInt8.toInt32)), .val (.int 2), .val (.int 0), .val (.ref b100), .unset, .unset, .unset] [(.ref b112)] ?_
        refine own_astore X125.here hx hby at_427 rfl (l' := #[.val (.int p1), .val (.int p2), .val (.int p3), .val (.int p4), .val (.int (p2 &&& (255 : Int32))), .val (.int (p1 &&& (7 : Int32))), .val (.ref x), .val (.int 1), .val (.int (p3.toInt8.toInt32)), .val (.int (((p3.toUInt32 >>> ((8 : Int32) &&& 31).toUInt32).toInt32).toInt8.toInt32)), .val (.int (((p3.toUInt32 >>> ((16 : Int32) &&& 31).toUInt32).toInt32).toInt8.toInt32)), .val (.int 2), .val (.int 0), .val (.ref b100), .val (.ref b112), .unset, .unset]) rfl ?_
        refine own_aload X125.here hx hby at_429 rfl rfl ?_
        refine own_ifnullNo X125.here hx hby at_431 ?_
        refine own_iload X125.here hx hby at_434 rfl ?_
        refine own_ifNo X125.here hx hby at_436 ((if0 _ _).trans (tlt (show (0 : Int32) < (2 : Int32) from (by decide))).2.2.2) ?_
        refine own_aload X125.here hx hby at_439 rfl rfl ?_
        refine own_iconst X125.here hx hby at_441 (v := (0 : Int32)) (by decide) ?_
        refine own_iload X125.here hx hby at_442 rfl ?_
        refine own_iconst X125.here hx hby at_444 (v := (-1 : Int32)) (by decide) ?_
        refine own_ixor X125.here hx hby at_445 rfl ?_
        refine own_i2b X125.here hx hby at_446 rfl ?_
        have f131 := (f124.keep K125 (ninS (own_nn (by omega)) nin0))
        refine own_bastore X125 hx hZ125 rfl f131 ⟨by decide, by decide⟩ 0 (by decide) (Nat.le_of_ble_eq_true rfl) (w := (.int (((p3.toInt8.toInt32) ^^^ (-1 : Int32)).toInt8.toInt32))) (congrArg Value.int (own_i2bb ((p3.toInt8.toInt32) ^^^ (-1 : Int32)))) hby at_447 N125 (by omega) ?_
        intro T132 h132 lo132 X132 e132 N132 W132 V132 z132
        have V133 : Arv Z h132 b100 k100 .byte (2 : Int32) [(.int (((p3.toInt8.toInt32) ^^^ (-1 : Int32)).toInt8.toInt32)), (.int (((p3.toUInt32 >>> ((8 : Int32) &&& 31).toUInt32).toInt32).toInt8.toInt32))] (.int 0) := V132
        have sf134 := (Cn125.safe (own_ll (by omega)) (Safe.ext E112 C111.1 (Safe.wr W108 sf110 C107.1 sf110)))
        have C135 := C128.trans (CHr.wr W132 sf134 C128.1)
        refine own_aload X132.here hx hby at_448 rfl rfl ?_
        have f136 := (P125_1.other W132 (Or.inl (own_nn (by omega))))
        have f137 := (P125_3.wr W132)
        have f138 := (P125_4.other W132 (own_nn (by omega)))
        have z140 : n0 ≤ h132.size := by omega
        have f141 := (P125_0.wr W132)
        refine own_virtual X132 hx hZ125 hown125 (own_w hw 19 rfl) (own_w hw 20 rfl) (notFace_of_selects (args := #[]) (mvT hZ125 (own_w hw 22 rfl))) (own_w hw 22 rfl) (own_w hw 21 rfl) (own_w hw 3 rfl) (own_w hw 23 rfl) (by decide) (binV_2 l Z a0 hw [] b112 bc_125 kc_125 (p3.toInt8.toInt32) (((p3.toUInt32 >>> ((8 : Int32) &&& 31).toUInt32).toInt32).toInt8.toInt32) h132 n0 z140 f136 f137 f138) 0 (Nat.le_of_eq rfl) (by decide) (by decide) (by rw [hml]; rfl) (argsL := []) (st := []) f141 (lenOf pd_11 rfl) rfl rfl (by decide) (by decide) e132 hby at_450 ?_
        intro T139 v139 L139 X139 hQ139
        obtain ⟨r_139, kr_139, rfl, Nq139, K139, P139_0, P139_1, P139_2⟩ := hQ139
        have N139 := Fr.app N132 Nq139
        have z142 : h132.size ≤ T139.heap.size := K139.1
        have C143 := C135.trans (CHr.keep K139 sf0 C135.1)
        have lt144 : T139.heap.size > r_139 := P139_1.lt
        refine own_sh (T := T139) 453 #[.val (.int p1), .val (.int p2), .val (.int p3), .val (.int p4), .val (.int (p2 &&& (255 : Int32))), .val (.int (p1 &&& (7 : Int32))), .val (.ref x), .val (.int 1), .val (.int (p3.toInt8.toInt32)), .val (.int (((p3.toUInt32 >>> ((8 : Int32) &&& 31).toUInt32).toInt32).toInt8.toInt32)), .val (.int (((p3.toUInt32 >>> ((16 : Int32) &&& 31).toUInt32).toInt32).toInt8.toInt32)), .val (.int 2), .val (.int 0), .val (.ref b100), .val (.ref b112), .unset, .unset] [(.ref r_139)] ?_
        refine own_astore X139.here hx hby at_453 rfl (l' := #[.val (.int p1), .val (.int p2), .val (.int p3), .val (.int p4), .val (.int (p2 &&& (255 : Int32))), .val (.int (p1 &&& (7 : Int32))), .val (.ref x), .val (.int 1), .val (.int (p3.toInt8.toInt32)), .val (.int (((p3.toUInt32 >>> ((8 : Int32) &&& 31).toUInt32).toInt32).toInt8.toInt32)), .val (.int (((p3.toUInt32 >>> ((16 : Int32) &&& 31).toUInt32).toInt32).toInt8.toInt32)), .val (.int 2), .val (.int 0), .val (.ref b100), .val (.ref b112), .val (.ref r_139), .unset]) rfl ?_
        refine own_iload X139.here hx hby at_455 rfl ?_
        refine own_ifNo X139.here hx hby at_457 ((if0 _ _).trans (feq (show ¬ ((1 : Int32) = (0 : Int32)) from (by decide))).1) ?_
        refine own_aload X139.here hx hby at_460 rfl rfl ?_
        refine own_ifnonnullYes X139.here hx hby (pc' := 476) at_462 (by decide) (by decide) ?_
        refine own_aload X139.here hx hby at_476 rfl rfl ?_
        refine own_ifnullNo X139.here hx hby at_478 ?_
        refine own_aload X139.here hx hby at_481 rfl rfl ?_
        refine own_aload X139.here hx hby at_483 rfl rfl ?_
        refine own_acmp X139 hx (same := false) (pc' := 488) hby at_485 rfl rfl (decide_eq_false fun q => absurd (Value.ref.inj q) (own_nn (by omega))) (by decide) (by decide) ?_
        refine own_aload X139.here hx hby at_488 rfl rfl ?_
        refine own_alen X139 hx hZ125 rfl P139_2 hby at_490 ?_
        refine own_iload X139.here hx hby at_491 rfl ?_
        refine own_icmpYes X139.here hx hby (pc' := 498) at_493 (teq (show (2 : Int32) = (2 : Int32) from (by decide))).1 (by decide) (by decide) ?_
        refine own_iload X139.here hx hby at_498 rfl ?_
        refine own_iconst X139.here hx hby at_500 (v := (1 : Int32)) (by decide) ?_
        refine own_icmpNo X139.here hx hby at_501 (flt (show ¬ ((2 : Int32) < (1 : Int32)) from (by decide))).1 ?_
        refine own_aload X139.here hx hby at_504 rfl rfl ?_
        refine own_iconst X139.here hx hby at_506 (v := (0 : Int32)) (by decide) ?_
        refine own_baload X139 hx hZ125 rfl P139_2 ⟨by decide, by decide⟩ (v := (.int (p3.toInt8.toInt32))) rfl hby at_507 ?_
        refine own_iload X139.here hx hby at_508 rfl ?_
        refine own_icmpNo X139.here hx hby at_510 (teq (show (p3.toInt8.toInt32) = (p3.toInt8.toInt32) from rfl)).2 ?_
        refine own_iload X139.here hx hby at_513 rfl ?_
        refine own_iconst X139.here hx hby at_515 (v := (2 : Int32)) (by decide) ?_
        refine own_icmpNo X139.here hx hby at_516 (flt (show ¬ ((2 : Int32) < (2 : Int32)) from (by decide))).1 ?_
        refine own_aload X139.here hx hby at_519 rfl rfl ?_
        refine own_iconst X139.here hx hby at_521 (v := (1 : Int32)) (by decide) ?_
        refine own_baload X139 hx hZ125 rfl P139_2 ⟨by decide, by decide⟩ (v := (.int (((p3.toUInt32 >>> ((8 : Int32) &&& 31).toUInt32).toInt32).toInt8.toInt32))) rfl hby at_522 ?_
        refine own_iload X139.here hx hby at_523 rfl ?_
        refine own_icmpNo X139.here hx hby at_525 (teq (show (((p3.toUInt32 >>> ((8 : Int32) &&& 31).toUInt32).toInt32).toInt8.toInt32) = (((p3.toUInt32 >>> ((8 : Int32) &&& 31).toUInt32).toInt32).toInt8.toInt32) from rfl)).2 ?_
        refine own_iload X139.here hx hby at_528 rfl ?_
        refine own_iconst X139.here hx hby at_530 (v := (3 : Int32)) (by decide) ?_
        refine own_icmpYes X139.here hx hby (pc' := 545) at_531 (tlt (show (2 : Int32) < (3 : Int32) from (by decide))).1 (by decide) (by decide) ?_
        refine own_iload X139.here hx hby at_545 rfl ?_
        refine own_ifNo X139.here hx hby at_547 ((if0 _ _).trans (tlt (show (0 : Int32) < (2 : Int32) from (by decide))).2.2.2) ?_
        refine own_aload X139.here hx hby at_550 rfl rfl ?_
        refine own_iconst X139.here hx hby at_552 (v := (0 : Int32)) (by decide) ?_
        refine own_iload X139.here hx hby at_553 rfl ?_
        refine own_iconst X139.here hx hby at_555 (v := (-1 : Int32)) (by decide) ?_
        refine own_ixor X139.here hx hby at_556 rfl ?_
        refine own_i2b X139.here hx hby at_557 rfl ?_
        refine own_bastore X139 hx hZ125 rfl P139_2 ⟨by decide, by decide⟩ 0 (by decide) (Nat.le_of_ble_eq_true rfl) (w := (.int (((p3.toInt8.toInt32) ^^^ (-1 : Int32)).toInt8.toInt32))) (congrArg Value.int (own_i2bb ((p3.toInt8.toInt32) ^^^ (-1 : Int32)))) hby at_558 N139 (by omega) ?_
        intro T145 h145 lo145 X145 e145 N145 W145 V145 z145
        have V146 : Arv Z h145 r_139 kr_139 .byte (2 : Int32) [(.int (((p3.toInt8.toInt32) ^^^ (-1 : Int32)).toInt8.toInt32)), (.int (((p3.toUInt32 >>> ((8 : Int32) &&& 31).toUInt32).toInt32).toInt8.toInt32))] (.int 0) := V145
        have sf147 := (Safe.keep K139 sf0 C135.1 (Safe.new (h := h132) (x := r_139) (by omega)))
        have C148 := C143.trans (CHr.wr W145 sf147 C143.1)
        refine own_aload X145.here hx hby at_559 rfl rfl ?_
        have f149 := ((f136.keep K139 nin0).other W145 (Or.inl (own_nn (by omega))))
        have f150 := ((f137.keep K139).wr W145)
        have f151 := ((f138.keep K139 nin0).other W145 (own_nn (by omega)))
        have z153 : n0 ≤ h145.size := by omega
        have f154 := ((f141.keep K139).wr W145)
        refine own_virtual X145 hx hZ125 hown125 (own_w hw 19 rfl) (own_w hw 20 rfl) (notFace_of_selects (args := #[]) (mvT hZ125 (own_w hw 22 rfl))) (own_w hw 22 rfl) (own_w hw 21 rfl) (own_w hw 3 rfl) (own_w hw 23 rfl) (by decide) (binV_2 l Z a0 hw [] b112 bc_125 kc_125 (p3.toInt8.toInt32) (((p3.toUInt32 >>> ((8 : Int32) &&& 31).toUInt32).toInt32).toInt8.toInt32) h145 n0 z153 f149 f150 f151) 0 (Nat.le_of_eq rfl) (by decide) (by decide) (by rw [hml]; rfl) (argsL := []) (st := []) f154 (lenOf pd_11 rfl) rfl rfl (by decide) (by decide) e145 hby at_561 ?_
        intro T152 v152 L152 X152 hQ152
        obtain ⟨r_152, kr_152, rfl, Nq152, K152, P152_0, P152_1, P152_2⟩ := hQ152
        have N152 := Fr.app N145 Nq152
        have z155 : h145.size ≤ T152.heap.size := K152.1
        have C156 := C148.trans (CHr.keep K152 sf0 C148.1)
        have lt157 : T152.heap.size > r_152 := P152_1.lt
        refine own_sh (T := T152) 564 #[.val (.int p1), .val (.int p2), .val (.int p3), .val (.int p4), .val (.int (p2 &&& (255 : Int32))), .val (.int (p1 &&& (7 : Int32))), .val (.ref x), .val (.int 1), .val (.int (p3.toInt8.toInt32)), .val (.int (((p3.toUInt32 >>> ((8 : Int32) &&& 31).toUInt32).toInt32).toInt8.toInt32)), .val (.int (((p3.toUInt32 >>> ((16 : Int32) &&& 31).toUInt32).toInt32).toInt8.toInt32)), .val (.int 2), .val (.int 0), .val (.ref b100), .val (.ref b112), .val (.ref r_139), .unset] [(.ref r_152)] ?_
        refine own_astore X152.here hx hby at_564 rfl (l' := #[.val (.int p1), .val (.int p2), .val (.int p3), .val (.int p4), .val (.int (p2 &&& (255 : Int32))), .val (.int (p1 &&& (7 : Int32))), .val (.ref x), .val (.int 1), .val (.int (p3.toInt8.toInt32)), .val (.int (((p3.toUInt32 >>> ((8 : Int32) &&& 31).toUInt32).toInt32).toInt8.toInt32)), .val (.int (((p3.toUInt32 >>> ((16 : Int32) &&& 31).toUInt32).toInt32).toInt8.toInt32)), .val (.int 2), .val (.int 0), .val (.ref b100), .val (.ref b112), .val (.ref r_139), .val (.ref r_152)]) rfl ?_
        refine own_aload X152.here hx hby at_566 rfl rfl ?_
        refine own_ifnullNo X152.here hx hby at_568 ?_
        refine own_aload X152.here hx hby at_571 rfl rfl ?_
        refine own_aload X152.here hx hby at_573 rfl rfl ?_
        refine own_acmp X152 hx (same := false) (pc' := 578) hby at_575 rfl rfl (decide_eq_false fun q => absurd (Value.ref.inj q) (own_nn (by omega))) (by decide) (by decide) ?_
        refine own_aload X152.here hx hby at_578 rfl rfl ?_
        refine own_aload X152.here hx hby at_580 rfl rfl ?_
        refine own_acmp X152 hx (same := false) (pc' := 585) hby at_582 rfl rfl (decide_eq_false fun q => absurd (Value.ref.inj q) (own_nn (by omega))) (by decide) (by decide) ?_
        refine own_aload X152.here hx hby at_585 rfl rfl ?_
        refine own_alen X152 hx hZ125 rfl P152_2 hby at_587 ?_
        refine own_iload X152.here hx hby at_588 rfl ?_
        refine own_icmpYes X152.here hx hby (pc' := 595) at_590 (teq (show (2 : Int32) = (2 : Int32) from (by decide))).1 (by decide) (by decide) ?_
        refine own_iload X152.here hx hby at_595 rfl ?_
        refine own_iconst X152.here hx hby at_597 (v := (1 : Int32)) (by decide) ?_
        refine own_icmpNo X152.here hx hby at_598 (flt (show ¬ ((2 : Int32) < (1 : Int32)) from (by decide))).1 ?_
        refine own_aload X152.here hx hby at_601 rfl rfl ?_
        refine own_iconst X152.here hx hby at_603 (v := (0 : Int32)) (by decide) ?_
        refine own_baload X152 hx hZ125 rfl P152_2 ⟨by decide, by decide⟩ (v := (.int (p3.toInt8.toInt32))) rfl hby at_604 ?_
        refine own_iload X152.here hx hby at_605 rfl ?_
        refine own_icmpNo X152.here hx hby at_607 (teq (show (p3.toInt8.toInt32) = (p3.toInt8.toInt32) from rfl)).2 ?_
        refine own_iload X152.here hx hby at_610 rfl ?_
        refine own_iconst X152.here hx hby at_612 (v := (2 : Int32)) (by decide) ?_
        refine own_icmpNo X152.here hx hby at_613 (flt (show ¬ ((2 : Int32) < (2 : Int32)) from (by decide))).1 ?_
        refine own_aload X152.here hx hby at_616 rfl rfl ?_
        refine own_iconst X152.here hx hby at_618 (v := (1 : Int32)) (by decide) ?_
        refine own_baload X152 hx hZ125 rfl P152_2 ⟨by decide, by decide⟩ (v := (.int (((p3.toUInt32 >>> ((8 : Int32) &&& 31).toUInt32).toInt32).toInt8.toInt32))) rfl hby at_619 ?_
        refine own_iload X152.here hx hby at_620 rfl ?_
        refine own_icmpNo X152.here hx hby at_622 (teq (show (((p3.toUInt32 >>> ((8 : Int32) &&& 31).toUInt32).toInt32).toInt8.toInt32) = (((p3.toUInt32 >>> ((8 : Int32) &&& 31).toUInt32).toInt32).toInt8.toInt32) from rfl)).2 ?_
        refine own_iload X152.here hx hby at_625 rfl ?_
        refine own_iconst X152.here hx hby at_627 (v := (3 : Int32)) (by decide) ?_
        refine own_icmpYes X152.here hx hby (pc' := 640) at_628 (tlt (show (2 : Int32) < (3 : Int32) from (by decide))).1 (by decide) (by decide) ?_
        refine own_iconst X152.here hx hby at_640 (v := (1 : Int32)) (by decide) ?_
        refine own_goto X152.here hx hby (pc' := 645) at_641 (by decide) (by decide) ?_
        obtain ⟨fs, hr, hrun, hended, hRW⟩ := X152.leaveW hS125 (by omega) (v := some (.int 1)) (fun h => by rw [Bd.returns] at h; cases h)
        have hCf : CHr Z consts_1 s.vm s.heap T152.vm T152.heap := by
          rw [hh]
          exact C156.trans (CHv.at X152 hZ125 hEL C156.1)
        refine own_ret (t := T152.setFrames fs) ?_ ⟨_, hrun, hended, _, _, rfl, ?_, hCf, hRW.1, hRW.2.1, hRW.2.2.1, hRW.2.2.2.mono (by decide) (by decide)⟩
        · exact retN X152 hx (t := .boolean) Bd.returns (by simp) (hb hby at_645) hr
        · show Q_rm0 Z _ _ _ _ _ h0 n0 _ T152.heap _
          exact ⟨rfl, N152, trivial⟩
      · rw [hk]
        refine own_iload Xc5.here hx hby at_339 rfl ?_
        refine own_ifYes Xc5.here hx hby (pc' := 352) at_341 ((if0 _ _).trans (feq (show ¬ ((3 : Int32) = (0 : Int32)) from (by decide))).2) (by decide) (by decide) ?_
        refine own_iload Xc5.here hx hby at_352 rfl ?_
        refine own_iconst Xc5.here hx hby at_354 (v := (1 : Int32)) (by decide) ?_
        refine own_icmpYes Xc5.here hx hby (pc' := 371) at_355 (feq (show ¬ ((3 : Int32) = (1 : Int32)) from (by decide))).2 (by decide) (by decide) ?_
        refine own_iload Xc5.here hx hby at_371 rfl ?_
        refine own_iconst Xc5.here hx hby at_373 (v := (2 : Int32)) (by decide) ?_
        refine own_icmpYes Xc5.here hx hby (pc' := 395) at_374 (feq (show ¬ ((3 : Int32) = (2 : Int32)) from (by decide))).2 (by decide) (by decide) ?_
        refine own_iconst Xc5.here hx hby at_395 (v := (3 : Int32)) (by decide) ?_
        refine own_newP Xc5 hx hZc5 (aty := .byte) (own_w hw 0 rfl) ec5 hby at_396 (by decide) 3 (by decide) (by decide) (by decide) (by decide) (ad := "[B") (by decide) ?_
        intro T158 h158 k158 b158 X158 e158 E158 g158 V158 C158 lt158
        have z159 : hc5.size ≤ h158.size := E158.1
        have C160 := Cc5.trans (CHr.ext E158 Cc5.1)
        have V161 : Arv Z h158 b158 k158 .byte (3 : Int32) [(.int 0), (.int 0), (.int 0)] (.int 0) := V158.pad (pad_rep [] (.int 0) 3)
        refine own_dup X158.here hx hby at_398 rfl ?_
        refine own_iconst X158.here hx hby at_399 (v := (0 : Int32)) (by decide) ?_
        refine own_iload X158.here hx hby at_400 rfl ?_
        refine own_bastore X158 hx hZc5 e158 V161 ⟨by decide, by decide⟩ 0 (by decide) (Nat.le_of_ble_eq_true rfl) (w := (.int (p3.toInt8.toInt32))) (congrArg Value.int (own_i2bb p3)) hby at_402 Nc5 (by omega) ?_
        intro T162 h162 lo162 X162 e162 N162 W162 V162 z162
        have V163 : Arv Z h162 b158 k158 .byte (3 : Int32) [(.int (p3.toInt8.toInt32)), (.int 0), (.int 0)] (.int 0) := V162
        have sf164 := (Safe.ext E158 Cc5.1 (Safe.new (h := hc5) (x := b158) (by omega)))
        have C165 := C160.trans (CHr.wr W162 sf164 C160.1)
        refine own_dup X162.here hx hby at_403 rfl ?_
        refine own_iconst X162.here hx hby at_404 (v := (1 : Int32)) (by decide) ?_
        refine own_iload X162.here hx hby at_405 rfl ?_
        refine own_bastore X162 hx hZc5 e162 V163 ⟨by decide, by decide⟩ 1 (by decide) (Nat.le_of_ble_eq_true rfl) (w := (.int (((p3.toUInt32 >>> ((8 : Int32) &&& 31).toUInt32).toInt32).toInt8.toInt32))) (congrArg Value.int (own_i2bb ((p3.toUInt32 >>> ((8 : Int32) &&& 31).toUInt32).toInt32))) hby at_407 N162 (by omega) ?_
        intro T166 h166 lo166 X166 e166 N166 W166 V166 z166
        have V167 : Arv Z h166 b158 k158 .byte (3 : Int32) [(.int (p3.toInt8.toInt32)), (.int (((p3.toUInt32 >>> ((8 : Int32) &&& 31).toUInt32).toInt32).toInt8.toInt32)), (.int 0)] (.int 0) := V166
        have sf168 := (Safe.wr W162 sf164 C160.1 sf164)
        have C169 := C165.trans (CHr.wr W166 sf168 C165.1)
        refine own_dup X166.here hx hby at_408 rfl ?_
        refine own_iconst X166.here hx hby at_409 (v := (2 : Int32)) (by decide) ?_
        refine own_iload X166.here hx hby at_410 rfl ?_
        refine own_bastore X166 hx hZc5 e166 V167 ⟨by decide, by decide⟩ 2 (by decide) (Nat.le_of_ble_eq_true rfl) (w := (.int (((p3.toUInt32 >>> ((16 : Int32) &&& 31).toUInt32).toInt32).toInt8.toInt32))) (congrArg Value.int (own_i2bb ((p3.toUInt32 >>> ((16 : Int32) &&& 31).toUInt32).toInt32))) hby at_412 N166 (by omega) ?_
        intro T170 h170 lo170 X170 e170 N170 W170 V170 z170
        have V171 : Arv Z h170 b158 k158 .byte (3 : Int32) [(.int (p3.toInt8.toInt32)), (.int (((p3.toUInt32 >>> ((8 : Int32) &&& 31).toUInt32).toInt32).toInt8.toInt32)), (.int (((p3.toUInt32 >>> ((16 : Int32) &&& 31).toUInt32).toInt32).toInt8.toInt32))] (.int 0) := V170
        have sf172 := (Safe.wr W166 sf168 C165.1 sf168)
        have C173 := C169.trans (CHr.wr W170 sf172 C169.1)
        refine own_astore X170.here hx hby at_413 rfl (l' := #[.val (.int p1), .val (.int p2), .val (.int p3), .val (.int p4), .val (.int (p2 &&& (255 : Int32))), .val (.int (p1 &&& (7 : Int32))), .val (.ref x), .val (.int 1), .val (.int (p3.toInt8.toInt32)), .val (.int (((p3.toUInt32 >>> ((8 : Int32) &&& 31).toUInt32).toInt32).toInt8.toInt32)), .val (.int (((p3.toUInt32 >>> ((16 : Int32) &&& 31).toUInt32).toInt32).toInt8.toInt32)), .val (.int 3), .val (.int 0), .val (.ref b158), .unset, .unset, .unset]) rfl ?_
        refine own_newO X170 hx hZc5 hownc5 (own_w hw 1 rfl) (own_w hw 2 rfl) (own_w hw 3 rfl) e170 hby at_415 (by decide) (by decide) ?_
        intro T174 h174 b174 X174 e174 E174 g174 A174 D174 lt174
        have z175 : h170.size ≤ h174.size := E174.1
        have C176 := C173.trans (CHr.ext E174 C173.1)
        have F177 : Fld Z h174 b174 "com/example/sluice/sluice/MessageAttribute" "dataType" "Ljava/lang/String;" .null := D174 (Or.inr (own_w hw 11 rfl)) (ty := (.object "java/lang/String")) (by decide)
        have F178 : Fld Z h174 b174 "com/example/sluice/sluice/MessageAttribute" "stringValue" "Ljava/lang/String;" .null := D174 (Or.inr (own_w hw 16 rfl)) (ty := (.object "java/lang/String")) (by decide)
        have F179 : Fld Z h174 b174 "com/example/sluice/sluice/MessageAttribute" "binaryValue" "[B" .null := D174 (Or.inr (own_w hw 18 rfl)) (ty := (.array .byte)) (by decide)
        refine own_dup X174.here hx hby at_418 rfl ?_
        refine own_aload X174.here hx hby at_419 rfl rfl ?_
        refine own_aconstNull X174.here hx hby at_421 ?_
        refine own_aload X174.here hx hby at_422 rfl rfl ?_
        have f180 := (((((E_x.ext E158).wr W162).wr W166).wr W170).ext E174)
        have f181 := (((((Fc_x.ext E158).other W162 (Or.inl (own_nn (by omega)))).other W166 (Or.inl (own_nn (by omega)))).other W170 (Or.inl (own_nn (by omega)))).ext E174)
        have f182 := (((((Fv_x.ext E158).other W162 (Or.inl (own_nn (by omega)))).other W166 (Or.inl (own_nn (by omega)))).other W170 (Or.inl (own_nn (by omega)))).ext E174)
        have f183 := (((((V_t.ext E158).other W162 (own_nn (by omega))).other W166 (own_nn (by omega))).other W170 (own_nn (by omega))).ext E174)
        have f184 := (((((S_C.ext E158).wr W162).wr W166).wr W170).ext E174)
        have f185 := ((((C158.wr W162).wr W166).wr W170).ext E174)
        have f186 := (V171.ext E174)
        have z188 : n0 ≤ h174.size := by omega
        refine own_specialH X174 hx hZc5 hEL rfl hownc5 (own_w hw 4 rfl) (own_w hw 5 rfl) (own_w hw 3 rfl) (own_w hw 6 rfl) (by decide) (maInit_B_3 l Z a0 hw [] b174 x t kt n vs_ zc b158 k158 (p3.toInt8.toInt32) (((p3.toUInt32 >>> ((8 : Int32) &&& 31).toUInt32).toInt32).toInt8.toInt32) (((p3.toUInt32 >>> ((16 : Int32) &&& 31).toUInt32).toInt32).toInt8.toInt32) h174 n0 z188 A174 (by omega) F177 F178 F179 f180 f181 f182 f183 f184 hz hK f185 f186) 1 (Nat.le_of_eq rfl) (by decide) (by decide) (by rw [hml]; rfl) (argsL := [(.ref x), .null, (.ref b158)]) (st := [(.ref b174)]) (a := b174) (lenOf pd_10 rfl) rfl rfl (by decide) (by decide) e174 hby C176.1 hSc5 (by omega) at_424 ?_
        intro T187 v187 L187 vm187 X187 hS187 hZ187 hown187 hg187 Cn187 hQ187
        obtain ⟨bc_187, kc_187, rfl, Nq187, K187, P187_0, P187_1, P187_2, P187_3, P187_4⟩ := hQ187
        have N187 := Fr.app N170 Nq187
        have z189 : h174.size ≤ T187.heap.size := K187.1
        have C190 := C176.trans Cn187
        have lt191 : T187.heap.size > b174 := P187_0.lt
        have lt192 : T187.heap.size > bc_187 := P187_3.lt
        refine own_sh (T := T187) 427 #[.val (.int p1), .val (.int p2), .val (.int p3), .val (.int p4), .val (.int (p2 &&& (255 : Int32))), .val (.int (p1 &&& (7 : Int32))), .val (.ref x), .val (.int 1), .val (.int (p3.toInt8.toInt32)), .val (.int (((p3.toUInt32 >>> ((8 : Int32) &&& 31).toUInt32).toInt32).toInt8.toInt32)), .val (.int (((p3.toUInt32 >>> ((16 : Int32) &&& 31).toUInt32).toInt32).toInt8.toInt32)), .val (.int 3), .val (.int 0), .val (.ref b158), .unset, .unset, .unset] [(.ref b174)] ?_
        refine own_astore X187.here hx hby at_427 rfl (l' := #[.val (.int p1), .val (.int p2), .val (.int p3), .val (.int p4), .val (.int (p2 &&& (255 : Int32))), .val (.int (p1 &&& (7 : Int32))), .val (.ref x), .val (.int 1), .val (.int (p3.toInt8.toInt32)), .val (.int (((p3.toUInt32 >>> ((8 : Int32) &&& 31).toUInt32).toInt32).toInt8.toInt32)), .val (.int (((p3.toUInt32 >>> ((16 : Int32) &&& 31).toUInt32).toInt32).toInt8.toInt32)), .val (.int 3), .val (.int 0), .val (.ref b158), .val (.ref b174), .unset, .unset]) rfl ?_
        refine own_aload X187.here hx hby at_429 rfl rfl ?_
        refine own_ifnullNo X187.here hx hby at_431 ?_
        refine own_iload X187.here hx hby at_434 rfl ?_
        refine own_ifNo X187.here hx hby at_436 ((if0 _ _).trans (tlt (show (0 : Int32) < (3 : Int32) from (by decide))).2.2.2) ?_
        refine own_aload X187.here hx hby at_439 rfl rfl ?_
        refine own_iconst X187.here hx hby at_441 (v := (0 : Int32)) (by decide) ?_
        refine own_iload X187.here hx hby at_442 rfl ?_
        refine own_iconst X187.here hx hby at_444 (v := (-1 : Int32)) (by decide) ?_
        refine own_ixor X187.here hx hby at_445 rfl ?_
        refine own_i2b X187.here hx hby at_446 rfl ?_
        have f193 := (f186.keep K187 (ninS (own_nn (by omega)) nin0))
        refine own_bastore X187 hx hZ187 rfl f193 ⟨by decide, by decide⟩ 0 (by decide) (Nat.le_of_ble_eq_true rfl) (w := (.int (((p3.toInt8.toInt32) ^^^ (-1 : Int32)).toInt8.toInt32))) (congrArg Value.int (own_i2bb ((p3.toInt8.toInt32) ^^^ (-1 : Int32)))) hby at_447 N187 (by omega) ?_
        intro T194 h194 lo194 X194 e194 N194 W194 V194 z194
        have V195 : Arv Z h194 b158 k158 .byte (3 : Int32) [(.int (((p3.toInt8.toInt32) ^^^ (-1 : Int32)).toInt8.toInt32)), (.int (((p3.toUInt32 >>> ((8 : Int32) &&& 31).toUInt32).toInt32).toInt8.toInt32)), (.int (((p3.toUInt32 >>> ((16 : Int32) &&& 31).toUInt32).toInt32).toInt8.toInt32))] (.int 0) := V194
        have sf196 := (Cn187.safe (own_ll (by omega)) (Safe.ext E174 C173.1 (Safe.wr W170 sf172 C169.1 sf172)))
        have C197 := C190.trans (CHr.wr W194 sf196 C190.1)
        refine own_aload X194.here hx hby at_448 rfl rfl ?_
        have f198 := (P187_1.other W194 (Or.inl (own_nn (by omega))))
        have f199 := (P187_3.wr W194)
        have f200 := (P187_4.other W194 (own_nn (by omega)))
        have z202 : n0 ≤ h194.size := by omega
        have f203 := (P187_0.wr W194)
        refine own_virtual X194 hx hZ187 hown187 (own_w hw 19 rfl) (own_w hw 20 rfl) (notFace_of_selects (args := #[]) (mvT hZ187 (own_w hw 22 rfl))) (own_w hw 22 rfl) (own_w hw 21 rfl) (own_w hw 3 rfl) (own_w hw 23 rfl) (by decide) (binV_3 l Z a0 hw [] b174 bc_187 kc_187 (p3.toInt8.toInt32) (((p3.toUInt32 >>> ((8 : Int32) &&& 31).toUInt32).toInt32).toInt8.toInt32) (((p3.toUInt32 >>> ((16 : Int32) &&& 31).toUInt32).toInt32).toInt8.toInt32) h194 n0 z202 f198 f199 f200) 0 (Nat.le_of_eq rfl) (by decide) (by decide) (by rw [hml]; rfl) (argsL := []) (st := []) f203 (lenOf pd_11 rfl) rfl rfl (by decide) (by decide) e194 hby at_450 ?_
        intro T201 v201 L201 X201 hQ201
        obtain ⟨r_201, kr_201, rfl, Nq201, K201, P201_0, P201_1, P201_2⟩ := hQ201
        have N201 := Fr.app N194 Nq201
        have z204 : h194.size ≤ T201.heap.size := K201.1
        have C205 := C197.trans (CHr.keep K201 sf0 C197.1)
        have lt206 : T201.heap.size > r_201 := P201_1.lt
        refine own_sh (T := T201) 453 #[.val (.int p1), .val (.int p2), .val (.int p3), .val (.int p4), .val (.int (p2 &&& (255 : Int32))), .val (.int (p1 &&& (7 : Int32))), .val (.ref x), .val (.int 1), .val (.int (p3.toInt8.toInt32)), .val (.int (((p3.toUInt32 >>> ((8 : Int32) &&& 31).toUInt32).toInt32).toInt8.toInt32)), .val (.int (((p3.toUInt32 >>> ((16 : Int32) &&& 31).toUInt32).toInt32).toInt8.toInt32)), .val (.int 3), .val (.int 0), .val (.ref b158), .val (.ref b174), .unset, .unset] [(.ref r_201)] ?_
        refine own_astore X201.here hx hby at_453 rfl (l' := #[.val (.int p1), .val (.int p2), .val (.int p3), .val (.int p4), .val (.int (p2 &&& (255 : Int32))), .val (.int (p1 &&& (7 : Int32))), .val (.ref x), .val (.int 1), .val (.int (p3.toInt8.toInt32)), .val (.int (((p3.toUInt32 >>> ((8 : Int32) &&& 31).toUInt32).toInt32).toInt8.toInt32)), .val (.int (((p3.toUInt32 >>> ((16 : Int32) &&& 31).toUInt32).toInt32).toInt8.toInt32)), .val (.int 3), .val (.int 0), .val (.ref b158), .val (.ref b174), .val (.ref r_201), .unset]) rfl ?_
        refine own_iload X201.here hx hby at_455 rfl ?_
        refine own_ifNo X201.here hx hby at_457 ((if0 _ _).trans (feq (show ¬ ((1 : Int32) = (0 : Int32)) from (by decide))).1) ?_
        refine own_aload X201.here hx hby at_460 rfl rfl ?_
        refine own_ifnonnullYes X201.here hx hby (pc' := 476) at_462 (by decide) (by decide) ?_
        refine own_aload X201.here hx hby at_476 rfl rfl ?_
        refine own_ifnullNo X201.here hx hby at_478 ?_
        refine own_aload X201.here hx hby at_481 rfl rfl ?_
        refine own_aload X201.here hx hby at_483 rfl rfl ?_
        refine own_acmp X201 hx (same := false) (pc' := 488) hby at_485 rfl rfl (decide_eq_false fun q => absurd (Value.ref.inj q) (own_nn (by omega))) (by decide) (by decide) ?_
        refine own_aload X201.here hx hby at_488 rfl rfl ?_
        refine own_alen X201 hx hZ187 rfl P201_2 hby at_490 ?_
        refine own_iload X201.here hx hby at_491 rfl ?_
        refine own_icmpYes X201.here hx hby (pc' := 498) at_493 (teq (show (3 : Int32) = (3 : Int32) from (by decide))).1 (by decide) (by decide) ?_
        refine own_iload X201.here hx hby at_498 rfl ?_
        refine own_iconst X201.here hx hby at_500 (v := (1 : Int32)) (by decide) ?_
        refine own_icmpNo X201.here hx hby at_501 (flt (show ¬ ((3 : Int32) < (1 : Int32)) from (by decide))).1 ?_
        refine own_aload X201.here hx hby at_504 rfl rfl ?_
        refine own_iconst X201.here hx hby at_506 (v := (0 : Int32)) (by decide) ?_
        refine own_baload X201 hx hZ187 rfl P201_2 ⟨by decide, by decide⟩ (v := (.int (p3.toInt8.toInt32))) rfl hby at_507 ?_
        refine own_iload X201.here hx hby at_508 rfl ?_
        refine own_icmpNo X201.here hx hby at_510 (teq (show (p3.toInt8.toInt32) = (p3.toInt8.toInt32) from rfl)).2 ?_
        refine own_iload X201.here hx hby at_513 rfl ?_
        refine own_iconst X201.here hx hby at_515 (v := (2 : Int32)) (by decide) ?_
        refine own_icmpNo X201.here hx hby at_516 (flt (show ¬ ((3 : Int32) < (2 : Int32)) from (by decide))).1 ?_
        refine own_aload X201.here hx hby at_519 rfl rfl ?_
        refine own_iconst X201.here hx hby at_521 (v := (1 : Int32)) (by decide) ?_
        refine own_baload X201 hx hZ187 rfl P201_2 ⟨by decide, by decide⟩ (v := (.int (((p3.toUInt32 >>> ((8 : Int32) &&& 31).toUInt32).toInt32).toInt8.toInt32))) rfl hby at_522 ?_
        refine own_iload X201.here hx hby at_523 rfl ?_
        refine own_icmpNo X201.here hx hby at_525 (teq (show (((p3.toUInt32 >>> ((8 : Int32) &&& 31).toUInt32).toInt32).toInt8.toInt32) = (((p3.toUInt32 >>> ((8 : Int32) &&& 31).toUInt32).toInt32).toInt8.toInt32) from rfl)).2 ?_
        refine own_iload X201.here hx hby at_528 rfl ?_
        refine own_iconst X201.here hx hby at_530 (v := (3 : Int32)) (by decide) ?_
        refine own_icmpNo X201.here hx hby at_531 (flt (show ¬ ((3 : Int32) < (3 : Int32)) from (by decide))).1 ?_
        refine own_aload X201.here hx hby at_534 rfl rfl ?_
        refine own_iconst X201.here hx hby at_536 (v := (2 : Int32)) (by decide) ?_
        refine own_baload X201 hx hZ187 rfl P201_2 ⟨by decide, by decide⟩ (v := (.int (((p3.toUInt32 >>> ((16 : Int32) &&& 31).toUInt32).toInt32).toInt8.toInt32))) rfl hby at_537 ?_
        refine own_iload X201.here hx hby at_538 rfl ?_
        refine own_icmpYes X201.here hx hby (pc' := 545) at_540 (teq (show (((p3.toUInt32 >>> ((16 : Int32) &&& 31).toUInt32).toInt32).toInt8.toInt32) = (((p3.toUInt32 >>> ((16 : Int32) &&& 31).toUInt32).toInt32).toInt8.toInt32) from rfl)).1 (by decide) (by decide) ?_
        refine own_iload X201.here hx hby at_545 rfl ?_
        refine own_ifNo X201.here hx hby at_547 ((if0 _ _).trans (tlt (show (0 : Int32) < (3 : Int32) from (by decide))).2.2.2) ?_
        refine own_aload X201.here hx hby at_550 rfl rfl ?_
        refine own_iconst X201.here hx hby at_552 (v := (0 : Int32)) (by decide) ?_
        refine own_iload X201.here hx hby at_553 rfl ?_
        refine own_iconst X201.here hx hby at_555 (v := (-1 : Int32)) (by decide) ?_
        refine own_ixor X201.here hx hby at_556 rfl ?_
        refine own_i2b X201.here hx hby at_557 rfl ?_
        refine own_bastore X201 hx hZ187 rfl P201_2 ⟨by decide, by decide⟩ 0 (by decide) (Nat.le_of_ble_eq_true rfl) (w := (.int (((p3.toInt8.toInt32) ^^^ (-1 : Int32)).toInt8.toInt32))) (congrArg Value.int (own_i2bb ((p3.toInt8.toInt32) ^^^ (-1 : Int32)))) hby at_558 N201 (by omega) ?_
        intro T207 h207 lo207 X207 e207 N207 W207 V207 z207
        have V208 : Arv Z h207 r_201 kr_201 .byte (3 : Int32) [(.int (((p3.toInt8.toInt32) ^^^ (-1 : Int32)).toInt8.toInt32)), (.int (((p3.toUInt32 >>> ((8 : Int32) &&& 31).toUInt32).toInt32).toInt8.toInt32)), (.int (((p3.toUInt32 >>> ((16 : Int32) &&& 31).toUInt32).toInt32).toInt8.toInt32))] (.int 0) := V207
        have sf209 := (Safe.keep K201 sf0 C197.1 (Safe.new (h := h194) (x := r_201) (by omega)))
        have C210 := C205.trans (CHr.wr W207 sf209 C205.1)
        refine own_aload X207.here hx hby at_559 rfl rfl ?_
        have f211 := ((f198.keep K201 nin0).other W207 (Or.inl (own_nn (by omega))))
        have f212 := ((f199.keep K201).wr W207)
        have f213 := ((f200.keep K201 nin0).other W207 (own_nn (by omega)))
        have z215 : n0 ≤ h207.size := by omega
        have f216 := ((f203.keep K201).wr W207)
        refine own_virtual X207 hx hZ187 hown187 (own_w hw 19 rfl) (own_w hw 20 rfl) (notFace_of_selects (args := #[]) (mvT hZ187 (own_w hw 22 rfl))) (own_w hw 22 rfl) (own_w hw 21 rfl) (own_w hw 3 rfl) (own_w hw 23 rfl) (by decide) (binV_3 l Z a0 hw [] b174 bc_187 kc_187 (p3.toInt8.toInt32) (((p3.toUInt32 >>> ((8 : Int32) &&& 31).toUInt32).toInt32).toInt8.toInt32) (((p3.toUInt32 >>> ((16 : Int32) &&& 31).toUInt32).toInt32).toInt8.toInt32) h207 n0 z215 f211 f212 f213) 0 (Nat.le_of_eq rfl) (by decide) (by decide) (by rw [hml]; rfl) (argsL := []) (st := []) f216 (lenOf pd_11 rfl) rfl rfl (by decide) (by decide) e207 hby at_561 ?_
        intro T214 v214 L214 X214 hQ214
        obtain ⟨r_214, kr_214, rfl, Nq214, K214, P214_0, P214_1, P214_2⟩ := hQ214
        have N214 := Fr.app N207 Nq214
        have z217 : h207.size ≤ T214.heap.size := K214.1
        have C218 := C210.trans (CHr.keep K214 sf0 C210.1)
        have lt219 : T214.heap.size > r_214 := P214_1.lt
        refine own_sh (T := T214) 564 #[.val (.int p1), .val (.int p2), .val (.int p3), .val (.int p4), .val (.int (p2 &&& (255 : Int32))), .val (.int (p1 &&& (7 : Int32))), .val (.ref x), .val (.int 1), .val (.int (p3.toInt8.toInt32)), .val (.int (((p3.toUInt32 >>> ((8 : Int32) &&& 31).toUInt32).toInt32).toInt8.toInt32)), .val (.int (((p3.toUInt32 >>> ((16 : Int32) &&& 31).toUInt32).toInt32).toInt8.toInt32)), .val (.int 3), .val (.int 0), .val (.ref b158), .val (.ref b174), .val (.ref r_201), .unset] [(.ref r_214)] ?_
        refine own_astore X214.here hx hby at_564 rfl (l' := #[.val (.int p1), .val (.int p2), .val (.int p3), .val (.int p4), .val (.int (p2 &&& (255 : Int32))), .val (.int (p1 &&& (7 : Int32))), .val (.ref x), .val (.int 1), .val (.int (p3.toInt8.toInt32)), .val (.int (((p3.toUInt32 >>> ((8 : Int32) &&& 31).toUInt32).toInt32).toInt8.toInt32)), .val (.int (((p3.toUInt32 >>> ((16 : Int32) &&& 31).toUInt32).toInt32).toInt8.toInt32)), .val (.int 3), .val (.int 0), .val (.ref b158), .val (.ref b174), .val (.ref r_201), .val (.ref r_214)]) rfl ?_
        refine own_aload X214.here hx hby at_566 rfl rfl ?_
        refine own_ifnullNo X214.here hx hby at_568 ?_
        refine own_aload X214.here hx hby at_571 rfl rfl ?_
        refine own_aload X214.here hx hby at_573 rfl rfl ?_
        refine own_acmp X214 hx (same := false) (pc' := 578) hby at_575 rfl rfl (decide_eq_false fun q => absurd (Value.ref.inj q) (own_nn (by omega))) (by decide) (by decide) ?_
        refine own_aload X214.here hx hby at_578 rfl rfl ?_
        refine own_aload X214.here hx hby at_580 rfl rfl ?_
        refine own_acmp X214 hx (same := false) (pc' := 585) hby at_582 rfl rfl (decide_eq_false fun q => absurd (Value.ref.inj q) (own_nn (by omega))) (by decide) (by decide) ?_
        refine own_aload X214.here hx hby at_585 rfl rfl ?_
        refine own_alen X214 hx hZ187 rfl P214_2 hby at_587 ?_
        refine own_iload X214.here hx hby at_588 rfl ?_
        refine own_icmpYes X214.here hx hby (pc' := 595) at_590 (teq (show (3 : Int32) = (3 : Int32) from (by decide))).1 (by decide) (by decide) ?_
        refine own_iload X214.here hx hby at_595 rfl ?_
        refine own_iconst X214.here hx hby at_597 (v := (1 : Int32)) (by decide) ?_
        refine own_icmpNo X214.here hx hby at_598 (flt (show ¬ ((3 : Int32) < (1 : Int32)) from (by decide))).1 ?_
        refine own_aload X214.here hx hby at_601 rfl rfl ?_
        refine own_iconst X214.here hx hby at_603 (v := (0 : Int32)) (by decide) ?_
        refine own_baload X214 hx hZ187 rfl P214_2 ⟨by decide, by decide⟩ (v := (.int (p3.toInt8.toInt32))) rfl hby at_604 ?_
        refine own_iload X214.here hx hby at_605 rfl ?_
        refine own_icmpNo X214.here hx hby at_607 (teq (show (p3.toInt8.toInt32) = (p3.toInt8.toInt32) from rfl)).2 ?_
        refine own_iload X214.here hx hby at_610 rfl ?_
        refine own_iconst X214.here hx hby at_612 (v := (2 : Int32)) (by decide) ?_
        refine own_icmpNo X214.here hx hby at_613 (flt (show ¬ ((3 : Int32) < (2 : Int32)) from (by decide))).1 ?_
        refine own_aload X214.here hx hby at_616 rfl rfl ?_
        refine own_iconst X214.here hx hby at_618 (v := (1 : Int32)) (by decide) ?_
        refine own_baload X214 hx hZ187 rfl P214_2 ⟨by decide, by decide⟩ (v := (.int (((p3.toUInt32 >>> ((8 : Int32) &&& 31).toUInt32).toInt32).toInt8.toInt32))) rfl hby at_619 ?_
        refine own_iload X214.here hx hby at_620 rfl ?_
        refine own_icmpNo X214.here hx hby at_622 (teq (show (((p3.toUInt32 >>> ((8 : Int32) &&& 31).toUInt32).toInt32).toInt8.toInt32) = (((p3.toUInt32 >>> ((8 : Int32) &&& 31).toUInt32).toInt32).toInt8.toInt32) from rfl)).2 ?_
        refine own_iload X214.here hx hby at_625 rfl ?_
        refine own_iconst X214.here hx hby at_627 (v := (3 : Int32)) (by decide) ?_
        refine own_icmpNo X214.here hx hby at_628 (flt (show ¬ ((3 : Int32) < (3 : Int32)) from (by decide))).1 ?_
        refine own_aload X214.here hx hby at_631 rfl rfl ?_
        refine own_iconst X214.here hx hby at_633 (v := (2 : Int32)) (by decide) ?_
        refine own_baload X214 hx hZ187 rfl P214_2 ⟨by decide, by decide⟩ (v := (.int (((p3.toUInt32 >>> ((16 : Int32) &&& 31).toUInt32).toInt32).toInt8.toInt32))) rfl hby at_634 ?_
        refine own_iload X214.here hx hby at_635 rfl ?_
        refine own_icmpNo X214.here hx hby at_637 (teq (show (((p3.toUInt32 >>> ((16 : Int32) &&& 31).toUInt32).toInt32).toInt8.toInt32) = (((p3.toUInt32 >>> ((16 : Int32) &&& 31).toUInt32).toInt32).toInt8.toInt32) from rfl)).2 ?_
        refine own_iconst X214.here hx hby at_640 (v := (1 : Int32)) (by decide) ?_
        refine own_goto X214.here hx hby (pc' := 645) at_641 (by decide) (by decide) ?_
        obtain ⟨fs, hr, hrun, hended, hRW⟩ := X214.leaveW hS187 (by omega) (v := some (.int 1)) (fun h => by rw [Bd.returns] at h; cases h)
        have hCf : CHr Z consts_1 s.vm s.heap T214.vm T214.heap := by
          rw [hh]
          exact C218.trans (CHv.at X214 hZ187 hEL C218.1)
        refine own_ret (t := T214.setFrames fs) ?_ ⟨_, hrun, hended, _, _, rfl, ?_, hCf, hRW.1, hRW.2.1, hRW.2.2.1, hRW.2.2.2.mono (by decide) (by decide)⟩
        · exact retN X214 hx (t := .boolean) Bd.returns (by simp) (hb hby at_645) hr
        · show Q_rm0 Z _ _ _ _ _ h0 n0 _ T214.heap _
          exact ⟨rfl, N214, trivial⟩
    · refine own_ifNo Xc5.here hx hby at_318 ((if0 _ _).trans (feq hc318_8).1) ?_
      refine own_iconst Xc5.here hx hby at_321 (v := (1 : Int32)) (by decide) ?_
      refine own_goto Xc5.here hx hby (pc' := 326) at_322 (by decide) (by decide) ?_
      refine own_istore Xc5.here hx hby at_326 (l' := #[.val (.int p1), .val (.int p2), .val (.int p3), .val (.int p4), .val (.int (p2 &&& (255 : Int32))), .val (.int (p1 &&& (7 : Int32))), .val (.ref x), .val (.int 1), .val (.int (p3.toInt8.toInt32)), .val (.int (((p3.toUInt32 >>> ((8 : Int32) &&& 31).toUInt32).toInt32).toInt8.toInt32)), .val (.int (((p3.toUInt32 >>> ((16 : Int32) &&& 31).toUInt32).toInt32).toInt8.toInt32)), .val (.int (p4 &&& (3 : Int32))), .val (.int 1), .unset, .unset, .unset, .unset]) rfl ?_
      refine own_iload Xc5.here hx hby at_328 rfl ?_
      refine own_ifNo Xc5.here hx hby at_330 ((if0 _ _).trans (feq (show ¬ ((1 : Int32) = (0 : Int32)) from (by decide))).1) ?_
      refine own_aconstNull Xc5.here hx hby at_333 ?_
      refine own_astore Xc5.here hx hby at_334 rfl (l' := #[.val (.int p1), .val (.int p2), .val (.int p3), .val (.int p4), .val (.int (p2 &&& (255 : Int32))), .val (.int (p1 &&& (7 : Int32))), .val (.ref x), .val (.int 1), .val (.int (p3.toInt8.toInt32)), .val (.int (((p3.toUInt32 >>> ((8 : Int32) &&& 31).toUInt32).toInt32).toInt8.toInt32)), .val (.int (((p3.toUInt32 >>> ((16 : Int32) &&& 31).toUInt32).toInt32).toInt8.toInt32)), .val (.int (p4 &&& (3 : Int32))), .val (.int 1), .val .null, .unset, .unset, .unset]) rfl ?_
      refine own_goto Xc5.here hx hby (pc' := 415) at_336 (by decide) (by decide) ?_
      refine own_newO Xc5 hx hZc5 hownc5 (own_w hw 1 rfl) (own_w hw 2 rfl) (own_w hw 3 rfl) ec5 hby at_415 (by decide) (by decide) ?_
      intro T220 h220 b220 X220 e220 E220 g220 A220 D220 lt220
      have z221 : hc5.size ≤ h220.size := E220.1
      have C222 := Cc5.trans (CHr.ext E220 Cc5.1)
      have F223 : Fld Z h220 b220 "com/example/sluice/sluice/MessageAttribute" "dataType" "Ljava/lang/String;" .null := D220 (Or.inr (own_w hw 11 rfl)) (ty := (.object "java/lang/String")) (by decide)
      have F224 : Fld Z h220 b220 "com/example/sluice/sluice/MessageAttribute" "stringValue" "Ljava/lang/String;" .null := D220 (Or.inr (own_w hw 16 rfl)) (ty := (.object "java/lang/String")) (by decide)
      have F225 : Fld Z h220 b220 "com/example/sluice/sluice/MessageAttribute" "binaryValue" "[B" .null := D220 (Or.inr (own_w hw 18 rfl)) (ty := (.array .byte)) (by decide)
      refine own_dup X220.here hx hby at_418 rfl ?_
      refine own_aload X220.here hx hby at_419 rfl rfl ?_
      refine own_aconstNull X220.here hx hby at_421 ?_
      refine own_aload X220.here hx hby at_422 rfl rfl ?_
      have f226 := (E_x.ext E220)
      have f227 := (Fc_x.ext E220)
      have f228 := (Fv_x.ext E220)
      have f229 := (V_t.ext E220)
      have f230 := (S_C.ext E220)
      have z232 : n0 ≤ h220.size := by omega
      refine own_specialH X220 hx hZc5 hEL rfl hownc5 (own_w hw 4 rfl) (own_w hw 5 rfl) (own_w hw 3 rfl) (own_w hw 6 rfl) (by decide) (maInit_B_null l Z a0 hw [] b220 x t kt n vs_ zc h220 n0 z232 A220 (by omega) F223 F224 F225 f226 f227 f228 f229 f230 hz hK) 1 (Nat.le_of_eq rfl) (by decide) (by decide) (by rw [hml]; rfl) (argsL := [(.ref x), .null, .null]) (st := [(.ref b220)]) (a := b220) (lenOf pd_10 rfl) rfl rfl (by decide) (by decide) e220 hby C222.1 hSc5 (by omega) at_424 ?_
      intro T231 v231 L231 vm231 X231 hS231 hZ231 hown231 hg231 Cn231 hQ231
      obtain ⟨rfl, Nq231, K231, P231_0, P231_1⟩ := hQ231
      have N231 := Fr.app Nc5 Nq231
      have z233 : h220.size ≤ T231.heap.size := K231.1
      have C234 := C222.trans Cn231
      have lt235 : T231.heap.size > b220 := P231_0.lt
      refine own_sh (T := T231) 427 #[.val (.int p1), .val (.int p2), .val (.int p3), .val (.int p4), .val (.int (p2 &&& (255 : Int32))), .val (.int (p1 &&& (7 : Int32))), .val (.ref x), .val (.int 1), .val (.int (p3.toInt8.toInt32)), .val (.int (((p3.toUInt32 >>> ((8 : Int32) &&& 31).toUInt32).toInt32).toInt8.toInt32)), .val (.int (((p3.toUInt32 >>> ((16 : Int32) &&& 31).toUInt32).toInt32).toInt8.toInt32)), .val (.int (p4 &&& (3 : Int32))), .val (.int 1), .val .null, .unset, .unset, .unset] [(.ref b220)] ?_
      refine own_astore X231.here hx hby at_427 rfl (l' := #[.val (.int p1), .val (.int p2), .val (.int p3), .val (.int p4), .val (.int (p2 &&& (255 : Int32))), .val (.int (p1 &&& (7 : Int32))), .val (.ref x), .val (.int 1), .val (.int (p3.toInt8.toInt32)), .val (.int (((p3.toUInt32 >>> ((8 : Int32) &&& 31).toUInt32).toInt32).toInt8.toInt32)), .val (.int (((p3.toUInt32 >>> ((16 : Int32) &&& 31).toUInt32).toInt32).toInt8.toInt32)), .val (.int (p4 &&& (3 : Int32))), .val (.int 1), .val .null, .val (.ref b220), .unset, .unset]) rfl ?_
      refine own_aload X231.here hx hby at_429 rfl rfl ?_
      refine own_ifnullYes X231.here hx hby (pc' := 448) at_431 (by decide) (by decide) ?_
      refine own_aload X231.here hx hby at_448 rfl rfl ?_
      have z237 : n0 ≤ T231.heap.size := by omega
      refine own_virtual X231 hx hZ231 hown231 (own_w hw 19 rfl) (own_w hw 20 rfl) (notFace_of_selects (args := #[]) (mvT hZ231 (own_w hw 22 rfl))) (own_w hw 22 rfl) (own_w hw 21 rfl) (own_w hw 3 rfl) (own_w hw 23 rfl) (by decide) (binV_null l Z a0 hw [] b220 T231.heap n0 z237 P231_1) 0 (Nat.le_of_eq rfl) (by decide) (by decide) (by rw [hml]; rfl) (argsL := []) (st := []) P231_0 (lenOf pd_11 rfl) rfl rfl (by decide) (by decide) rfl hby at_450 ?_
      intro T236 v236 L236 X236 hQ236
      obtain ⟨rfl, Nq236, eh236⟩ := hQ236
      have N236 := Fr.app N231 Nq236
      refine own_sh (T := T236) 453 #[.val (.int p1), .val (.int p2), .val (.int p3), .val (.int p4), .val (.int (p2 &&& (255 : Int32))), .val (.int (p1 &&& (7 : Int32))), .val (.ref x), .val (.int 1), .val (.int (p3.toInt8.toInt32)), .val (.int (((p3.toUInt32 >>> ((8 : Int32) &&& 31).toUInt32).toInt32).toInt8.toInt32)), .val (.int (((p3.toUInt32 >>> ((16 : Int32) &&& 31).toUInt32).toInt32).toInt8.toInt32)), .val (.int (p4 &&& (3 : Int32))), .val (.int 1), .val .null, .val (.ref b220), .unset, .unset] [.null] ?_
      refine own_astore X236.here hx hby at_453 rfl (l' := #[.val (.int p1), .val (.int p2), .val (.int p3), .val (.int p4), .val (.int (p2 &&& (255 : Int32))), .val (.int (p1 &&& (7 : Int32))), .val (.ref x), .val (.int 1), .val (.int (p3.toInt8.toInt32)), .val (.int (((p3.toUInt32 >>> ((8 : Int32) &&& 31).toUInt32).toInt32).toInt8.toInt32)), .val (.int (((p3.toUInt32 >>> ((16 : Int32) &&& 31).toUInt32).toInt32).toInt8.toInt32)), .val (.int (p4 &&& (3 : Int32))), .val (.int 1), .val .null, .val (.ref b220), .val .null, .unset]) rfl ?_
      refine own_iload X236.here hx hby at_455 rfl ?_
      refine own_ifNo X236.here hx hby at_457 ((if0 _ _).trans (feq (show ¬ ((1 : Int32) = (0 : Int32)) from (by decide))).1) ?_
      refine own_aload X236.here hx hby at_460 rfl rfl ?_
      refine own_ifnonnullNo X236.here hx hby at_462 ?_
      refine own_aload X236.here hx hby at_465 rfl rfl ?_
      refine own_ifnonnullNo X236.here hx hby at_467 ?_
      refine own_iconst X236.here hx hby at_470 (v := (1 : Int32)) (by decide) ?_
      refine own_goto X236.here hx hby (pc' := 475) at_471 (by decide) (by decide) ?_
      obtain ⟨fs, hr, hrun, hended, hRW⟩ := X236.leaveW hS231 (by rw [eh236]; omega) (v := some (.int 1)) (fun h => by rw [Bd.returns] at h; cases h)
      have hCf : CHr Z consts_1 s.vm s.heap T236.vm T236.heap := by
        rw [hh, eh236]
        exact C234.trans (CHv.at X236 hZ231 hEL C234.1)
      refine own_ret (t := T236.setFrames fs) ?_ ⟨_, hrun, hended, _, _, rfl, ?_, hCf, hRW.1, hRW.2.1, hRW.2.2.1, hRW.2.2.2.mono (by decide) (by decide)⟩
      · exact retN X236 hx (t := .boolean) Bd.returns (by simp) (hb hby at_475) hr
      · show Q_rm0 Z _ _ _ _ _ h0 n0 _ T236.heap _
        rw [eh236]
        exact ⟨rfl, N236, trivial⟩
  · intro J238
    refine own_sh (T := s₁) 14 #[.val (.int p1), .val (.int p2), .val (.int p3), .val (.int p4), .val (.int (p2 &&& (255 : Int32))), .val (.int (p1 &&& (7 : Int32))), .unset, .unset, .unset, .unset, .unset, .unset, .unset, .unset, .unset, .unset, .unset] [] ?_
    refine own_cut (fun Pq => ∀ (Tc239 : State) (hc239 : Heap) (loc239 : List Loc) (vmc239 : Vm) (kc239 : Nat) (x : Nat) (t : Nat) (kt : ClassId) (n : Int32) (vs_ : List Value) (Xc239 : Stand p l e room_1 (s.setVm vmc239) m #[(.int p1), (.int p2), (.int p3), (.int p4)] below meth c Tc239 loc239 12 400) (ec239 : Tc239.heap = hc239) (Nc239 : Fr n0 loc239) (zc239 : n0 ≤ hc239.size) (yc239 : h0.size ≤ hc239.size) (hSc239 : s.Since vmc239 kc239) (hkc239 : kc239 ≤ hc239.size) (hZc239 : Z.Warmed39 vmc239) (hownc239 : vmc239.findClass "com/example/sluice/sluice/MessageAttributeBinaryValuePinLaw" = some m.cls) (Cc239 : CHr Z consts_1 s.vm h0 vmc239 hc239) (E_x : Exa Z hc239 x "java/lang/String") (Fc_x : Fld Z hc239 x "java/lang/String" "coder" "B" (.int 0)) (Fv_x : Fld Z hc239 x "java/lang/String" "value" "[B" (.ref t)) (V_t : Arv Z hc239 t kt .byte n vs_ (.int 0)) (S_C : Sta Z hc239 "java/lang/String" "COMPACT_STRINGS" "Z" (.int zc)) (hK : own_kindN n vs_), own_Go p.tables e below Pq (Tc239.setTop (mkF m 292 #[.val (.int p1), .val (.int p2), .val (.int p3), .val (.int p4), .val (.int (p2 &&& (255 : Int32))), .val (.int (p1 &&& (7 : Int32))), .val (.ref x), .val (.int 0), .unset, .unset, .unset, .unset, .unset, .unset, .unset, .unset, .unset] []))) ?_ ?_
    · intro Tc239 hc239 loc239 vmc239 kc239 x t kt n vs_ Xc239 ec239 Nc239 zc239 yc239 hSc239 hkc239 hZc239 hownc239 Cc239 E_x Fc_x Fv_x V_t S_C hK
      have lt240 : hc239.size > x := E_x.lt
      have lt241 : hc239.size > t := V_t.lt
      refine own_iloadN Xc239.here hx hby at_292 rfl ?_
      refine own_i2b Xc239.here hx hby at_293 rfl ?_
      refine own_istore Xc239.here hx hby at_294 (l' := #[.val (.int p1), .val (.int p2), .val (.int p3), .val (.int p4), .val (.int (p2 &&& (255 : Int32))), .val (.int (p1 &&& (7 : Int32))), .val (.ref x), .val (.int 0), .val (.int (p3.toInt8.toInt32)), .unset, .unset, .unset, .unset, .unset, .unset, .unset, .unset]) rfl ?_
      refine own_iloadN Xc239.here hx hby at_296 rfl ?_
      refine own_bipush Xc239.here hx hby at_297 (v := (8 : Int32)) (by decide) ?_
      refine own_iushr Xc239.here hx hby at_299 rfl ?_
      refine own_i2b Xc239.here hx hby at_300 rfl ?_
      refine own_istore Xc239.here hx hby at_301 (l' := #[.val (.int p1), .val (.int p2), .val (.int p3), .val (.int p4), .val (.int (p2 &&& (255 : Int32))), .val (.int (p1 &&& (7 : Int32))), .val (.ref x), .val (.int 0), .val (.int (p3.toInt8.toInt32)), .val (.int (((p3.toUInt32 >>> ((8 : Int32) &&& 31).toUInt32).toInt32).toInt8.toInt32)), .unset, .unset, .unset, .unset, .unset, .unset, .unset]) rfl ?_
      refine own_iloadN Xc239.here hx hby at_303 rfl ?_
      refine own_bipush Xc239.here hx hby at_304 (v := (16 : Int32)) (by decide) ?_
      refine own_iushr Xc239.here hx hby at_306 rfl ?_
      refine own_i2b Xc239.here hx hby at_307 rfl ?_
      refine own_istore Xc239.here hx hby at_308 (l' := #[.val (.int p1), .val (.int p2), .val (.int p3), .val (.int p4), .val (.int (p2 &&& (255 : Int32))), .val (.int (p1 &&& (7 : Int32))), .val (.ref x), .val (.int 0), .val (.int (p3.toInt8.toInt32)), .val (.int (((p3.toUInt32 >>> ((8 : Int32) &&& 31).toUInt32).toInt32).toInt8.toInt32)), .val (.int (((p3.toUInt32 >>> ((16 : Int32) &&& 31).toUInt32).toInt32).toInt8.toInt32)), .unset, .unset, .unset, .unset, .unset, .unset]) rfl ?_
      refine own_iloadN Xc239.here hx hby at_310 rfl ?_
      refine own_iconst Xc239.here hx hby at_311 (v := (3 : Int32)) (by decide) ?_
      refine own_iand Xc239.here hx hby at_312 rfl ?_
      refine own_istore Xc239.here hx hby at_313 (l' := #[.val (.int p1), .val (.int p2), .val (.int p3), .val (.int p4), .val (.int (p2 &&& (255 : Int32))), .val (.int (p1 &&& (7 : Int32))), .val (.ref x), .val (.int 0), .val (.int (p3.toInt8.toInt32)), .val (.int (((p3.toUInt32 >>> ((8 : Int32) &&& 31).toUInt32).toInt32).toInt8.toInt32)), .val (.int (((p3.toUInt32 >>> ((16 : Int32) &&& 31).toUInt32).toInt32).toInt8.toInt32)), .val (.int (p4 &&& (3 : Int32))), .unset, .unset, .unset, .unset, .unset]) rfl ?_
      refine own_iloadN Xc239.here hx hby at_315 rfl ?_
      refine own_iconst Xc239.here hx hby at_316 (v := (4 : Int32)) (by decide) ?_
      refine own_iand Xc239.here hx hby at_317 rfl ?_
      by_cases hc318_242 : (p4 &&& (4 : Int32)) = (0 : Int32)
      · refine own_ifYes Xc239.here hx hby (pc' := 325) at_318 ((if0 _ _).trans (teq hc318_242).1) (by decide) (by decide) ?_
        refine own_iconst Xc239.here hx hby at_325 (v := (0 : Int32)) (by decide) ?_
        refine own_istore Xc239.here hx hby at_326 (l' := #[.val (.int p1), .val (.int p2), .val (.int p3), .val (.int p4), .val (.int (p2 &&& (255 : Int32))), .val (.int (p1 &&& (7 : Int32))), .val (.ref x), .val (.int 0), .val (.int (p3.toInt8.toInt32)), .val (.int (((p3.toUInt32 >>> ((8 : Int32) &&& 31).toUInt32).toInt32).toInt8.toInt32)), .val (.int (((p3.toUInt32 >>> ((16 : Int32) &&& 31).toUInt32).toInt32).toInt8.toInt32)), .val (.int (p4 &&& (3 : Int32))), .val (.int 0), .unset, .unset, .unset, .unset]) rfl ?_
        refine own_iload Xc239.here hx hby at_328 rfl ?_
        refine own_ifYes Xc239.here hx hby (pc' := 339) at_330 ((if0 _ _).trans (teq (show (0 : Int32) = (0 : Int32) from (by decide))).1) (by decide) (by decide) ?_
        refine own_sh (T := Tc239) 339 #[.val (.int p1), .val (.int p2), .val (.int p3), .val (.int p4), .val (.int (p2 &&& (255 : Int32))), .val (.int (p1 &&& (7 : Int32))), .val (.ref x), .val (.int 0), .val (.int (p3.toInt8.toInt32)), .val (.int (((p3.toUInt32 >>> ((8 : Int32) &&& 31).toUInt32).toInt32).toInt8.toInt32)), .val (.int (((p3.toUInt32 >>> ((16 : Int32) &&& 31).toUInt32).toInt32).toInt8.toInt32)), .val (.int (p4 &&& (3 : Int32))), .val (.int 0), .unset, .unset, .unset, .unset] [] ?_
        rcases own_and3 p4 with hk | hk | hk | hk
        · rw [hk]
          refine own_iload Xc239.here hx hby at_339 rfl ?_
          refine own_ifNo Xc239.here hx hby at_341 ((if0 _ _).trans (teq (show (0 : Int32) = (0 : Int32) from (by decide))).2) ?_
          refine own_iconst Xc239.here hx hby at_344 (v := (0 : Int32)) (by decide) ?_
          refine own_newP Xc239 hx hZc239 (aty := .byte) (own_w hw 0 rfl) ec239 hby at_345 (by decide) 0 (by decide) (by decide) (by decide) (by decide) (ad := "[B") (by decide) ?_
          intro T243 h243 k243 b243 X243 e243 E243 g243 V243 C243 lt243
          have z244 : hc239.size ≤ h243.size := E243.1
          have C245 := Cc239.trans (CHr.ext E243 Cc239.1)
          have V246 : Arv Z h243 b243 k243 .byte (0 : Int32) [] (.int 0) := V243
          refine own_astore X243.here hx hby at_347 rfl (l' := #[.val (.int p1), .val (.int p2), .val (.int p3), .val (.int p4), .val (.int (p2 &&& (255 : Int32))), .val (.int (p1 &&& (7 : Int32))), .val (.ref x), .val (.int 0), .val (.int (p3.toInt8.toInt32)), .val (.int (((p3.toUInt32 >>> ((8 : Int32) &&& 31).toUInt32).toInt32).toInt8.toInt32)), .val (.int (((p3.toUInt32 >>> ((16 : Int32) &&& 31).toUInt32).toInt32).toInt8.toInt32)), .val (.int 0), .val (.int 0), .val (.ref b243), .unset, .unset, .unset]) rfl ?_
          refine own_goto X243.here hx hby (pc' := 415) at_349 (by decide) (by decide) ?_
          refine own_newO X243 hx hZc239 hownc239 (own_w hw 1 rfl) (own_w hw 2 rfl) (own_w hw 3 rfl) e243 hby at_415 (by decide) (by decide) ?_
          intro T247 h247 b247 X247 e247 E247 g247 A247 D247 lt247
          have z248 : h243.size ≤ h247.size := E247.1
          have C249 := C245.trans (CHr.ext E247 C245.1)
          have F250 : Fld Z h247 b247 "com/example/sluice/sluice/MessageAttribute" "dataType" "Ljava/lang/String;" .null := D247 (Or.inr (own_w hw 11 rfl)) (ty := (.object "java/lang/String")) (by decide)
          have F251 : Fld Z h247 b247 "com/example/sluice/sluice/MessageAttribute" "stringValue" "Ljava/lang/String;" .null := D247 (Or.inr (own_w hw 16 rfl)) (ty := (.object "java/lang/String")) (by decide)
          have F252 : Fld Z h247 b247 "com/example/sluice/sluice/MessageAttribute" "binaryValue" "[B" .null := D247 (Or.inr (own_w hw 18 rfl)) (ty := (.array .byte)) (by decide)
          refine own_dup X247.here hx hby at_418 rfl ?_
          refine own_aload X247.here hx hby at_419 rfl rfl ?_
          refine own_aconstNull X247.here hx hby at_421 ?_
          refine own_aload X247.here hx hby at_422 rfl rfl ?_
          have f253 := ((E_x.ext E243).ext E247)
          have f254 := ((Fc_x.ext E243).ext E247)
          have f255 := ((Fv_x.ext E243).ext E247)
          have f256 := ((V_t.ext E243).ext E247)
          have f257 := ((S_C.ext E243).ext E247)
          have z259 : n0 ≤ h247.size := by omega
          refine own_specialH X247 hx hZc239 hEL rfl hownc239 (own_w hw 4 rfl) (own_w hw 5 rfl) (own_w hw 3 rfl) (own_w hw 6 rfl) (by decide) (maInit_N_any l Z a0 hw [] b247 x t kt n vs_ zc b243 h247 n0 z259 A247 (by omega) F250 F251 F252 f253 f254 f255 f256 f257 hz hK) 1 (Nat.le_of_eq rfl) (by decide) (by decide) (by rw [hml]; rfl) (argsL := [(.ref x), .null, (.ref b243)]) (st := [(.ref b247)]) (a := b247) (lenOf pd_10 rfl) rfl rfl (by decide) (by decide) e247 hby C249.1 hSc239 (by omega) at_424 ?_
          intro T258 v258 L258 vm258 X258 hS258 hZ258 hown258 hg258 Cn258 hQ258
          obtain ⟨rfl, Nq258, K258, P258_0, P258_1⟩ := hQ258
          have N258 := Fr.app Nc239 Nq258
          have z260 : h247.size ≤ T258.heap.size := K258.1
          have C261 := C249.trans Cn258
          have lt262 : T258.heap.size > b247 := P258_0.lt
          refine own_sh (T := T258) 427 #[.val (.int p1), .val (.int p2), .val (.int p3), .val (.int p4), .val (.int (p2 &&& (255 : Int32))), .val (.int (p1 &&& (7 : Int32))), .val (.ref x), .val (.int 0), .val (.int (p3.toInt8.toInt32)), .val (.int (((p3.toUInt32 >>> ((8 : Int32) &&& 31).toUInt32).toInt32).toInt8.toInt32)), .val (.int (((p3.toUInt32 >>> ((16 : Int32) &&& 31).toUInt32).toInt32).toInt8.toInt32)), .val (.int 0), .val (.int 0), .val (.ref b243), .unset, .unset, .unset] [(.ref b247)] ?_
          refine own_astore X258.here hx hby at_427 rfl (l' := #[.val (.int p1), .val (.int p2), .val (.int p3), .val (.int p4), .val (.int (p2 &&& (255 : Int32))), .val (.int (p1 &&& (7 : Int32))), .val (.ref x), .val (.int 0), .val (.int (p3.toInt8.toInt32)), .val (.int (((p3.toUInt32 >>> ((8 : Int32) &&& 31).toUInt32).toInt32).toInt8.toInt32)), .val (.int (((p3.toUInt32 >>> ((16 : Int32) &&& 31).toUInt32).toInt32).toInt8.toInt32)), .val (.int 0), .val (.int 0), .val (.ref b243), .val (.ref b247), .unset, .unset]) rfl ?_
          refine own_aload X258.here hx hby at_429 rfl rfl ?_
          refine own_ifnullNo X258.here hx hby at_431 ?_
          refine own_iload X258.here hx hby at_434 rfl ?_
          refine own_ifYes X258.here hx hby (pc' := 448) at_436 ((if0 _ _).trans (flt (show ¬ ((0 : Int32) < (0 : Int32)) from (by decide))).2.2.2) (by decide) (by decide) ?_
          refine own_aload X258.here hx hby at_448 rfl rfl ?_
          have z264 : n0 ≤ T258.heap.size := by omega
          refine own_virtual X258 hx hZ258 hown258 (own_w hw 19 rfl) (own_w hw 20 rfl) (notFace_of_selects (args := #[]) (mvT hZ258 (own_w hw 22 rfl))) (own_w hw 22 rfl) (own_w hw 21 rfl) (own_w hw 3 rfl) (own_w hw 23 rfl) (by decide) (binV_null l Z a0 hw [] b247 T258.heap n0 z264 P258_1) 0 (Nat.le_of_eq rfl) (by decide) (by decide) (by rw [hml]; rfl) (argsL := []) (st := []) P258_0 (lenOf pd_11 rfl) rfl rfl (by decide) (by decide) rfl hby at_450 ?_
          intro T263 v263 L263 X263 hQ263
          obtain ⟨rfl, Nq263, eh263⟩ := hQ263
          have N263 := Fr.app N258 Nq263
          refine own_sh (T := T263) 453 #[.val (.int p1), .val (.int p2), .val (.int p3), .val (.int p4), .val (.int (p2 &&& (255 : Int32))), .val (.int (p1 &&& (7 : Int32))), .val (.ref x), .val (.int 0), .val (.int (p3.toInt8.toInt32)), .val (.int (((p3.toUInt32 >>> ((8 : Int32) &&& 31).toUInt32).toInt32).toInt8.toInt32)), .val (.int (((p3.toUInt32 >>> ((16 : Int32) &&& 31).toUInt32).toInt32).toInt8.toInt32)), .val (.int 0), .val (.int 0), .val (.ref b243), .val (.ref b247), .unset, .unset] [.null] ?_
          refine own_astore X263.here hx hby at_453 rfl (l' := #[.val (.int p1), .val (.int p2), .val (.int p3), .val (.int p4), .val (.int (p2 &&& (255 : Int32))), .val (.int (p1 &&& (7 : Int32))), .val (.ref x), .val (.int 0), .val (.int (p3.toInt8.toInt32)), .val (.int (((p3.toUInt32 >>> ((8 : Int32) &&& 31).toUInt32).toInt32).toInt8.toInt32)), .val (.int (((p3.toUInt32 >>> ((16 : Int32) &&& 31).toUInt32).toInt32).toInt8.toInt32)), .val (.int 0), .val (.int 0), .val (.ref b243), .val (.ref b247), .val .null, .unset]) rfl ?_
          refine own_iload X263.here hx hby at_455 rfl ?_
          refine own_ifYes X263.here hx hby (pc' := 465) at_457 ((if0 _ _).trans (teq (show (0 : Int32) = (0 : Int32) from (by decide))).1) (by decide) (by decide) ?_
          refine own_aload X263.here hx hby at_465 rfl rfl ?_
          refine own_ifnonnullNo X263.here hx hby at_467 ?_
          refine own_iconst X263.here hx hby at_470 (v := (1 : Int32)) (by decide) ?_
          refine own_goto X263.here hx hby (pc' := 475) at_471 (by decide) (by decide) ?_
          obtain ⟨fs, hr, hrun, hended, hRW⟩ := X263.leaveW hS258 (by rw [eh263]; omega) (v := some (.int 1)) (fun h => by rw [Bd.returns] at h; cases h)
          have hCf : CHr Z consts_1 s.vm s.heap T263.vm T263.heap := by
            rw [hh, eh263]
            exact C261.trans (CHv.at X263 hZ258 hEL C261.1)
          refine own_ret (t := T263.setFrames fs) ?_ ⟨_, hrun, hended, _, _, rfl, ?_, hCf, hRW.1, hRW.2.1, hRW.2.2.1, hRW.2.2.2.mono (by decide) (by decide)⟩
          · exact retN X263 hx (t := .boolean) Bd.returns (by simp) (hb hby at_475) hr
          · show Q_rm0 Z _ _ _ _ _ h0 n0 _ T263.heap _
            rw [eh263]
            exact ⟨rfl, N263, trivial⟩
        · rw [hk]
          refine own_iload Xc239.here hx hby at_339 rfl ?_
          refine own_ifYes Xc239.here hx hby (pc' := 352) at_341 ((if0 _ _).trans (feq (show ¬ ((1 : Int32) = (0 : Int32)) from (by decide))).2) (by decide) (by decide) ?_
          refine own_iload Xc239.here hx hby at_352 rfl ?_
          refine own_iconst Xc239.here hx hby at_354 (v := (1 : Int32)) (by decide) ?_
          refine own_icmpNo Xc239.here hx hby at_355 (teq (show (1 : Int32) = (1 : Int32) from (by decide))).2 ?_
          refine own_iconst Xc239.here hx hby at_358 (v := (1 : Int32)) (by decide) ?_
          refine own_newP Xc239 hx hZc239 (aty := .byte) (own_w hw 0 rfl) ec239 hby at_359 (by decide) 1 (by decide) (by decide) (by decide) (by decide) (ad := "[B") (by decide) ?_
          intro T265 h265 k265 b265 X265 e265 E265 g265 V265 C265 lt265
          have z266 : hc239.size ≤ h265.size := E265.1
          have C267 := Cc239.trans (CHr.ext E265 Cc239.1)
          have V268 : Arv Z h265 b265 k265 .byte (1 : Int32) [(.int 0)] (.int 0) := V265.pad (pad_rep [] (.int 0) 1)
          refine own_dup X265.here hx hby at_361 rfl ?_
          refine own_iconst X265.here hx hby at_362 (v := (0 : Int32)) (by decide) ?_
          refine own_iload X265.here hx hby at_363 rfl ?_
          refine own_bastore X265 hx hZc239 e265 V268 ⟨by decide, by decide⟩ 0 (by decide) (Nat.le_of_ble_eq_true rfl) (w := (.int (p3.toInt8.toInt32))) (congrArg Value.int (own_i2bb p3)) hby at_365 Nc239 (by omega) ?_
          intro T269 h269 lo269 X269 e269 N269 W269 V269 z269
          have V270 : Arv Z h269 b265 k265 .byte (1 : Int32) [(.int (p3.toInt8.toInt32))] (.int 0) := V269
          have sf271 := (Safe.ext E265 Cc239.1 (Safe.new (h := hc239) (x := b265) (by omega)))
          have C272 := C267.trans (CHr.wr W269 sf271 C267.1)
          refine own_astore X269.here hx hby at_366 rfl (l' := #[.val (.int p1), .val (.int p2), .val (.int p3), .val (.int p4), .val (.int (p2 &&& (255 : Int32))), .val (.int (p1 &&& (7 : Int32))), .val (.ref x), .val (.int 0), .val (.int (p3.toInt8.toInt32)), .val (.int (((p3.toUInt32 >>> ((8 : Int32) &&& 31).toUInt32).toInt32).toInt8.toInt32)), .val (.int (((p3.toUInt32 >>> ((16 : Int32) &&& 31).toUInt32).toInt32).toInt8.toInt32)), .val (.int 1), .val (.int 0), .val (.ref b265), .unset, .unset, .unset]) rfl ?_
          refine own_goto X269.here hx hby (pc' := 415) at_368 (by decide) (by decide) ?_
          refine own_newO X269 hx hZc239 hownc239 (own_w hw 1 rfl) (own_w hw 2 rfl) (own_w hw 3 rfl) e269 hby at_415 (by decide) (by decide) ?_
          intro T273 h273 b273 X273 e273 E273 g273 A273 D273 lt273
          have z274 : h269.size ≤ h273.size := E273.1
          have C275 := C272.trans (CHr.ext E273 C272.1)
          have F276 : Fld Z h273 b273 "com/example/sluice/sluice/MessageAttribute" "dataType" "Ljava/lang/String;" .null := D273 (Or.inr (own_w hw 11 rfl)) (ty := (.object "java/lang/String")) (by decide)
          have F277 : Fld Z h273 b273 "com/example/sluice/sluice/MessageAttribute" "stringValue" "Ljava/lang/String;" .null := D273 (Or.inr (own_w hw 16 rfl)) (ty := (.object "java/lang/String")) (by decide)
          have F278 : Fld Z h273 b273 "com/example/sluice/sluice/MessageAttribute" "binaryValue" "[B" .null := D273 (Or.inr (own_w hw 18 rfl)) (ty := (.array .byte)) (by decide)
          refine own_dup X273.here hx hby at_418 rfl ?_
          refine own_aload X273.here hx hby at_419 rfl rfl ?_
          refine own_aconstNull X273.here hx hby at_421 ?_
          refine own_aload X273.here hx hby at_422 rfl rfl ?_
          have f279 := (((E_x.ext E265).wr W269).ext E273)
          have f280 := (((Fc_x.ext E265).other W269 (Or.inl (own_nn (by omega)))).ext E273)
          have f281 := (((Fv_x.ext E265).other W269 (Or.inl (own_nn (by omega)))).ext E273)
          have f282 := (((V_t.ext E265).other W269 (own_nn (by omega))).ext E273)
          have f283 := (((S_C.ext E265).wr W269).ext E273)
          have z285 : n0 ≤ h273.size := by omega
          refine own_specialH X273 hx hZc239 hEL rfl hownc239 (own_w hw 4 rfl) (own_w hw 5 rfl) (own_w hw 3 rfl) (own_w hw 6 rfl) (by decide) (maInit_N_any l Z a0 hw [] b273 x t kt n vs_ zc b265 h273 n0 z285 A273 (by omega) F276 F277 F278 f279 f280 f281 f282 f283 hz hK) 1 (Nat.le_of_eq rfl) (by decide) (by decide) (by rw [hml]; rfl) (argsL := [(.ref x), .null, (.ref b265)]) (st := [(.ref b273)]) (a := b273) (lenOf pd_10 rfl) rfl rfl (by decide) (by decide) e273 hby C275.1 hSc239 (by omega) at_424 ?_
          intro T284 v284 L284 vm284 X284 hS284 hZ284 hown284 hg284 Cn284 hQ284
          obtain ⟨rfl, Nq284, K284, P284_0, P284_1⟩ := hQ284
          have N284 := Fr.app N269 Nq284
          have z286 : h273.size ≤ T284.heap.size := K284.1
          have C287 := C275.trans Cn284
          have lt288 : T284.heap.size > b273 := P284_0.lt
          refine own_sh (T := T284) 427 #[.val (.int p1), .val (.int p2), .val (.int p3), .val (.int p4), .val (.int (p2 &&& (255 : Int32))), .val (.int (p1 &&& (7 : Int32))), .val (.ref x), .val (.int 0), .val (.int (p3.toInt8.toInt32)), .val (.int (((p3.toUInt32 >>> ((8 : Int32) &&& 31).toUInt32).toInt32).toInt8.toInt32)), .val (.int (((p3.toUInt32 >>> ((16 : Int32) &&& 31).toUInt32).toInt32).toInt8.toInt32)), .val (.int 1), .val (.int 0), .val (.ref b265), .unset, .unset, .unset] [(.ref b273)] ?_
          refine own_astore X284.here hx hby at_427 rfl (l' := #[.val (.int p1), .val (.int p2), .val (.int p3), .val (.int p4), .val (.int (p2 &&& (255 : Int32))), .val (.int (p1 &&& (7 : Int32))), .val (.ref x), .val (.int 0), .val (.int (p3.toInt8.toInt32)), .val (.int (((p3.toUInt32 >>> ((8 : Int32) &&& 31).toUInt32).toInt32).toInt8.toInt32)), .val (.int (((p3.toUInt32 >>> ((16 : Int32) &&& 31).toUInt32).toInt32).toInt8.toInt32)), .val (.int 1), .val (.int 0), .val (.ref b265), .val (.ref b273), .unset, .unset]) rfl ?_
          refine own_aload X284.here hx hby at_429 rfl rfl ?_
          refine own_ifnullNo X284.here hx hby at_431 ?_
          refine own_iload X284.here hx hby at_434 rfl ?_
          refine own_ifNo X284.here hx hby at_436 ((if0 _ _).trans (tlt (show (0 : Int32) < (1 : Int32) from (by decide))).2.2.2) ?_
          refine own_aload X284.here hx hby at_439 rfl rfl ?_
          refine own_iconst X284.here hx hby at_441 (v := (0 : Int32)) (by decide) ?_
          refine own_iload X284.here hx hby at_442 rfl ?_
          refine own_iconst X284.here hx hby at_444 (v := (-1 : Int32)) (by decide) ?_
          refine own_ixor X284.here hx hby at_445 rfl ?_
          refine own_i2b X284.here hx hby at_446 rfl ?_
          have f289 := ((V270.ext E273).keep K284 (ninS (own_nn (by omega)) nin0))
          refine own_bastore X284 hx hZ284 rfl f289 ⟨by decide, by decide⟩ 0 (by decide) (Nat.le_of_ble_eq_true rfl) (w := (.int (((p3.toInt8.toInt32) ^^^ (-1 : Int32)).toInt8.toInt32))) (congrArg Value.int (own_i2bb ((p3.toInt8.toInt32) ^^^ (-1 : Int32)))) hby at_447 N284 (by omega) ?_
          intro T290 h290 lo290 X290 e290 N290 W290 V290 z290
          have V291 : Arv Z h290 b265 k265 .byte (1 : Int32) [(.int (((p3.toInt8.toInt32) ^^^ (-1 : Int32)).toInt8.toInt32))] (.int 0) := V290
          have sf292 := (Cn284.safe (own_ll (by omega)) (Safe.ext E273 C272.1 (Safe.wr W269 sf271 C267.1 sf271)))
          have C293 := C287.trans (CHr.wr W290 sf292 C287.1)
          refine own_aload X290.here hx hby at_448 rfl rfl ?_
          have f294 := (P284_1.other W290 (Or.inl (own_nn (by omega))))
          have z296 : n0 ≤ h290.size := by omega
          have f297 := (P284_0.wr W290)
          refine own_virtual X290 hx hZ284 hown284 (own_w hw 19 rfl) (own_w hw 20 rfl) (notFace_of_selects (args := #[]) (mvT hZ284 (own_w hw 22 rfl))) (own_w hw 22 rfl) (own_w hw 21 rfl) (own_w hw 3 rfl) (own_w hw 23 rfl) (by decide) (binV_null l Z a0 hw [] b273 h290 n0 z296 f294) 0 (Nat.le_of_eq rfl) (by decide) (by decide) (by rw [hml]; rfl) (argsL := []) (st := []) f297 (lenOf pd_11 rfl) rfl rfl (by decide) (by decide) e290 hby at_450 ?_
          intro T295 v295 L295 X295 hQ295
          obtain ⟨rfl, Nq295, eh295⟩ := hQ295
          have N295 := Fr.app N290 Nq295
          refine own_sh (T := T295) 453 #[.val (.int p1), .val (.int p2), .val (.int p3), .val (.int p4), .val (.int (p2 &&& (255 : Int32))), .val (.int (p1 &&& (7 : Int32))), .val (.ref x), .val (.int 0), .val (.int (p3.toInt8.toInt32)), .val (.int (((p3.toUInt32 >>> ((8 : Int32) &&& 31).toUInt32).toInt32).toInt8.toInt32)), .val (.int (((p3.toUInt32 >>> ((16 : Int32) &&& 31).toUInt32).toInt32).toInt8.toInt32)), .val (.int 1), .val (.int 0), .val (.ref b265), .val (.ref b273), .unset, .unset] [.null] ?_
          refine own_astore X295.here hx hby at_453 rfl (l' := #[.val (.int p1), .val (.int p2), .val (.int p3), .val (.int p4), .val (.int (p2 &&& (255 : Int32))), .val (.int (p1 &&& (7 : Int32))), .val (.ref x), .val (.int 0), .val (.int (p3.toInt8.toInt32)), .val (.int (((p3.toUInt32 >>> ((8 : Int32) &&& 31).toUInt32).toInt32).toInt8.toInt32)), .val (.int (((p3.toUInt32 >>> ((16 : Int32) &&& 31).toUInt32).toInt32).toInt8.toInt32)), .val (.int 1), .val (.int 0), .val (.ref b265), .val (.ref b273), .val .null, .unset]) rfl ?_
          refine own_iload X295.here hx hby at_455 rfl ?_
          refine own_ifYes X295.here hx hby (pc' := 465) at_457 ((if0 _ _).trans (teq (show (0 : Int32) = (0 : Int32) from (by decide))).1) (by decide) (by decide) ?_
          refine own_aload X295.here hx hby at_465 rfl rfl ?_
          refine own_ifnonnullNo X295.here hx hby at_467 ?_
          refine own_iconst X295.here hx hby at_470 (v := (1 : Int32)) (by decide) ?_
          refine own_goto X295.here hx hby (pc' := 475) at_471 (by decide) (by decide) ?_
          obtain ⟨fs, hr, hrun, hended, hRW⟩ := X295.leaveW hS284 (by rw [eh295]; omega) (v := some (.int 1)) (fun h => by rw [Bd.returns] at h; cases h)
          have hCf : CHr Z consts_1 s.vm s.heap T295.vm T295.heap := by
            rw [hh, eh295]
            exact C293.trans (CHv.at X295 hZ284 hEL C293.1)
          refine own_ret (t := T295.setFrames fs) ?_ ⟨_, hrun, hended, _, _, rfl, ?_, hCf, hRW.1, hRW.2.1, hRW.2.2.1, hRW.2.2.2.mono (by decide) (by decide)⟩
          · exact retN X295 hx (t := .boolean) Bd.returns (by simp) (hb hby at_475) hr
          · show Q_rm0 Z _ _ _ _ _ h0 n0 _ T295.heap _
            rw [eh295]
            exact ⟨rfl, N295, trivial⟩
        · rw [hk]
          refine own_iload Xc239.here hx hby at_339 rfl ?_
          refine own_ifYes Xc239.here hx hby (pc' := 352) at_341 ((if0 _ _).trans (feq (show ¬ ((2 : Int32) = (0 : Int32)) from (by decide))).2) (by decide) (by decide) ?_
          refine own_iload Xc239.here hx hby at_352 rfl ?_
          refine own_iconst Xc239.here hx hby at_354 (v := (1 : Int32)) (by decide) ?_
          refine own_icmpYes Xc239.here hx hby (pc' := 371) at_355 (feq (show ¬ ((2 : Int32) = (1 : Int32)) from (by decide))).2 (by decide) (by decide) ?_
          refine own_iload Xc239.here hx hby at_371 rfl ?_
          refine own_iconst Xc239.here hx hby at_373 (v := (2 : Int32)) (by decide) ?_
          refine own_icmpNo Xc239.here hx hby at_374 (teq (show (2 : Int32) = (2 : Int32) from (by decide))).2 ?_
          refine own_iconst Xc239.here hx hby at_377 (v := (2 : Int32)) (by decide) ?_
          refine own_newP Xc239 hx hZc239 (aty := .byte) (own_w hw 0 rfl) ec239 hby at_378 (by decide) 2 (by decide) (by decide) (by decide) (by decide) (ad := "[B") (by decide) ?_
          intro T298 h298 k298 b298 X298 e298 E298 g298 V298 C298 lt298
          have z299 : hc239.size ≤ h298.size := E298.1
          have C300 := Cc239.trans (CHr.ext E298 Cc239.1)
          have V301 : Arv Z h298 b298 k298 .byte (2 : Int32) [(.int 0), (.int 0)] (.int 0) := V298.pad (pad_rep [] (.int 0) 2)
          refine own_dup X298.here hx hby at_380 rfl ?_
          refine own_iconst X298.here hx hby at_381 (v := (0 : Int32)) (by decide) ?_
          refine own_iload X298.here hx hby at_382 rfl ?_
          refine own_bastore X298 hx hZc239 e298 V301 ⟨by decide, by decide⟩ 0 (by decide) (Nat.le_of_ble_eq_true rfl) (w := (.int (p3.toInt8.toInt32))) (congrArg Value.int (own_i2bb p3)) hby at_384 Nc239 (by omega) ?_
          intro T302 h302 lo302 X302 e302 N302 W302 V302 z302
          have V303 : Arv Z h302 b298 k298 .byte (2 : Int32) [(.int (p3.toInt8.toInt32)), (.int 0)] (.int 0) := V302
          have sf304 := (Safe.ext E298 Cc239.1 (Safe.new (h := hc239) (x := b298) (by omega)))
          have C305 := C300.trans (CHr.wr W302 sf304 C300.1)
          refine own_dup X302.here hx hby at_385 rfl ?_
          refine own_iconst X302.here hx hby at_386 (v := (1 : Int32)) (by decide) ?_
          refine own_iload X302.here hx hby at_387 rfl ?_
          refine own_bastore X302 hx hZc239 e302 V303 ⟨by decide, by decide⟩ 1 (by decide) (Nat.le_of_ble_eq_true rfl) (w := (.int (((p3.toUInt32 >>> ((8 : Int32) &&& 31).toUInt32).toInt32).toInt8.toInt32))) (congrArg Value.int (own_i2bb ((p3.toUInt32 >>> ((8 : Int32) &&& 31).toUInt32).toInt32))) hby at_389 N302 (by omega) ?_
          intro T306 h306 lo306 X306 e306 N306 W306 V306 z306
          have V307 : Arv Z h306 b298 k298 .byte (2 : Int32) [(.int (p3.toInt8.toInt32)), (.int (((p3.toUInt32 >>> ((8 : Int32) &&& 31).toUInt32).toInt32).toInt8.toInt32))] (.int 0) := V306
          have sf308 := (Safe.wr W302 sf304 C300.1 sf304)
          have C309 := C305.trans (CHr.wr W306 sf308 C305.1)
          refine own_astore X306.here hx hby at_390 rfl (l' := #[.val (.int p1), .val (.int p2), .val (.int p3), .val (.int p4), .val (.int (p2 &&& (255 : Int32))), .val (.int (p1 &&& (7 : Int32))), .val (.ref x), .val (.int 0), .val (.int (p3.toInt8.toInt32)), .val (.int (((p3.toUInt32 >>> ((8 : Int32) &&& 31).toUInt32).toInt32).toInt8.toInt32)), .val (.int (((p3.toUInt32 >>> ((16 : Int32) &&& 31).toUInt32).toInt32).toInt8.toInt32)), .val (.int 2), .val (.int 0), .val (.ref b298), .unset, .unset, .unset]) rfl ?_
          refine own_goto X306.here hx hby (pc' := 415) at_392 (by decide) (by decide) ?_
          refine own_newO X306 hx hZc239 hownc239 (own_w hw 1 rfl) (own_w hw 2 rfl) (own_w hw 3 rfl) e306 hby at_415 (by decide) (by decide) ?_
          intro T310 h310 b310 X310 e310 E310 g310 A310 D310 lt310
          have z311 : h306.size ≤ h310.size := E310.1
          have C312 := C309.trans (CHr.ext E310 C309.1)
          have F313 : Fld Z h310 b310 "com/example/sluice/sluice/MessageAttribute" "dataType" "Ljava/lang/String;" .null := D310 (Or.inr (own_w hw 11 rfl)) (ty := (.object "java/lang/String")) (by decide)
          have F314 : Fld Z h310 b310 "com/example/sluice/sluice/MessageAttribute" "stringValue" "Ljava/lang/String;" .null := D310 (Or.inr (own_w hw 16 rfl)) (ty := (.object "java/lang/String")) (by decide)
          have F315 : Fld Z h310 b310 "com/example/sluice/sluice/MessageAttribute" "binaryValue" "[B" .null := D310 (Or.inr (own_w hw 18 rfl)) (ty := (.array .byte)) (by decide)
          refine own_dup X310.here hx hby at_418 rfl ?_
          refine own_aload X310.here hx hby at_419 rfl rfl ?_
          refine own_aconstNull X310.here hx hby at_421 ?_
          refine own_aload X310.here hx hby at_422 rfl rfl ?_
          have f316 := ((((E_x.ext E298).wr W302).wr W306).ext E310)
          have f317 := ((((Fc_x.ext E298).other W302 (Or.inl (own_nn (by omega)))).other W306 (Or.inl (own_nn (by omega)))).ext E310)
          have f318 := ((((Fv_x.ext E298).other W302 (Or.inl (own_nn (by omega)))).other W306 (Or.inl (own_nn (by omega)))).ext E310)
          have f319 := ((((V_t.ext E298).other W302 (own_nn (by omega))).other W306 (own_nn (by omega))).ext E310)
          have f320 := ((((S_C.ext E298).wr W302).wr W306).ext E310)
          have z322 : n0 ≤ h310.size := by omega
          refine own_specialH X310 hx hZc239 hEL rfl hownc239 (own_w hw 4 rfl) (own_w hw 5 rfl) (own_w hw 3 rfl) (own_w hw 6 rfl) (by decide) (maInit_N_any l Z a0 hw [] b310 x t kt n vs_ zc b298 h310 n0 z322 A310 (by omega) F313 F314 F315 f316 f317 f318 f319 f320 hz hK) 1 (Nat.le_of_eq rfl) (by decide) (by decide) (by rw [hml]; rfl) (argsL := [(.ref x), .null, (.ref b298)]) (st := [(.ref b310)]) (a := b310) (lenOf pd_10 rfl) rfl rfl (by decide) (by decide) e310 hby C312.1 hSc239 (by omega) at_424 ?_
          intro T321 v321 L321 vm321 X321 hS321 hZ321 hown321 hg321 Cn321 hQ321
          obtain ⟨rfl, Nq321, K321, P321_0, P321_1⟩ := hQ321
          have N321 := Fr.app N306 Nq321
          have z323 : h310.size ≤ T321.heap.size := K321.1
          have C324 := C312.trans Cn321
          have lt325 : T321.heap.size > b310 := P321_0.lt
          refine own_sh (T := T321) 427 #[.val (.int p1), .val (.int p2), .val (.int p3), .val (.int p4), .val (.int (p2 &&& (255 : Int32))), .val (.int (p1 &&& (7 : Int32))), .val (.ref x), .val (.int 0), .val (.int (p3.toInt8.toInt32)), .val (.int (((p3.toUInt32 >>> ((8 : Int32) &&& 31).toUInt32).toInt32).toInt8.toInt32)), .val (.int (((p3.toUInt32 >>> ((16 : Int32) &&& 31).toUInt32).toInt32).toInt8.toInt32)), .val (.int 2), .val (.int 0), .val (.ref b298), .unset, .unset, .unset] [(.ref b310)] ?_
          refine own_astore X321.here hx hby at_427 rfl (l' := #[.val (.int p1), .val (.int p2), .val (.int p3), .val (.int p4), .val (.int (p2 &&& (255 : Int32))), .val (.int (p1 &&& (7 : Int32))), .val (.ref x), .val (.int 0), .val (.int (p3.toInt8.toInt32)), .val (.int (((p3.toUInt32 >>> ((8 : Int32) &&& 31).toUInt32).toInt32).toInt8.toInt32)), .val (.int (((p3.toUInt32 >>> ((16 : Int32) &&& 31).toUInt32).toInt32).toInt8.toInt32)), .val (.int 2), .val (.int 0), .val (.ref b298), .val (.ref b310), .unset, .unset]) rfl ?_
          refine own_aload X321.here hx hby at_429 rfl rfl ?_
          refine own_ifnullNo X321.here hx hby at_431 ?_
          refine own_iload X321.here hx hby at_434 rfl ?_
          refine own_ifNo X321.here hx hby at_436 ((if0 _ _).trans (tlt (show (0 : Int32) < (2 : Int32) from (by decide))).2.2.2) ?_
          refine own_aload X321.here hx hby at_439 rfl rfl ?_
          refine own_iconst X321.here hx hby at_441 (v := (0 : Int32)) (by decide) ?_
          refine own_iload X321.here hx hby at_442 rfl ?_
          refine own_iconst X321.here hx hby at_444 (v := (-1 : Int32)) (by decide) ?_
          refine own_ixor X321.here hx hby at_445 rfl ?_
          refine own_i2b X321.here hx hby at_446 rfl ?_
          have f326 := ((V307.ext E310).keep K321 (ninS (own_nn (by omega)) nin0))
          refine own_bastore X321 hx hZ321 rfl f326 ⟨by decide, by decide⟩ 0 (by decide) (Nat.le_of_ble_eq_true rfl) (w := (.int (((p3.toInt8.toInt32) ^^^ (-1 : Int32)).toInt8.toInt32))) (congrArg Value.int (own_i2bb ((p3.toInt8.toInt32) ^^^ (-1 : Int32)))) hby at_447 N321 (by omega) ?_
          intro T327 h327 lo327 X327 e327 N327 W327 V327 z327
          have V328 : Arv Z h327 b298 k298 .byte (2 : Int32) [(.int (((p3.toInt8.toInt32) ^^^ (-1 : Int32)).toInt8.toInt32)), (.int (((p3.toUInt32 >>> ((8 : Int32) &&& 31).toUInt32).toInt32).toInt8.toInt32))] (.int 0) := V327
          have sf329 := (Cn321.safe (own_ll (by omega)) (Safe.ext E310 C309.1 (Safe.wr W306 sf308 C305.1 sf308)))
          have C330 := C324.trans (CHr.wr W327 sf329 C324.1)
          refine own_aload X327.here hx hby at_448 rfl rfl ?_
          have f331 := (P321_1.other W327 (Or.inl (own_nn (by omega))))
          have z333 : n0 ≤ h327.size := by omega
          have f334 := (P321_0.wr W327)
          refine own_virtual X327 hx hZ321 hown321 (own_w hw 19 rfl) (own_w hw 20 rfl) (notFace_of_selects (args := #[]) (mvT hZ321 (own_w hw 22 rfl))) (own_w hw 22 rfl) (own_w hw 21 rfl) (own_w hw 3 rfl) (own_w hw 23 rfl) (by decide) (binV_null l Z a0 hw [] b310 h327 n0 z333 f331) 0 (Nat.le_of_eq rfl) (by decide) (by decide) (by rw [hml]; rfl) (argsL := []) (st := []) f334 (lenOf pd_11 rfl) rfl rfl (by decide) (by decide) e327 hby at_450 ?_
          intro T332 v332 L332 X332 hQ332
          obtain ⟨rfl, Nq332, eh332⟩ := hQ332
          have N332 := Fr.app N327 Nq332
          refine own_sh (T := T332) 453 #[.val (.int p1), .val (.int p2), .val (.int p3), .val (.int p4), .val (.int (p2 &&& (255 : Int32))), .val (.int (p1 &&& (7 : Int32))), .val (.ref x), .val (.int 0), .val (.int (p3.toInt8.toInt32)), .val (.int (((p3.toUInt32 >>> ((8 : Int32) &&& 31).toUInt32).toInt32).toInt8.toInt32)), .val (.int (((p3.toUInt32 >>> ((16 : Int32) &&& 31).toUInt32).toInt32).toInt8.toInt32)), .val (.int 2), .val (.int 0), .val (.ref b298), .val (.ref b310), .unset, .unset] [.null] ?_
          refine own_astore X332.here hx hby at_453 rfl (l' := #[.val (.int p1), .val (.int p2), .val (.int p3), .val (.int p4), .val (.int (p2 &&& (255 : Int32))), .val (.int (p1 &&& (7 : Int32))), .val (.ref x), .val (.int 0), .val (.int (p3.toInt8.toInt32)), .val (.int (((p3.toUInt32 >>> ((8 : Int32) &&& 31).toUInt32).toInt32).toInt8.toInt32)), .val (.int (((p3.toUInt32 >>> ((16 : Int32) &&& 31).toUInt32).toInt32).toInt8.toInt32)), .val (.int 2), .val (.int 0), .val (.ref b298), .val (.ref b310), .val .null, .unset]) rfl ?_
          refine own_iload X332.here hx hby at_455 rfl ?_
          refine own_ifYes X332.here hx hby (pc' := 465) at_457 ((if0 _ _).trans (teq (show (0 : Int32) = (0 : Int32) from (by decide))).1) (by decide) (by decide) ?_
          refine own_aload X332.here hx hby at_465 rfl rfl ?_
          refine own_ifnonnullNo X332.here hx hby at_467 ?_
          refine own_iconst X332.here hx hby at_470 (v := (1 : Int32)) (by decide) ?_
          refine own_goto X332.here hx hby (pc' := 475) at_471 (by decide) (by decide) ?_
          obtain ⟨fs, hr, hrun, hended, hRW⟩ := X332.leaveW hS321 (by rw [eh332]; omega) (v := some (.int 1)) (fun h => by rw [Bd.returns] at h; cases h)
          have hCf : CHr Z consts_1 s.vm s.heap T332.vm T332.heap := by
            rw [hh, eh332]
            exact C330.trans (CHv.at X332 hZ321 hEL C330.1)
          refine own_ret (t := T332.setFrames fs) ?_ ⟨_, hrun, hended, _, _, rfl, ?_, hCf, hRW.1, hRW.2.1, hRW.2.2.1, hRW.2.2.2.mono (by decide) (by decide)⟩
          · exact retN X332 hx (t := .boolean) Bd.returns (by simp) (hb hby at_475) hr
          · show Q_rm0 Z _ _ _ _ _ h0 n0 _ T332.heap _
            rw [eh332]
            exact ⟨rfl, N332, trivial⟩
        · rw [hk]
          refine own_iload Xc239.here hx hby at_339 rfl ?_
          refine own_ifYes Xc239.here hx hby (pc' := 352) at_341 ((if0 _ _).trans (feq (show ¬ ((3 : Int32) = (0 : Int32)) from (by decide))).2) (by decide) (by decide) ?_
          refine own_iload Xc239.here hx hby at_352 rfl ?_
          refine own_iconst Xc239.here hx hby at_354 (v := (1 : Int32)) (by decide) ?_
          refine own_icmpYes Xc239.here hx hby (pc' := 371) at_355 (feq (show ¬ ((3 : Int32) = (1 : Int32)) from (by decide))).2 (by decide) (by decide) ?_
          refine own_iload Xc239.here hx hby at_371 rfl ?_
          refine own_iconst Xc239.here hx hby at_373 (v := (2 : Int32)) (by decide) ?_
          refine own_icmpYes Xc239.here hx hby (pc' := 395) at_374 (feq (show ¬ ((3 : Int32) = (2 : Int32)) from (by decide))).2 (by decide) (by decide) ?_
          refine own_iconst Xc239.here hx hby at_395 (v := (3 : Int32)) (by decide) ?_
          refine own_newP Xc239 hx hZc239 (aty := .byte) (own_w hw 0 rfl) ec239 hby at_396 (by decide) 3 (by decide) (by decide) (by decide) (by decide) (ad := "[B") (by decide) ?_
          intro T335 h335 k335 b335 X335 e335 E335 g335 V335 C335 lt335
          have z336 : hc239.size ≤ h335.size := E335.1
          have C337 := Cc239.trans (CHr.ext E335 Cc239.1)
          have V338 : Arv Z h335 b335 k335 .byte (3 : Int32) [(.int 0), (.int 0), (.int 0)] (.int 0) := V335.pad (pad_rep [] (.int 0) 3)
          refine own_dup X335.here hx hby at_398 rfl ?_
          refine own_iconst X335.here hx hby at_399 (v := (0 : Int32)) (by decide) ?_
          refine own_iload X335.here hx hby at_400 rfl ?_
          refine own_bastore X335 hx hZc239 e335 V338 ⟨by decide, by decide⟩ 0 (by decide) (Nat.le_of_ble_eq_true rfl) (w := (.int (p3.toInt8.toInt32))) (congrArg Value.int (own_i2bb p3)) hby at_402 Nc239 (by omega) ?_
          intro T339 h339 lo339 X339 e339 N339 W339 V339 z339
          have V340 : Arv Z h339 b335 k335 .byte (3 : Int32) [(.int (p3.toInt8.toInt32)), (.int 0), (.int 0)] (.int 0) := V339
          have sf341 := (Safe.ext E335 Cc239.1 (Safe.new (h := hc239) (x := b335) (by omega)))
          have C342 := C337.trans (CHr.wr W339 sf341 C337.1)
          refine own_dup X339.here hx hby at_403 rfl ?_
          refine own_iconst X339.here hx hby at_404 (v := (1 : Int32)) (by decide) ?_
          refine own_iload X339.here hx hby at_405 rfl ?_
          refine own_bastore X339 hx hZc239 e339 V340 ⟨by decide, by decide⟩ 1 (by decide) (Nat.le_of_ble_eq_true rfl) (w := (.int (((p3.toUInt32 >>> ((8 : Int32) &&& 31).toUInt32).toInt32).toInt8.toInt32))) (congrArg Value.int (own_i2bb ((p3.toUInt32 >>> ((8 : Int32) &&& 31).toUInt32).toInt32))) hby at_407 N339 (by omega) ?_
          intro T343 h343 lo343 X343 e343 N343 W343 V343 z343
          have V344 : Arv Z h343 b335 k335 .byte (3 : Int32) [(.int (p3.toInt8.toInt32)), (.int (((p3.toUInt32 >>> ((8 : Int32) &&& 31).toUInt32).toInt32).toInt8.toInt32)), (.int 0)] (.int 0) := V343
          have sf345 := (Safe.wr W339 sf341 C337.1 sf341)
          have C346 := C342.trans (CHr.wr W343 sf345 C342.1)
          refine own_dup X343.here hx hby at_408 rfl ?_
          refine own_iconst X343.here hx hby at_409 (v := (2 : Int32)) (by decide) ?_
          refine own_iload X343.here hx hby at_410 rfl ?_
          refine own_bastore X343 hx hZc239 e343 V344 ⟨by decide, by decide⟩ 2 (by decide) (Nat.le_of_ble_eq_true rfl) (w := (.int (((p3.toUInt32 >>> ((16 : Int32) &&& 31).toUInt32).toInt32).toInt8.toInt32))) (congrArg Value.int (own_i2bb ((p3.toUInt32 >>> ((16 : Int32) &&& 31).toUInt32).toInt32))) hby at_412 N343 (by omega) ?_
          intro T347 h347 lo347 X347 e347 N347 W347 V347 z347
          have V348 : Arv Z h347 b335 k335 .byte (3 : Int32) [(.int (p3.toInt8.toInt32)), (.int (((p3.toUInt32 >>> ((8 : Int32) &&& 31).toUInt32).toInt32).toInt8.toInt32)), (.int (((p3.toUInt32 >>> ((16 : Int32) &&& 31).toUInt32).toInt32).toInt8.toInt32))] (.int 0) := V347
          have sf349 := (Safe.wr W343 sf345 C342.1 sf345)
          have C350 := C346.trans (CHr.wr W347 sf349 C346.1)
          refine own_astore X347.here hx hby at_413 rfl (l' := #[.val (.int p1), .val (.int p2), .val (.int p3), .val (.int p4), .val (.int (p2 &&& (255 : Int32))), .val (.int (p1 &&& (7 : Int32))), .val (.ref x), .val (.int 0), .val (.int (p3.toInt8.toInt32)), .val (.int (((p3.toUInt32 >>> ((8 : Int32) &&& 31).toUInt32).toInt32).toInt8.toInt32)), .val (.int (((p3.toUInt32 >>> ((16 : Int32) &&& 31).toUInt32).toInt32).toInt8.toInt32)), .val (.int 3), .val (.int 0), .val (.ref b335), .unset, .unset, .unset]) rfl ?_
          refine own_newO X347 hx hZc239 hownc239 (own_w hw 1 rfl) (own_w hw 2 rfl) (own_w hw 3 rfl) e347 hby at_415 (by decide) (by decide) ?_
          intro T351 h351 b351 X351 e351 E351 g351 A351 D351 lt351
          have z352 : h347.size ≤ h351.size := E351.1
          have C353 := C350.trans (CHr.ext E351 C350.1)
          have F354 : Fld Z h351 b351 "com/example/sluice/sluice/MessageAttribute" "dataType" "Ljava/lang/String;" .null := D351 (Or.inr (own_w hw 11 rfl)) (ty := (.object "java/lang/String")) (by decide)
          have F355 : Fld Z h351 b351 "com/example/sluice/sluice/MessageAttribute" "stringValue" "Ljava/lang/String;" .null := D351 (Or.inr (own_w hw 16 rfl)) (ty := (.object "java/lang/String")) (by decide)
          have F356 : Fld Z h351 b351 "com/example/sluice/sluice/MessageAttribute" "binaryValue" "[B" .null := D351 (Or.inr (own_w hw 18 rfl)) (ty := (.array .byte)) (by decide)
          refine own_dup X351.here hx hby at_418 rfl ?_
          refine own_aload X351.here hx hby at_419 rfl rfl ?_
          refine own_aconstNull X351.here hx hby at_421 ?_
          refine own_aload X351.here hx hby at_422 rfl rfl ?_
          have f357 := (((((E_x.ext E335).wr W339).wr W343).wr W347).ext E351)
          have f358 := (((((Fc_x.ext E335).other W339 (Or.inl (own_nn (by omega)))).other W343 (Or.inl (own_nn (by omega)))).other W347 (Or.inl (own_nn (by omega)))).ext E351)
          have f359 := (((((Fv_x.ext E335).other W339 (Or.inl (own_nn (by omega)))).other W343 (Or.inl (own_nn (by omega)))).other W347 (Or.inl (own_nn (by omega)))).ext E351)
          have f360 := (((((V_t.ext E335).other W339 (own_nn (by omega))).other W343 (own_nn (by omega))).other W347 (own_nn (by omega))).ext E351)
          have f361 := (((((S_C.ext E335).wr W339).wr W343).wr W347).ext E351)
          have z363 : n0 ≤ h351.size := by omega
          refine own_specialH X351 hx hZc239 hEL rfl hownc239 (own_w hw 4 rfl) (own_w hw 5 rfl) (own_w hw 3 rfl) (own_w hw 6 rfl) (by decide) (maInit_N_any l Z a0 hw [] b351 x t kt n vs_ zc b335 h351 n0 z363 A351 (by omega) F354 F355 F356 f357 f358 f359 f360 f361 hz hK) 1 (Nat.le_of_eq rfl) (by decide) (by decide) (by rw [hml]; rfl) (argsL := [(.ref x), .null, (.ref b335)]) (st := [(.ref b351)]) (a := b351) (lenOf pd_10 rfl) rfl rfl (by decide) (by decide) e351 hby C353.1 hSc239 (by omega) at_424 ?_
          intro T362 v362 L362 vm362 X362 hS362 hZ362 hown362 hg362 Cn362 hQ362
          obtain ⟨rfl, Nq362, K362, P362_0, P362_1⟩ := hQ362
          have N362 := Fr.app N347 Nq362
          have z364 : h351.size ≤ T362.heap.size := K362.1
          have C365 := C353.trans Cn362
          have lt366 : T362.heap.size > b351 := P362_0.lt
          refine own_sh (T := T362) 427 #[.val (.int p1), .val (.int p2), .val (.int p3), .val (.int p4), .val (.int (p2 &&& (255 : Int32))), .val (.int (p1 &&& (7 : Int32))), .val (.ref x), .val (.int 0), .val (.int (p3.toInt8.toInt32)), .val (.int (((p3.toUInt32 >>> ((8 : Int32) &&& 31).toUInt32).toInt32).toInt8.toInt32)), .val (.int (((p3.toUInt32 >>> ((16 : Int32) &&& 31).toUInt32).toInt32).toInt8.toInt32)), .val (.int 3), .val (.int 0), .val (.ref b335), .unset, .unset, .unset] [(.ref b351)] ?_
          refine own_astore X362.here hx hby at_427 rfl (l' := #[.val (.int p1), .val (.int p2), .val (.int p3), .val (.int p4), .val (.int (p2 &&& (255 : Int32))), .val (.int (p1 &&& (7 : Int32))), .val (.ref x), .val (.int 0), .val (.int (p3.toInt8.toInt32)), .val (.int (((p3.toUInt32 >>> ((8 : Int32) &&& 31).toUInt32).toInt32).toInt8.toInt32)), .val (.int (((p3.toUInt32 >>> ((16 : Int32) &&& 31).toUInt32).toInt32).toInt8.toInt32)), .val (.int 3), .val (.int 0), .val (.ref b335), .val (.ref b351), .unset, .unset]) rfl ?_
          refine own_aload X362.here hx hby at_429 rfl rfl ?_
          refine own_ifnullNo X362.here hx hby at_431 ?_
          refine own_iload X362.here hx hby at_434 rfl ?_
          refine own_ifNo X362.here hx hby at_436 ((if0 _ _).trans (tlt (show (0 : Int32) < (3 : Int32) from (by decide))).2.2.2) ?_
          refine own_aload X362.here hx hby at_439 rfl rfl ?_
          refine own_iconst X362.here hx hby at_441 (v := (0 : Int32)) (by decide) ?_
          refine own_iload X362.here hx hby at_442 rfl ?_
          refine own_iconst X362.here hx hby at_444 (v := (-1 : Int32)) (by decide) ?_
          refine own_ixor X362.here hx hby at_445 rfl ?_
          refine own_i2b X362.here hx hby at_446 rfl ?_
          have f367 := ((V348.ext E351).keep K362 (ninS (own_nn (by omega)) nin0))
          refine own_bastore X362 hx hZ362 rfl f367 ⟨by decide, by decide⟩ 0 (by decide) (Nat.le_of_ble_eq_true rfl) (w := (.int (((p3.toInt8.toInt32) ^^^ (-1 : Int32)).toInt8.toInt32))) (congrArg Value.int (own_i2bb ((p3.toInt8.toInt32) ^^^ (-1 : Int32)))) hby at_447 N362 (by omega) ?_
          intro T368 h368 lo368 X368 e368 N368 W368 V368 z368
          have V369 : Arv Z h368 b335 k335 .byte (3 : Int32) [(.int (((p3.toInt8.toInt32) ^^^ (-1 : Int32)).toInt8.toInt32)), (.int (((p3.toUInt32 >>> ((8 : Int32) &&& 31).toUInt32).toInt32).toInt8.toInt32)), (.int (((p3.toUInt32 >>> ((16 : Int32) &&& 31).toUInt32).toInt32).toInt8.toInt32))] (.int 0) := V368
          have sf370 := (Cn362.safe (own_ll (by omega)) (Safe.ext E351 C350.1 (Safe.wr W347 sf349 C346.1 sf349)))
          have C371 := C365.trans (CHr.wr W368 sf370 C365.1)
          refine own_aload X368.here hx hby at_448 rfl rfl ?_
          have f372 := (P362_1.other W368 (Or.inl (own_nn (by omega))))
          have z374 : n0 ≤ h368.size := by omega
          have f375 := (P362_0.wr W368)
          refine own_virtual X368 hx hZ362 hown362 (own_w hw 19 rfl) (own_w hw 20 rfl) (notFace_of_selects (args := #[]) (mvT hZ362 (own_w hw 22 rfl))) (own_w hw 22 rfl) (own_w hw 21 rfl) (own_w hw 3 rfl) (own_w hw 23 rfl) (by decide) (binV_null l Z a0 hw [] b351 h368 n0 z374 f372) 0 (Nat.le_of_eq rfl) (by decide) (by decide) (by rw [hml]; rfl) (argsL := []) (st := []) f375 (lenOf pd_11 rfl) rfl rfl (by decide) (by decide) e368 hby at_450 ?_
          intro T373 v373 L373 X373 hQ373
          obtain ⟨rfl, Nq373, eh373⟩ := hQ373
          have N373 := Fr.app N368 Nq373
          refine own_sh (T := T373) 453 #[.val (.int p1), .val (.int p2), .val (.int p3), .val (.int p4), .val (.int (p2 &&& (255 : Int32))), .val (.int (p1 &&& (7 : Int32))), .val (.ref x), .val (.int 0), .val (.int (p3.toInt8.toInt32)), .val (.int (((p3.toUInt32 >>> ((8 : Int32) &&& 31).toUInt32).toInt32).toInt8.toInt32)), .val (.int (((p3.toUInt32 >>> ((16 : Int32) &&& 31).toUInt32).toInt32).toInt8.toInt32)), .val (.int 3), .val (.int 0), .val (.ref b335), .val (.ref b351), .unset, .unset] [.null] ?_
          refine own_astore X373.here hx hby at_453 rfl (l' := #[.val (.int p1), .val (.int p2), .val (.int p3), .val (.int p4), .val (.int (p2 &&& (255 : Int32))), .val (.int (p1 &&& (7 : Int32))), .val (.ref x), .val (.int 0), .val (.int (p3.toInt8.toInt32)), .val (.int (((p3.toUInt32 >>> ((8 : Int32) &&& 31).toUInt32).toInt32).toInt8.toInt32)), .val (.int (((p3.toUInt32 >>> ((16 : Int32) &&& 31).toUInt32).toInt32).toInt8.toInt32)), .val (.int 3), .val (.int 0), .val (.ref b335), .val (.ref b351), .val .null, .unset]) rfl ?_
          refine own_iload X373.here hx hby at_455 rfl ?_
          refine own_ifYes X373.here hx hby (pc' := 465) at_457 ((if0 _ _).trans (teq (show (0 : Int32) = (0 : Int32) from (by decide))).1) (by decide) (by decide) ?_
          refine own_aload X373.here hx hby at_465 rfl rfl ?_
          refine own_ifnonnullNo X373.here hx hby at_467 ?_
          refine own_iconst X373.here hx hby at_470 (v := (1 : Int32)) (by decide) ?_
          refine own_goto X373.here hx hby (pc' := 475) at_471 (by decide) (by decide) ?_
          obtain ⟨fs, hr, hrun, hended, hRW⟩ := X373.leaveW hS362 (by rw [eh373]; omega) (v := some (.int 1)) (fun h => by rw [Bd.returns] at h; cases h)
          have hCf : CHr Z consts_1 s.vm s.heap T373.vm T373.heap := by
            rw [hh, eh373]
            exact C371.trans (CHv.at X373 hZ362 hEL C371.1)
          refine own_ret (t := T373.setFrames fs) ?_ ⟨_, hrun, hended, _, _, rfl, ?_, hCf, hRW.1, hRW.2.1, hRW.2.2.1, hRW.2.2.2.mono (by decide) (by decide)⟩
          · exact retN X373 hx (t := .boolean) Bd.returns (by simp) (hb hby at_475) hr
          · show Q_rm0 Z _ _ _ _ _ h0 n0 _ T373.heap _
            rw [eh373]
            exact ⟨rfl, N373, trivial⟩
      · refine own_ifNo Xc239.here hx hby at_318 ((if0 _ _).trans (feq hc318_242).1) ?_
        refine own_iconst Xc239.here hx hby at_321 (v := (1 : Int32)) (by decide) ?_
        refine own_goto Xc239.here hx hby (pc' := 326) at_322 (by decide) (by decide) ?_
        refine own_istore Xc239.here hx hby at_326 (l' := #[.val (.int p1), .val (.int p2), .val (.int p3), .val (.int p4), .val (.int (p2 &&& (255 : Int32))), .val (.int (p1 &&& (7 : Int32))), .val (.ref x), .val (.int 0), .val (.int (p3.toInt8.toInt32)), .val (.int (((p3.toUInt32 >>> ((8 : Int32) &&& 31).toUInt32).toInt32).toInt8.toInt32)), .val (.int (((p3.toUInt32 >>> ((16 : Int32) &&& 31).toUInt32).toInt32).toInt8.toInt32)), .val (.int (p4 &&& (3 : Int32))), .val (.int 1), .unset, .unset, .unset, .unset]) rfl ?_
        refine own_iload Xc239.here hx hby at_328 rfl ?_
        refine own_ifNo Xc239.here hx hby at_330 ((if0 _ _).trans (feq (show ¬ ((1 : Int32) = (0 : Int32)) from (by decide))).1) ?_
        refine own_aconstNull Xc239.here hx hby at_333 ?_
        refine own_astore Xc239.here hx hby at_334 rfl (l' := #[.val (.int p1), .val (.int p2), .val (.int p3), .val (.int p4), .val (.int (p2 &&& (255 : Int32))), .val (.int (p1 &&& (7 : Int32))), .val (.ref x), .val (.int 0), .val (.int (p3.toInt8.toInt32)), .val (.int (((p3.toUInt32 >>> ((8 : Int32) &&& 31).toUInt32).toInt32).toInt8.toInt32)), .val (.int (((p3.toUInt32 >>> ((16 : Int32) &&& 31).toUInt32).toInt32).toInt8.toInt32)), .val (.int (p4 &&& (3 : Int32))), .val (.int 1), .val .null, .unset, .unset, .unset]) rfl ?_
        refine own_goto Xc239.here hx hby (pc' := 415) at_336 (by decide) (by decide) ?_
        refine own_newO Xc239 hx hZc239 hownc239 (own_w hw 1 rfl) (own_w hw 2 rfl) (own_w hw 3 rfl) ec239 hby at_415 (by decide) (by decide) ?_
        intro T376 h376 b376 X376 e376 E376 g376 A376 D376 lt376
        have z377 : hc239.size ≤ h376.size := E376.1
        have C378 := Cc239.trans (CHr.ext E376 Cc239.1)
        have F379 : Fld Z h376 b376 "com/example/sluice/sluice/MessageAttribute" "dataType" "Ljava/lang/String;" .null := D376 (Or.inr (own_w hw 11 rfl)) (ty := (.object "java/lang/String")) (by decide)
        have F380 : Fld Z h376 b376 "com/example/sluice/sluice/MessageAttribute" "stringValue" "Ljava/lang/String;" .null := D376 (Or.inr (own_w hw 16 rfl)) (ty := (.object "java/lang/String")) (by decide)
        have F381 : Fld Z h376 b376 "com/example/sluice/sluice/MessageAttribute" "binaryValue" "[B" .null := D376 (Or.inr (own_w hw 18 rfl)) (ty := (.array .byte)) (by decide)
        refine own_dup X376.here hx hby at_418 rfl ?_
        refine own_aload X376.here hx hby at_419 rfl rfl ?_
        refine own_aconstNull X376.here hx hby at_421 ?_
        refine own_aload X376.here hx hby at_422 rfl rfl ?_
        have f382 := (E_x.ext E376)
        have f383 := (Fc_x.ext E376)
        have f384 := (Fv_x.ext E376)
        have f385 := (V_t.ext E376)
        have f386 := (S_C.ext E376)
        have z388 : n0 ≤ h376.size := by omega
        refine own_specialH X376 hx hZc239 hEL rfl hownc239 (own_w hw 4 rfl) (own_w hw 5 rfl) (own_w hw 3 rfl) (own_w hw 6 rfl) (by decide) (maInit_N_null l Z a0 hw [] b376 x t kt n vs_ zc h376 n0 z388 A376 (by omega) F379 F380 F381 f382 f383 f384 f385 f386 hz hK) 1 (Nat.le_of_eq rfl) (by decide) (by decide) (by rw [hml]; rfl) (argsL := [(.ref x), .null, .null]) (st := [(.ref b376)]) (a := b376) (lenOf pd_10 rfl) rfl rfl (by decide) (by decide) e376 hby C378.1 hSc239 (by omega) at_424 ?_
        intro T387 v387 L387 vm387 X387 hS387 hZ387 hown387 hg387 Cn387 hQ387
        obtain ⟨rfl, Nq387, K387, P387_0, P387_1⟩ := hQ387
        have N387 := Fr.app Nc239 Nq387
        have z389 : h376.size ≤ T387.heap.size := K387.1
        have C390 := C378.trans Cn387
        have lt391 : T387.heap.size > b376 := P387_0.lt
        refine own_sh (T := T387) 427 #[.val (.int p1), .val (.int p2), .val (.int p3), .val (.int p4), .val (.int (p2 &&& (255 : Int32))), .val (.int (p1 &&& (7 : Int32))), .val (.ref x), .val (.int 0), .val (.int (p3.toInt8.toInt32)), .val (.int (((p3.toUInt32 >>> ((8 : Int32) &&& 31).toUInt32).toInt32).toInt8.toInt32)), .val (.int (((p3.toUInt32 >>> ((16 : Int32) &&& 31).toUInt32).toInt32).toInt8.toInt32)), .val (.int (p4 &&& (3 : Int32))), .val (.int 1), .val .null, .unset, .unset, .unset] [(.ref b376)] ?_
        refine own_astore X387.here hx hby at_427 rfl (l' := #[.val (.int p1), .val (.int p2), .val (.int p3), .val (.int p4), .val (.int (p2 &&& (255 : Int32))), .val (.int (p1 &&& (7 : Int32))), .val (.ref x), .val (.int 0), .val (.int (p3.toInt8.toInt32)), .val (.int (((p3.toUInt32 >>> ((8 : Int32) &&& 31).toUInt32).toInt32).toInt8.toInt32)), .val (.int (((p3.toUInt32 >>> ((16 : Int32) &&& 31).toUInt32).toInt32).toInt8.toInt32)), .val (.int (p4 &&& (3 : Int32))), .val (.int 1), .val .null, .val (.ref b376), .unset, .unset]) rfl ?_
        refine own_aload X387.here hx hby at_429 rfl rfl ?_
        refine own_ifnullYes X387.here hx hby (pc' := 448) at_431 (by decide) (by decide) ?_
        refine own_aload X387.here hx hby at_448 rfl rfl ?_
        have z393 : n0 ≤ T387.heap.size := by omega
        refine own_virtual X387 hx hZ387 hown387 (own_w hw 19 rfl) (own_w hw 20 rfl) (notFace_of_selects (args := #[]) (mvT hZ387 (own_w hw 22 rfl))) (own_w hw 22 rfl) (own_w hw 21 rfl) (own_w hw 3 rfl) (own_w hw 23 rfl) (by decide) (binV_null l Z a0 hw [] b376 T387.heap n0 z393 P387_1) 0 (Nat.le_of_eq rfl) (by decide) (by decide) (by rw [hml]; rfl) (argsL := []) (st := []) P387_0 (lenOf pd_11 rfl) rfl rfl (by decide) (by decide) rfl hby at_450 ?_
        intro T392 v392 L392 X392 hQ392
        obtain ⟨rfl, Nq392, eh392⟩ := hQ392
        have N392 := Fr.app N387 Nq392
        refine own_sh (T := T392) 453 #[.val (.int p1), .val (.int p2), .val (.int p3), .val (.int p4), .val (.int (p2 &&& (255 : Int32))), .val (.int (p1 &&& (7 : Int32))), .val (.ref x), .val (.int 0), .val (.int (p3.toInt8.toInt32)), .val (.int (((p3.toUInt32 >>> ((8 : Int32) &&& 31).toUInt32).toInt32).toInt8.toInt32)), .val (.int (((p3.toUInt32 >>> ((16 : Int32) &&& 31).toUInt32).toInt32).toInt8.toInt32)), .val (.int (p4 &&& (3 : Int32))), .val (.int 1), .val .null, .val (.ref b376), .unset, .unset] [.null] ?_
        refine own_astore X392.here hx hby at_453 rfl (l' := #[.val (.int p1), .val (.int p2), .val (.int p3), .val (.int p4), .val (.int (p2 &&& (255 : Int32))), .val (.int (p1 &&& (7 : Int32))), .val (.ref x), .val (.int 0), .val (.int (p3.toInt8.toInt32)), .val (.int (((p3.toUInt32 >>> ((8 : Int32) &&& 31).toUInt32).toInt32).toInt8.toInt32)), .val (.int (((p3.toUInt32 >>> ((16 : Int32) &&& 31).toUInt32).toInt32).toInt8.toInt32)), .val (.int (p4 &&& (3 : Int32))), .val (.int 1), .val .null, .val (.ref b376), .val .null, .unset]) rfl ?_
        refine own_iload X392.here hx hby at_455 rfl ?_
        refine own_ifYes X392.here hx hby (pc' := 465) at_457 ((if0 _ _).trans (teq (show (0 : Int32) = (0 : Int32) from (by decide))).1) (by decide) (by decide) ?_
        refine own_aload X392.here hx hby at_465 rfl rfl ?_
        refine own_ifnonnullNo X392.here hx hby at_467 ?_
        refine own_iconst X392.here hx hby at_470 (v := (1 : Int32)) (by decide) ?_
        refine own_goto X392.here hx hby (pc' := 475) at_471 (by decide) (by decide) ?_
        obtain ⟨fs, hr, hrun, hended, hRW⟩ := X392.leaveW hS387 (by rw [eh392]; omega) (v := some (.int 1)) (fun h => by rw [Bd.returns] at h; cases h)
        have hCf : CHr Z consts_1 s.vm s.heap T392.vm T392.heap := by
          rw [hh, eh392]
          exact C390.trans (CHv.at X392 hZ387 hEL C390.1)
        refine own_ret (t := T392.setFrames fs) ?_ ⟨_, hrun, hended, _, _, rfl, ?_, hCf, hRW.1, hRW.2.1, hRW.2.2.1, hRW.2.2.2.mono (by decide) (by decide)⟩
        · exact retN X392 hx (t := .boolean) Bd.returns (by simp) (hb hby at_475) hr
        · show Q_rm0 Z _ _ _ _ _ h0 n0 _ T392.heap _
          rw [eh392]
          exact ⟨rfl, N392, trivial⟩
    · intro J394
      refine own_sh (T := s₁) 14 #[.val (.int p1), .val (.int p2), .val (.int p3), .val (.int p4), .val (.int (p2 &&& (255 : Int32))), .val (.int (p1 &&& (7 : Int32))), .unset, .unset, .unset, .unset, .unset, .unset, .unset, .unset, .unset, .unset, .unset] [] ?_
      refine own_cut (fun Pq => ∀ (Tc395 : State) (hc395 : Heap) (loc395 : List Loc) (vmc395 : Vm) (kc395 : Nat) (Xc395 : Stand p l e room_1 (s.setVm vmc395) m #[(.int p1), (.int p2), (.int p3), (.int p4)] below meth c Tc395 loc395 12 400) (ec395 : Tc395.heap = hc395) (Nc395 : Fr n0 loc395) (zc395 : n0 ≤ hc395.size) (yc395 : h0.size ≤ hc395.size) (hSc395 : s.Since vmc395 kc395) (hkc395 : kc395 ≤ hc395.size) (hZc395 : Z.Warmed39 vmc395) (hownc395 : vmc395.findClass "com/example/sluice/sluice/MessageAttributeBinaryValuePinLaw" = some m.cls) (Cc395 : CHr Z consts_1 s.vm h0 vmc395 hc395) (S_C : Sta Z hc395 "java/lang/String" "COMPACT_STRINGS" "Z" (.int zc)), own_Go p.tables e below Pq (Tc395.setTop (mkF m 292 #[.val (.int p1), .val (.int p2), .val (.int p3), .val (.int p4), .val (.int (p2 &&& (255 : Int32))), .val (.int (p1 &&& (7 : Int32))), .val .null, .val (.int 0), .unset, .unset, .unset, .unset, .unset, .unset, .unset, .unset, .unset] []))) ?_ ?_
      · intro Tc395 hc395 loc395 vmc395 kc395 Xc395 ec395 Nc395 zc395 yc395 hSc395 hkc395 hZc395 hownc395 Cc395 S_C
        refine own_iloadN Xc395.here hx hby at_292 rfl ?_
        refine own_i2b Xc395.here hx hby at_293 rfl ?_
        refine own_istore Xc395.here hx hby at_294 (l' := #[.val (.int p1), .val (.int p2), .val (.int p3), .val (.int p4), .val (.int (p2 &&& (255 : Int32))), .val (.int (p1 &&& (7 : Int32))), .val .null, .val (.int 0), .val (.int (p3.toInt8.toInt32)), .unset, .unset, .unset, .unset, .unset, .unset, .unset, .unset]) rfl ?_
        refine own_iloadN Xc395.here hx hby at_296 rfl ?_
        refine own_bipush Xc395.here hx hby at_297 (v := (8 : Int32)) (by decide) ?_
        refine own_iushr Xc395.here hx hby at_299 rfl ?_
        refine own_i2b Xc395.here hx hby at_300 rfl ?_
        refine own_istore Xc395.here hx hby at_301 (l' := #[.val (.int p1), .val (.int p2), .val (.int p3), .val (.int p4), .val (.int (p2 &&& (255 : Int32))), .val (.int (p1 &&& (7 : Int32))), .val .null, .val (.int 0), .val (.int (p3.toInt8.toInt32)), .val (.int (((p3.toUInt32 >>> ((8 : Int32) &&& 31).toUInt32).toInt32).toInt8.toInt32)), .unset, .unset, .unset, .unset, .unset, .unset, .unset]) rfl ?_
        refine own_iloadN Xc395.here hx hby at_303 rfl ?_
        refine own_bipush Xc395.here hx hby at_304 (v := (16 : Int32)) (by decide) ?_
        refine own_iushr Xc395.here hx hby at_306 rfl ?_
        refine own_i2b Xc395.here hx hby at_307 rfl ?_
        refine own_istore Xc395.here hx hby at_308 (l' := #[.val (.int p1), .val (.int p2), .val (.int p3), .val (.int p4), .val (.int (p2 &&& (255 : Int32))), .val (.int (p1 &&& (7 : Int32))), .val .null, .val (.int 0), .val (.int (p3.toInt8.toInt32)), .val (.int (((p3.toUInt32 >>> ((8 : Int32) &&& 31).toUInt32).toInt32).toInt8.toInt32)), .val (.int (((p3.toUInt32 >>> ((16 : Int32) &&& 31).toUInt32).toInt32).toInt8.toInt32)), .unset, .unset, .unset, .unset, .unset, .unset]) rfl ?_
        refine own_iloadN Xc395.here hx hby at_310 rfl ?_
        refine own_iconst Xc395.here hx hby at_311 (v := (3 : Int32)) (by decide) ?_
        refine own_iand Xc395.here hx hby at_312 rfl ?_
        refine own_istore Xc395.here hx hby at_313 (l' := #[.val (.int p1), .val (.int p2), .val (.int p3), .val (.int p4), .val (.int (p2 &&& (255 : Int32))), .val (.int (p1 &&& (7 : Int32))), .val .null, .val (.int 0), .val (.int (p3.toInt8.toInt32)), .val (.int (((p3.toUInt32 >>> ((8 : Int32) &&& 31).toUInt32).toInt32).toInt8.toInt32)), .val (.int (((p3.toUInt32 >>> ((16 : Int32) &&& 31).toUInt32).toInt32).toInt8.toInt32)), .val (.int (p4 &&& (3 : Int32))), .unset, .unset, .unset, .unset, .unset]) rfl ?_
        refine own_iloadN Xc395.here hx hby at_315 rfl ?_
        refine own_iconst Xc395.here hx hby at_316 (v := (4 : Int32)) (by decide) ?_
        refine own_iand Xc395.here hx hby at_317 rfl ?_
        by_cases hc318_396 : (p4 &&& (4 : Int32)) = (0 : Int32)
        · refine own_ifYes Xc395.here hx hby (pc' := 325) at_318 ((if0 _ _).trans (teq hc318_396).1) (by decide) (by decide) ?_
          refine own_iconst Xc395.here hx hby at_325 (v := (0 : Int32)) (by decide) ?_
          refine own_istore Xc395.here hx hby at_326 (l' := #[.val (.int p1), .val (.int p2), .val (.int p3), .val (.int p4), .val (.int (p2 &&& (255 : Int32))), .val (.int (p1 &&& (7 : Int32))), .val .null, .val (.int 0), .val (.int (p3.toInt8.toInt32)), .val (.int (((p3.toUInt32 >>> ((8 : Int32) &&& 31).toUInt32).toInt32).toInt8.toInt32)), .val (.int (((p3.toUInt32 >>> ((16 : Int32) &&& 31).toUInt32).toInt32).toInt8.toInt32)), .val (.int (p4 &&& (3 : Int32))), .val (.int 0), .unset, .unset, .unset, .unset]) rfl ?_
          refine own_iload Xc395.here hx hby at_328 rfl ?_
          refine own_ifYes Xc395.here hx hby (pc' := 339) at_330 ((if0 _ _).trans (teq (show (0 : Int32) = (0 : Int32) from (by decide))).1) (by decide) (by decide) ?_
          refine own_sh (T := Tc395) 339 #[.val (.int p1), .val (.int p2), .val (.int p3), .val (.int p4), .val (.int (p2 &&& (255 : Int32))), .val (.int (p1 &&& (7 : Int32))), .val .null, .val (.int 0), .val (.int (p3.toInt8.toInt32)), .val (.int (((p3.toUInt32 >>> ((8 : Int32) &&& 31).toUInt32).toInt32).toInt8.toInt32)), .val (.int (((p3.toUInt32 >>> ((16 : Int32) &&& 31).toUInt32).toInt32).toInt8.toInt32)), .val (.int (p4 &&& (3 : Int32))), .val (.int 0), .unset, .unset, .unset, .unset] [] ?_
          rcases own_and3 p4 with hk | hk | hk | hk
          · rw [hk]
            refine own_iload Xc395.here hx hby at_339 rfl ?_
            refine own_ifNo Xc395.here hx hby at_341 ((if0 _ _).trans (teq (show (0 : Int32) = (0 : Int32) from (by decide))).2) ?_
            refine own_iconst Xc395.here hx hby at_344 (v := (0 : Int32)) (by decide) ?_
            refine own_newP Xc395 hx hZc395 (aty := .byte) (own_w hw 0 rfl) ec395 hby at_345 (by decide) 0 (by decide) (by decide) (by decide) (by decide) (ad := "[B") (by decide) ?_
            intro T397 h397 k397 b397 X397 e397 E397 g397 V397 C397 lt397
            have z398 : hc395.size ≤ h397.size := E397.1
            have C399 := Cc395.trans (CHr.ext E397 Cc395.1)
            have V400 : Arv Z h397 b397 k397 .byte (0 : Int32) [] (.int 0) := V397
            refine own_astore X397.here hx hby at_347 rfl (l' := #[.val (.int p1), .val (.int p2), .val (.int p3), .val (.int p4), .val (.int (p2 &&& (255 : Int32))), .val (.int (p1 &&& (7 : Int32))), .val .null, .val (.int 0), .val (.int (p3.toInt8.toInt32)), .val (.int (((p3.toUInt32 >>> ((8 : Int32) &&& 31).toUInt32).toInt32).toInt8.toInt32)), .val (.int (((p3.toUInt32 >>> ((16 : Int32) &&& 31).toUInt32).toInt32).toInt8.toInt32)), .val (.int 0), .val (.int 0), .val (.ref b397), .unset, .unset, .unset]) rfl ?_
            refine own_goto X397.here hx hby (pc' := 415) at_349 (by decide) (by decide) ?_
            refine own_newO X397 hx hZc395 hownc395 (own_w hw 1 rfl) (own_w hw 2 rfl) (own_w hw 3 rfl) e397 hby at_415 (by decide) (by decide) ?_
            intro T401 h401 b401 X401 e401 E401 g401 A401 D401 lt401
            have z402 : h397.size ≤ h401.size := E401.1
            have C403 := C399.trans (CHr.ext E401 C399.1)
            have F404 : Fld Z h401 b401 "com/example/sluice/sluice/MessageAttribute" "dataType" "Ljava/lang/String;" .null := D401 (Or.inr (own_w hw 11 rfl)) (ty := (.object "java/lang/String")) (by decide)
            have F405 : Fld Z h401 b401 "com/example/sluice/sluice/MessageAttribute" "stringValue" "Ljava/lang/String;" .null := D401 (Or.inr (own_w hw 16 rfl)) (ty := (.object "java/lang/String")) (by decide)
            have F406 : Fld Z h401 b401 "com/example/sluice/sluice/MessageAttribute" "binaryValue" "[B" .null := D401 (Or.inr (own_w hw 18 rfl)) (ty := (.array .byte)) (by decide)
            refine own_dup X401.here hx hby at_418 rfl ?_
            refine own_aload X401.here hx hby at_419 rfl rfl ?_
            refine own_aconstNull X401.here hx hby at_421 ?_
            refine own_aload X401.here hx hby at_422 rfl rfl ?_
            have z408 : n0 ≤ h401.size := by omega
            refine own_special X401 hx hZc395 rfl hownc395 (own_w hw 4 rfl) (own_w hw 5 rfl) (own_w hw 3 rfl) (own_w hw 6 rfl) (by decide) (maInit_0_any l Z a0 hw [] b401 b397 h401 n0 z408 A401 (by omega) F404 F405 F406) 1 (Nat.le_of_eq rfl) (by decide) (by decide) (by rw [hml]; rfl) (argsL := [.null, .null, (.ref b397)]) (st := [(.ref b401)]) (a := b401) (lenOf pd_10 rfl) rfl rfl (by decide) (by decide) e401 hby at_424 ?_
            intro T407 v407 L407 X407 hQ407
            obtain ⟨rfl, Nq407, K407, P407_0, P407_1⟩ := hQ407
            have N407 := Fr.app Nc395 Nq407
            have z409 : h401.size ≤ T407.heap.size := K407.1
            have C410 := C403.trans (CHr.keep K407 (sfS (Safe.exa hZc395.alike A401 (by decide) (by decide)) sf0) C403.1)
            have lt411 : T407.heap.size > b401 := P407_0.lt
            refine own_sh (T := T407) 427 #[.val (.int p1), .val (.int p2), .val (.int p3), .val (.int p4), .val (.int (p2 &&& (255 : Int32))), .val (.int (p1 &&& (7 : Int32))), .val .null, .val (.int 0), .val (.int (p3.toInt8.toInt32)), .val (.int (((p3.toUInt32 >>> ((8 : Int32) &&& 31).toUInt32).toInt32).toInt8.toInt32)), .val (.int (((p3.toUInt32 >>> ((16 : Int32) &&& 31).toUInt32).toInt32).toInt8.toInt32)), .val (.int 0), .val (.int 0), .val (.ref b397), .unset, .unset, .unset] [(.ref b401)] ?_
            refine own_astore X407.here hx hby at_427 rfl (l' := #[.val (.int p1), .val (.int p2), .val (.int p3), .val (.int p4), .val (.int (p2 &&& (255 : Int32))), .val (.int (p1 &&& (7 : Int32))), .val .null, .val (.int 0), .val (.int (p3.toInt8.toInt32)), .val (.int (((p3.toUInt32 >>> ((8 : Int32) &&& 31).toUInt32).toInt32).toInt8.toInt32)), .val (.int (((p3.toUInt32 >>> ((16 : Int32) &&& 31).toUInt32).toInt32).toInt8.toInt32)), .val (.int 0), .val (.int 0), .val (.ref b397), .val (.ref b401), .unset, .unset]) rfl ?_
            refine own_aload X407.here hx hby at_429 rfl rfl ?_
            refine own_ifnullNo X407.here hx hby at_431 ?_
            refine own_iload X407.here hx hby at_434 rfl ?_
            refine own_ifYes X407.here hx hby (pc' := 448) at_436 ((if0 _ _).trans (flt (show ¬ ((0 : Int32) < (0 : Int32)) from (by decide))).2.2.2) (by decide) (by decide) ?_
            refine own_aload X407.here hx hby at_448 rfl rfl ?_
            have z413 : n0 ≤ T407.heap.size := by omega
            refine own_virtual X407 hx hZc395 hownc395 (own_w hw 19 rfl) (own_w hw 20 rfl) (notFace_of_selects (args := #[]) (mvT hZc395 (own_w hw 22 rfl))) (own_w hw 22 rfl) (own_w hw 21 rfl) (own_w hw 3 rfl) (own_w hw 23 rfl) (by decide) (binV_null l Z a0 hw [] b401 T407.heap n0 z413 P407_1) 0 (Nat.le_of_eq rfl) (by decide) (by decide) (by rw [hml]; rfl) (argsL := []) (st := []) P407_0 (lenOf pd_11 rfl) rfl rfl (by decide) (by decide) rfl hby at_450 ?_
            intro T412 v412 L412 X412 hQ412
            obtain ⟨rfl, Nq412, eh412⟩ := hQ412
            have N412 := Fr.app N407 Nq412
            refine own_sh (T := T412) 453 #[.val (.int p1), .val (.int p2), .val (.int p3), .val (.int p4), .val (.int (p2 &&& (255 : Int32))), .val (.int (p1 &&& (7 : Int32))), .val .null, .val (.int 0), .val (.int (p3.toInt8.toInt32)), .val (.int (((p3.toUInt32 >>> ((8 : Int32) &&& 31).toUInt32).toInt32).toInt8.toInt32)), .val (.int (((p3.toUInt32 >>> ((16 : Int32) &&& 31).toUInt32).toInt32).toInt8.toInt32)), .val (.int 0), .val (.int 0), .val (.ref b397), .val (.ref b401), .unset, .unset] [.null] ?_
            refine own_astore X412.here hx hby at_453 rfl (l' := #[.val (.int p1), .val (.int p2), .val (.int p3), .val (.int p4), .val (.int (p2 &&& (255 : Int32))), .val (.int (p1 &&& (7 : Int32))), .val .null, .val (.int 0), .val (.int (p3.toInt8.toInt32)), .val (.int (((p3.toUInt32 >>> ((8 : Int32) &&& 31).toUInt32).toInt32).toInt8.toInt32)), .val (.int (((p3.toUInt32 >>> ((16 : Int32) &&& 31).toUInt32).toInt32).toInt8.toInt32)), .val (.int 0), .val (.int 0), .val (.ref b397), .val (.ref b401), .val .null, .unset]) rfl ?_
            refine own_iload X412.here hx hby at_455 rfl ?_
            refine own_ifYes X412.here hx hby (pc' := 465) at_457 ((if0 _ _).trans (teq (show (0 : Int32) = (0 : Int32) from (by decide))).1) (by decide) (by decide) ?_
            refine own_aload X412.here hx hby at_465 rfl rfl ?_
            refine own_ifnonnullNo X412.here hx hby at_467 ?_
            refine own_iconst X412.here hx hby at_470 (v := (1 : Int32)) (by decide) ?_
            refine own_goto X412.here hx hby (pc' := 475) at_471 (by decide) (by decide) ?_
            obtain ⟨fs, hr, hrun, hended, hRW⟩ := X412.leaveW hSc395 (by rw [eh412]; omega) (v := some (.int 1)) (fun h => by rw [Bd.returns] at h; cases h)
            have hCf : CHr Z consts_1 s.vm s.heap T412.vm T412.heap := by
              rw [hh, eh412]
              exact C410.trans (CHv.at X412 hZc395 hEL C410.1)
            refine own_ret (t := T412.setFrames fs) ?_ ⟨_, hrun, hended, _, _, rfl, ?_, hCf, hRW.1, hRW.2.1, hRW.2.2.1, hRW.2.2.2.mono (by decide) (by decide)⟩
            · exact retN X412 hx (t := .boolean) Bd.returns (by simp) (hb hby at_475) hr
            · show Q_rm0 Z _ _ _ _ _ h0 n0 _ T412.heap _
              rw [eh412]
              exact ⟨rfl, N412, trivial⟩
          · rw [hk]
            refine own_iload Xc395.here hx hby at_339 rfl ?_
            refine own_ifYes Xc395.here hx hby (pc' := 352) at_341 ((if0 _ _).trans (feq (show ¬ ((1 : Int32) = (0 : Int32)) from (by decide))).2) (by decide) (by decide) ?_
            refine own_iload Xc395.here hx hby at_352 rfl ?_
            refine own_iconst Xc395.here hx hby at_354 (v := (1 : Int32)) (by decide) ?_
            refine own_icmpNo Xc395.here hx hby at_355 (teq (show (1 : Int32) = (1 : Int32) from (by decide))).2 ?_
            refine own_iconst Xc395.here hx hby at_358 (v := (1 : Int32)) (by decide) ?_
            refine own_newP Xc395 hx hZc395 (aty := .byte) (own_w hw 0 rfl) ec395 hby at_359 (by decide) 1 (by decide) (by decide) (by decide) (by decide) (ad := "[B") (by decide) ?_
            intro T414 h414 k414 b414 X414 e414 E414 g414 V414 C414 lt414
            have z415 : hc395.size ≤ h414.size := E414.1
            have C416 := Cc395.trans (CHr.ext E414 Cc395.1)
            have V417 : Arv Z h414 b414 k414 .byte (1 : Int32) [(.int 0)] (.int 0) := V414.pad (pad_rep [] (.int 0) 1)
            refine own_dup X414.here hx hby at_361 rfl ?_
            refine own_iconst X414.here hx hby at_362 (v := (0 : Int32)) (by decide) ?_
            refine own_iload X414.here hx hby at_363 rfl ?_
            refine own_bastore X414 hx hZc395 e414 V417 ⟨by decide, by decide⟩ 0 (by decide) (Nat.le_of_ble_eq_true rfl) (w := (.int (p3.toInt8.toInt32))) (congrArg Value.int (own_i2bb p3)) hby at_365 Nc395 (by omega) ?_
            intro T418 h418 lo418 X418 e418 N418 W418 V418 z418
            have V419 : Arv Z h418 b414 k414 .byte (1 : Int32) [(.int (p3.toInt8.toInt32))] (.int 0) := V418
            have sf420 := (Safe.ext E414 Cc395.1 (Safe.new (h := hc395) (x := b414) (by omega)))
            have C421 := C416.trans (CHr.wr W418 sf420 C416.1)
            refine own_astore X418.here hx hby at_366 rfl (l' := #[.val (.int p1), .val (.int p2), .val (.int p3), .val (.int p4), .val (.int (p2 &&& (255 : Int32))), .val (.int (p1 &&& (7 : Int32))), .val .null, .val (.int 0), .val (.int (p3.toInt8.toInt32)), .val (.int (((p3.toUInt32 >>> ((8 : Int32) &&& 31).toUInt32).toInt32).toInt8.toInt32)), .val (.int (((p3.toUInt32 >>> ((16 : Int32) &&& 31).toUInt32).toInt32).toInt8.toInt32)), .val (.int 1), .val (.int 0), .val (.ref b414), .unset, .unset, .unset]) rfl ?_
            refine own_goto X418.here hx hby (pc' := 415) at_368 (by decide) (by decide) ?_
            refine own_newO X418 hx hZc395 hownc395 (own_w hw 1 rfl) (own_w hw 2 rfl) (own_w hw 3 rfl) e418 hby at_415 (by decide) (by decide) ?_
            intro T422 h422 b422 X422 e422 E422 g422 A422 D422 lt422
            have z423 : h418.size ≤ h422.size := E422.1
            have C424 := C421.trans (CHr.ext E422 C421.1)
            have F425 : Fld Z h422 b422 "com/example/sluice/sluice/MessageAttribute" "dataType" "Ljava/lang/String;" .null := D422 (Or.inr (own_w hw 11 rfl)) (ty := (.object "java/lang/String")) (by decide)
            have F426 : Fld Z h422 b422 "com/example/sluice/sluice/MessageAttribute" "stringValue" "Ljava/lang/String;" .null := D422 (Or.inr (own_w hw 16 rfl)) (ty := (.object "java/lang/String")) (by decide)
            have F427 : Fld Z h422 b422 "com/example/sluice/sluice/MessageAttribute" "binaryValue" "[B" .null := D422 (Or.inr (own_w hw 18 rfl)) (ty := (.array .byte)) (by decide)
            refine own_dup X422.here hx hby at_418 rfl ?_
            refine own_aload X422.here hx hby at_419 rfl rfl ?_
            refine own_aconstNull X422.here hx hby at_421 ?_
            refine own_aload X422.here hx hby at_422 rfl rfl ?_
            have z429 : n0 ≤ h422.size := by omega
            refine own_special X422 hx hZc395 rfl hownc395 (own_w hw 4 rfl) (own_w hw 5 rfl) (own_w hw 3 rfl) (own_w hw 6 rfl) (by decide) (maInit_0_any l Z a0 hw [] b422 b414 h422 n0 z429 A422 (by omega) F425 F426 F427) 1 (Nat.le_of_eq rfl) (by decide) (by decide) (by rw [hml]; rfl) (argsL := [.null, .null, (.ref b414)]) (st := [(.ref b422)]) (a := b422) (lenOf pd_10 rfl) rfl rfl (by decide) (by decide) e422 hby at_424 ?_
            intro T428 v428 L428 X428 hQ428
            obtain ⟨rfl, Nq428, K428, P428_0, P428_1⟩ := hQ428
            have N428 := Fr.app N418 Nq428
            have z430 : h422.size ≤ T428.heap.size := K428.1
            have C431 := C424.trans (CHr.keep K428 (sfS (Safe.exa hZc395.alike A422 (by decide) (by decide)) sf0) C424.1)
            have lt432 : T428.heap.size > b422 := P428_0.lt
            refine own_sh (T := T428) 427 #[.val (.int p1), .val (.int p2), .val (.int p3), .val (.int p4), .val (.int (p2 &&& (255 : Int32))), .val (.int (p1 &&& (7 : Int32))), .val .null, .val (.int 0), .val (.int (p3.toInt8.toInt32)), .val (.int (((p3.toUInt32 >>> ((8 : Int32) &&& 31).toUInt32).toInt32).toInt8.toInt32)), .val (.int (((p3.toUInt32 >>> ((16 : Int32) &&& 31).toUInt32).toInt32).toInt8.toInt32)), .val (.int 1), .val (.int 0), .val (.ref b414), .unset, .unset, .unset] [(.ref b422)] ?_
            refine own_astore X428.here hx hby at_427 rfl (l' := #[.val (.int p1), .val (.int p2), .val (.int p3), .val (.int p4), .val (.int (p2 &&& (255 : Int32))), .val (.int (p1 &&& (7 : Int32))), .val .null, .val (.int 0), .val (.int (p3.toInt8.toInt32)), .val (.int (((p3.toUInt32 >>> ((8 : Int32) &&& 31).toUInt32).toInt32).toInt8.toInt32)), .val (.int (((p3.toUInt32 >>> ((16 : Int32) &&& 31).toUInt32).toInt32).toInt8.toInt32)), .val (.int 1), .val (.int 0), .val (.ref b414), .val (.ref b422), .unset, .unset]) rfl ?_
            refine own_aload X428.here hx hby at_429 rfl rfl ?_
            refine own_ifnullNo X428.here hx hby at_431 ?_
            refine own_iload X428.here hx hby at_434 rfl ?_
            refine own_ifNo X428.here hx hby at_436 ((if0 _ _).trans (tlt (show (0 : Int32) < (1 : Int32) from (by decide))).2.2.2) ?_
            refine own_aload X428.here hx hby at_439 rfl rfl ?_
            refine own_iconst X428.here hx hby at_441 (v := (0 : Int32)) (by decide) ?_
            refine own_iload X428.here hx hby at_442 rfl ?_
            refine own_iconst X428.here hx hby at_444 (v := (-1 : Int32)) (by decide) ?_
            refine own_ixor X428.here hx hby at_445 rfl ?_
            refine own_i2b X428.here hx hby at_446 rfl ?_
            have f433 := ((V419.ext E422).keep K428 (ninS (own_nn (by omega)) nin0))
            refine own_bastore X428 hx hZc395 rfl f433 ⟨by decide, by decide⟩ 0 (by decide) (Nat.le_of_ble_eq_true rfl) (w := (.int (((p3.toInt8.toInt32) ^^^ (-1 : Int32)).toInt8.toInt32))) (congrArg Value.int (own_i2bb ((p3.toInt8.toInt32) ^^^ (-1 : Int32)))) hby at_447 N428 (by omega) ?_
            intro T434 h434 lo434 X434 e434 N434 W434 V434 z434
            have V435 : Arv Z h434 b414 k414 .byte (1 : Int32) [(.int (((p3.toInt8.toInt32) ^^^ (-1 : Int32)).toInt8.toInt32))] (.int 0) := V434
            have sf436 := (Safe.keep K428 (sfS (Safe.exa hZc395.alike A422 (by decide) (by decide)) sf0) C424.1 (Safe.ext E422 C421.1 (Safe.wr W418 sf420 C416.1 sf420)))
            have C437 := C431.trans (CHr.wr W434 sf436 C431.1)
            refine own_aload X434.here hx hby at_448 rfl rfl ?_
            have f438 := (P428_1.other W434 (Or.inl (own_nn (by omega))))
            have z440 : n0 ≤ h434.size := by omega
            have f441 := (P428_0.wr W434)
            refine own_virtual X434 hx hZc395 hownc395 (own_w hw 19 rfl) (own_w hw 20 rfl) (notFace_of_selects (args := #[]) (mvT hZc395 (own_w hw 22 rfl))) (own_w hw 22 rfl) (own_w hw 21 rfl) (own_w hw 3 rfl) (own_w hw 23 rfl) (by decide) (binV_null l Z a0 hw [] b422 h434 n0 z440 f438) 0 (Nat.le_of_eq rfl) (by decide) (by decide) (by rw [hml]; rfl) (argsL := []) (st := []) f441 (lenOf pd_11 rfl) rfl rfl (by decide) (by decide) e434 hby at_450 ?_
            intro T439 v439 L439 X439 hQ439
            obtain ⟨rfl, Nq439, eh439⟩ := hQ439
            have N439 := Fr.app N434 Nq439
            refine own_sh (T := T439) 453 #[.val (.int p1), .val (.int p2), .val (.int p3), .val (.int p4), .val (.int (p2 &&& (255 : Int32))), .val (.int (p1 &&& (7 : Int32))), .val .null, .val (.int 0), .val (.int (p3.toInt8.toInt32)), .val (.int (((p3.toUInt32 >>> ((8 : Int32) &&& 31).toUInt32).toInt32).toInt8.toInt32)), .val (.int (((p3.toUInt32 >>> ((16 : Int32) &&& 31).toUInt32).toInt32).toInt8.toInt32)), .val (.int 1), .val (.int 0), .val (.ref b414), .val (.ref b422), .unset, .unset] [.null] ?_
            refine own_astore X439.here hx hby at_453 rfl (l' := #[.val (.int p1), .val (.int p2), .val (.int p3), .val (.int p4), .val (.int (p2 &&& (255 : Int32))), .val (.int (p1 &&& (7 : Int32))), .val .null, .val (.int 0), .val (.int (p3.toInt8.toInt32)), .val (.int (((p3.toUInt32 >>> ((8 : Int32) &&& 31).toUInt32).toInt32).toInt8.toInt32)), .val (.int (((p3.toUInt32 >>> ((16 : Int32) &&& 31).toUInt32).toInt32).toInt8.toInt32)), .val (.int 1), .val (.int 0), .val (.ref b414), .val (.ref b422), .val .null, .unset]) rfl ?_
            refine own_iload X439.here hx hby at_455 rfl ?_
            refine own_ifYes X439.here hx hby (pc' := 465) at_457 ((if0 _ _).trans (teq (show (0 : Int32) = (0 : Int32) from (by decide))).1) (by decide) (by decide) ?_
            refine own_aload X439.here hx hby at_465 rfl rfl ?_
            refine own_ifnonnullNo X439.here hx hby at_467 ?_
            refine own_iconst X439.here hx hby at_470 (v := (1 : Int32)) (by decide) ?_
            refine own_goto X439.here hx hby (pc' := 475) at_471 (by decide) (by decide) ?_
            obtain ⟨fs, hr, hrun, hended, hRW⟩ := X439.leaveW hSc395 (by rw [eh439]; omega) (v := some (.int 1)) (fun h => by rw [Bd.returns] at h; cases h)
            have hCf : CHr Z consts_1 s.vm s.heap T439.vm T439.heap := by
              rw [hh, eh439]
              exact C437.trans (CHv.at X439 hZc395 hEL C437.1)
            refine own_ret (t := T439.setFrames fs) ?_ ⟨_, hrun, hended, _, _, rfl, ?_, hCf, hRW.1, hRW.2.1, hRW.2.2.1, hRW.2.2.2.mono (by decide) (by decide)⟩
            · exact retN X439 hx (t := .boolean) Bd.returns (by simp) (hb hby at_475) hr
            · show Q_rm0 Z _ _ _ _ _ h0 n0 _ T439.heap _
              rw [eh439]
              exact ⟨rfl, N439, trivial⟩
          · rw [hk]
            refine own_iload Xc395.here hx hby at_339 rfl ?_
            refine own_ifYes Xc395.here hx hby (pc' := 352) at_341 ((if0 _ _).trans (feq (show ¬ ((2 : Int32) = (0 : Int32)) from (by decide))).2) (by decide) (by decide) ?_
            refine own_iload Xc395.here hx hby at_352 rfl ?_
            refine own_iconst Xc395.here hx hby at_354 (v := (1 : Int32)) (by decide) ?_
            refine own_icmpYes Xc395.here hx hby (pc' := 371) at_355 (feq (show ¬ ((2 : Int32) = (1 : Int32)) from (by decide))).2 (by decide) (by decide) ?_
            refine own_iload Xc395.here hx hby at_371 rfl ?_
            refine own_iconst Xc395.here hx hby at_373 (v := (2 : Int32)) (by decide) ?_
            refine own_icmpNo Xc395.here hx hby at_374 (teq (show (2 : Int32) = (2 : Int32) from (by decide))).2 ?_
            refine own_iconst Xc395.here hx hby at_377 (v := (2 : Int32)) (by decide) ?_
            refine own_newP Xc395 hx hZc395 (aty := .byte) (own_w hw 0 rfl) ec395 hby at_378 (by decide) 2 (by decide) (by decide) (by decide) (by decide) (ad := "[B") (by decide) ?_
            intro T442 h442 k442 b442 X442 e442 E442 g442 V442 C442 lt442
            have z443 : hc395.size ≤ h442.size := E442.1
            have C444 := Cc395.trans (CHr.ext E442 Cc395.1)
            have V445 : Arv Z h442 b442 k442 .byte (2 : Int32) [(.int 0), (.int 0)] (.int 0) := V442.pad (pad_rep [] (.int 0) 2)
            refine own_dup X442.here hx hby at_380 rfl ?_
            refine own_iconst X442.here hx hby at_381 (v := (0 : Int32)) (by decide) ?_
            refine own_iload X442.here hx hby at_382 rfl ?_
            refine own_bastore X442 hx hZc395 e442 V445 ⟨by decide, by decide⟩ 0 (by decide) (Nat.le_of_ble_eq_true rfl) (w := (.int (p3.toInt8.toInt32))) (congrArg Value.int (own_i2bb p3)) hby at_384 Nc395 (by omega) ?_
            intro T446 h446 lo446 X446 e446 N446 W446 V446 z446
            have V447 : Arv Z h446 b442 k442 .byte (2 : Int32) [(.int (p3.toInt8.toInt32)), (.int 0)] (.int 0) := V446
            have sf448 := (Safe.ext E442 Cc395.1 (Safe.new (h := hc395) (x := b442) (by omega)))
            have C449 := C444.trans (CHr.wr W446 sf448 C444.1)
            refine own_dup X446.here hx hby at_385 rfl ?_
            refine own_iconst X446.here hx hby at_386 (v := (1 : Int32)) (by decide) ?_
            refine own_iload X446.here hx hby at_387 rfl ?_
            refine own_bastore X446 hx hZc395 e446 V447 ⟨by decide, by decide⟩ 1 (by decide) (Nat.le_of_ble_eq_true rfl) (w := (.int (((p3.toUInt32 >>> ((8 : Int32) &&& 31).toUInt32).toInt32).toInt8.toInt32))) (congrArg Value.int (own_i2bb ((p3.toUInt32 >>> ((8 : Int32) &&& 31).toUInt32).toInt32))) hby at_389 N446 (by omega) ?_
            intro T450 h450 lo450 X450 e450 N450 W450 V450 z450
            have V451 : Arv Z h450 b442 k442 .byte (2 : Int32) [(.int (p3.toInt8.toInt32)), (.int (((p3.toUInt32 >>> ((8 : Int32) &&& 31).toUInt32).toInt32).toInt8.toInt32))] (.int 0) := V450
            have sf452 := (Safe.wr W446 sf448 C444.1 sf448)
            have C453 := C449.trans (CHr.wr W450 sf452 C449.1)
            refine own_astore X450.here hx hby at_390 rfl (l' := #[.val (.int p1), .val (.int p2), .val (.int p3), .val (.int p4), .val (.int (p2 &&& (255 : Int32))), .val (.int (p1 &&& (7 : Int32))), .val .null, .val (.int 0), .val (.int (p3.toInt8.toInt32)), .val (.int (((p3.toUInt32 >>> ((8 : Int32) &&& 31).toUInt32).toInt32).toInt8.toInt32)), .val (.int (((p3.toUInt32 >>> ((16 : Int32) &&& 31).toUInt32).toInt32).toInt8.toInt32)), .val (.int 2), .val (.int 0), .val (.ref b442), .unset, .unset, .unset]) rfl ?_
            refine own_goto X450.here hx hby (pc' := 415) at_392 (by decide) (by decide) ?_
            refine own_newO X450 hx hZc395 hownc395 (own_w hw 1 rfl) (own_w hw 2 rfl) (own_w hw 3 rfl) e450 hby at_415 (by decide) (by decide) ?_
            intro T454 h454 b454 X454 e454 E454 g454 A454 D454 lt454
            have z455 : h450.size ≤ h454.size := E454.1
            have C456 := C453.trans (CHr.ext E454 C453.1)
            have F457 : Fld Z h454 b454 "com/example/sluice/sluice/MessageAttribute" "dataType" "Ljava/lang/String;" .null := D454 (Or.inr (own_w hw 11 rfl)) (ty := (.object "java/lang/String")) (by decide)
            have F458 : Fld Z h454 b454 "com/example/sluice/sluice/MessageAttribute" "stringValue" "Ljava/lang/String;" .null := D454 (Or.inr (own_w hw 16 rfl)) (ty := (.object "java/lang/String")) (by decide)
            have F459 : Fld Z h454 b454 "com/example/sluice/sluice/MessageAttribute" "binaryValue" "[B" .null := D454 (Or.inr (own_w hw 18 rfl)) (ty := (.array .byte)) (by decide)
            refine own_dup X454.here hx hby at_418 rfl ?_
            refine own_aload X454.here hx hby at_419 rfl rfl ?_
            refine own_aconstNull X454.here hx hby at_421 ?_
            refine own_aload X454.here hx hby at_422 rfl rfl ?_
            have z461 : n0 ≤ h454.size := by omega
            refine own_special X454 hx hZc395 rfl hownc395 (own_w hw 4 rfl) (own_w hw 5 rfl) (own_w hw 3 rfl) (own_w hw 6 rfl) (by decide) (maInit_0_any l Z a0 hw [] b454 b442 h454 n0 z461 A454 (by omega) F457 F458 F459) 1 (Nat.le_of_eq rfl) (by decide) (by decide) (by rw [hml]; rfl) (argsL := [.null, .null, (.ref b442)]) (st := [(.ref b454)]) (a := b454) (lenOf pd_10 rfl) rfl rfl (by decide) (by decide) e454 hby at_424 ?_
            intro T460 v460 L460 X460 hQ460
            obtain ⟨rfl, Nq460, K460, P460_0, P460_1⟩ := hQ460
            have N460 := Fr.app N450 Nq460
            have z462 : h454.size ≤ T460.heap.size := K460.1
            have C463 := C456.trans (CHr.keep K460 (sfS (Safe.exa hZc395.alike A454 (by decide) (by decide)) sf0) C456.1)
            have lt464 : T460.heap.size > b454 := P460_0.lt
            refine own_sh (T := T460) 427 #[.val (.int p1), .val (.int p2), .val (.int p3), .val (.int p4), .val (.int (p2 &&& (255 : Int32))), .val (.int (p1 &&& (7 : Int32))), .val .null, .val (.int 0), .val (.int (p3.toInt8.toInt32)), .val (.int (((p3.toUInt32 >>> ((8 : Int32) &&& 31).toUInt32).toInt32).toInt8.toInt32)), .val (.int (((p3.toUInt32 >>> ((16 : Int32) &&& 31).toUInt32).toInt32).toInt8.toInt32)), .val (.int 2), .val (.int 0), .val (.ref b442), .unset, .unset, .unset] [(.ref b454)] ?_
            refine own_astore X460.here hx hby at_427 rfl (l' := #[.val (.int p1), .val (.int p2), .val (.int p3), .val (.int p4), .val (.int (p2 &&& (255 : Int32))), .val (.int (p1 &&& (7 : Int32))), .val .null, .val (.int 0), .val (.int (p3.toInt8.toInt32)), .val (.int (((p3.toUInt32 >>> ((8 : Int32) &&& 31).toUInt32).toInt32).toInt8.toInt32)), .val (.int (((p3.toUInt32 >>> ((16 : Int32) &&& 31).toUInt32).toInt32).toInt8.toInt32)), .val (.int 2), .val (.int 0), .val (.ref b442), .val (.ref b454), .unset, .unset]) rfl ?_
            refine own_aload X460.here hx hby at_429 rfl rfl ?_
            refine own_ifnullNo X460.here hx hby at_431 ?_
            refine own_iload X460.here hx hby at_434 rfl ?_
            refine own_ifNo X460.here hx hby at_436 ((if0 _ _).trans (tlt (show (0 : Int32) < (2 : Int32) from (by decide))).2.2.2) ?_
            refine own_aload X460.here hx hby at_439 rfl rfl ?_
            refine own_iconst X460.here hx hby at_441 (v := (0 : Int32)) (by decide) ?_
            refine own_iload X460.here hx hby at_442 rfl ?_
            refine own_iconst X460.here hx hby at_444 (v := (-1 : Int32)) (by decide) ?_
            refine own_ixor X460.here hx hby at_445 rfl ?_
            refine own_i2b X460.here hx hby at_446 rfl ?_
            have f465 := ((V451.ext E454).keep K460 (ninS (own_nn (by omega)) nin0))
            refine own_bastore X460 hx hZc395 rfl f465 ⟨by decide, by decide⟩ 0 (by decide) (Nat.le_of_ble_eq_true rfl) (w := (.int (((p3.toInt8.toInt32) ^^^ (-1 : Int32)).toInt8.toInt32))) (congrArg Value.int (own_i2bb ((p3.toInt8.toInt32) ^^^ (-1 : Int32)))) hby at_447 N460 (by omega) ?_
            intro T466 h466 lo466 X466 e466 N466 W466 V466 z466
            have V467 : Arv Z h466 b442 k442 .byte (2 : Int32) [(.int (((p3.toInt8.toInt32) ^^^ (-1 : Int32)).toInt8.toInt32)), (.int (((p3.toUInt32 >>> ((8 : Int32) &&& 31).toUInt32).toInt32).toInt8.toInt32))] (.int 0) := V466
            have sf468 := (Safe.keep K460 (sfS (Safe.exa hZc395.alike A454 (by decide) (by decide)) sf0) C456.1 (Safe.ext E454 C453.1 (Safe.wr W450 sf452 C449.1 sf452)))
            have C469 := C463.trans (CHr.wr W466 sf468 C463.1)
            refine own_aload X466.here hx hby at_448 rfl rfl ?_
            have f470 := (P460_1.other W466 (Or.inl (own_nn (by omega))))
            have z472 : n0 ≤ h466.size := by omega
            have f473 := (P460_0.wr W466)
            refine own_virtual X466 hx hZc395 hownc395 (own_w hw 19 rfl) (own_w hw 20 rfl) (notFace_of_selects (args := #[]) (mvT hZc395 (own_w hw 22 rfl))) (own_w hw 22 rfl) (own_w hw 21 rfl) (own_w hw 3 rfl) (own_w hw 23 rfl) (by decide) (binV_null l Z a0 hw [] b454 h466 n0 z472 f470) 0 (Nat.le_of_eq rfl) (by decide) (by decide) (by rw [hml]; rfl) (argsL := []) (st := []) f473 (lenOf pd_11 rfl) rfl rfl (by decide) (by decide) e466 hby at_450 ?_
            intro T471 v471 L471 X471 hQ471
            obtain ⟨rfl, Nq471, eh471⟩ := hQ471
            have N471 := Fr.app N466 Nq471
            refine own_sh (T := T471) 453 #[.val (.int p1), .val (.int p2), .val (.int p3), .val (.int p4), .val (.int (p2 &&& (255 : Int32))), .val (.int (p1 &&& (7 : Int32))), .val .null, .val (.int 0), .val (.int (p3.toInt8.toInt32)), .val (.int (((p3.toUInt32 >>> ((8 : Int32) &&& 31).toUInt32).toInt32).toInt8.toInt32)), .val (.int (((p3.toUInt32 >>> ((16 : Int32) &&& 31).toUInt32).toInt32).toInt8.toInt32)), .val (.int 2), .val (.int 0), .val (.ref b442), .val (.ref b454), .unset, .unset] [.null] ?_
            refine own_astore X471.here hx hby at_453 rfl (l' := #[.val (.int p1), .val (.int p2), .val (.int p3), .val (.int p4), .val (.int (p2 &&& (255 : Int32))), .val (.int (p1 &&& (7 : Int32))), .val .null, .val (.int 0), .val (.int (p3.toInt8.toInt32)), .val (.int (((p3.toUInt32 >>> ((8 : Int32) &&& 31).toUInt32).toInt32).toInt8.toInt32)), .val (.int (((p3.toUInt32 >>> ((16 : Int32) &&& 31).toUInt32).toInt32).toInt8.toInt32)), .val (.int 2), .val (.int 0), .val (.ref b442), .val (.ref b454), .val .null, .unset]) rfl ?_
            refine own_iload X471.here hx hby at_455 rfl ?_
            refine own_ifYes X471.here hx hby (pc' := 465) at_457 ((if0 _ _).trans (teq (show (0 : Int32) = (0 : Int32) from (by decide))).1) (by decide) (by decide) ?_
            refine own_aload X471.here hx hby at_465 rfl rfl ?_
            refine own_ifnonnullNo X471.here hx hby at_467 ?_
            refine own_iconst X471.here hx hby at_470 (v := (1 : Int32)) (by decide) ?_
            refine own_goto X471.here hx hby (pc' := 475) at_471 (by decide) (by decide) ?_
            obtain ⟨fs, hr, hrun, hended, hRW⟩ := X471.leaveW hSc395 (by rw [eh471]; omega) (v := some (.int 1)) (fun h => by rw [Bd.returns] at h; cases h)
            have hCf : CHr Z consts_1 s.vm s.heap T471.vm T471.heap := by
              rw [hh, eh471]
              exact C469.trans (CHv.at X471 hZc395 hEL C469.1)
            refine own_ret (t := T471.setFrames fs) ?_ ⟨_, hrun, hended, _, _, rfl, ?_, hCf, hRW.1, hRW.2.1, hRW.2.2.1, hRW.2.2.2.mono (by decide) (by decide)⟩
            · exact retN X471 hx (t := .boolean) Bd.returns (by simp) (hb hby at_475) hr
            · show Q_rm0 Z _ _ _ _ _ h0 n0 _ T471.heap _
              rw [eh471]
              exact ⟨rfl, N471, trivial⟩
          · rw [hk]
            refine own_iload Xc395.here hx hby at_339 rfl ?_
            refine own_ifYes Xc395.here hx hby (pc' := 352) at_341 ((if0 _ _).trans (feq (show ¬ ((3 : Int32) = (0 : Int32)) from (by decide))).2) (by decide) (by decide) ?_
            refine own_iload Xc395.here hx hby at_352 rfl ?_
            refine own_iconst Xc395.here hx hby at_354 (v := (1 : Int32)) (by decide) ?_
            refine own_icmpYes Xc395.here hx hby (pc' := 371) at_355 (feq (show ¬ ((3 : Int32) = (1 : Int32)) from (by decide))).2 (by decide) (by decide) ?_
            refine own_iload Xc395.here hx hby at_371 rfl ?_
            refine own_iconst Xc395.here hx hby at_373 (v := (2 : Int32)) (by decide) ?_
            refine own_icmpYes Xc395.here hx hby (pc' := 395) at_374 (feq (show ¬ ((3 : Int32) = (2 : Int32)) from (by decide))).2 (by decide) (by decide) ?_
            refine own_iconst Xc395.here hx hby at_395 (v := (3 : Int32)) (by decide) ?_
            refine own_newP Xc395 hx hZc395 (aty := .byte) (own_w hw 0 rfl) ec395 hby at_396 (by decide) 3 (by decide) (by decide) (by decide) (by decide) (ad := "[B") (by decide) ?_
            intro T474 h474 k474 b474 X474 e474 E474 g474 V474 C474 lt474
            have z475 : hc395.size ≤ h474.size := E474.1
            have C476 := Cc395.trans (CHr.ext E474 Cc395.1)
            have V477 : Arv Z h474 b474 k474 .byte (3 : Int32) [(.int 0), (.int 0), (.int 0)] (.int 0) := V474.pad (pad_rep [] (.int 0) 3)
            refine own_dup X474.here hx hby at_398 rfl ?_
            refine own_iconst X474.here hx hby at_399 (v := (0 : Int32)) (by decide) ?_
            refine own_iload X474.here hx hby at_400 rfl ?_
            refine own_bastore X474 hx hZc395 e474 V477 ⟨by decide, by decide⟩ 0 (by decide) (Nat.le_of_ble_eq_true rfl) (w := (.int (p3.toInt8.toInt32))) (congrArg Value.int (own_i2bb p3)) hby at_402 Nc395 (by omega) ?_
            intro T478 h478 lo478 X478 e478 N478 W478 V478 z478
            have V479 : Arv Z h478 b474 k474 .byte (3 : Int32) [(.int (p3.toInt8.toInt32)), (.int 0), (.int 0)] (.int 0) := V478
            have sf480 := (Safe.ext E474 Cc395.1 (Safe.new (h := hc395) (x := b474) (by omega)))
            have C481 := C476.trans (CHr.wr W478 sf480 C476.1)
            refine own_dup X478.here hx hby at_403 rfl ?_
            refine own_iconst X478.here hx hby at_404 (v := (1 : Int32)) (by decide) ?_
            refine own_iload X478.here hx hby at_405 rfl ?_
            refine own_bastore X478 hx hZc395 e478 V479 ⟨by decide, by decide⟩ 1 (by decide) (Nat.le_of_ble_eq_true rfl) (w := (.int (((p3.toUInt32 >>> ((8 : Int32) &&& 31).toUInt32).toInt32).toInt8.toInt32))) (congrArg Value.int (own_i2bb ((p3.toUInt32 >>> ((8 : Int32) &&& 31).toUInt32).toInt32))) hby at_407 N478 (by omega) ?_
            intro T482 h482 lo482 X482 e482 N482 W482 V482 z482
            have V483 : Arv Z h482 b474 k474 .byte (3 : Int32) [(.int (p3.toInt8.toInt32)), (.int (((p3.toUInt32 >>> ((8 : Int32) &&& 31).toUInt32).toInt32).toInt8.toInt32)), (.int 0)] (.int 0) := V482
            have sf484 := (Safe.wr W478 sf480 C476.1 sf480)
            have C485 := C481.trans (CHr.wr W482 sf484 C481.1)
            refine own_dup X482.here hx hby at_408 rfl ?_
            refine own_iconst X482.here hx hby at_409 (v := (2 : Int32)) (by decide) ?_
            refine own_iload X482.here hx hby at_410 rfl ?_
            refine own_bastore X482 hx hZc395 e482 V483 ⟨by decide, by decide⟩ 2 (by decide) (Nat.le_of_ble_eq_true rfl) (w := (.int (((p3.toUInt32 >>> ((16 : Int32) &&& 31).toUInt32).toInt32).toInt8.toInt32))) (congrArg Value.int (own_i2bb ((p3.toUInt32 >>> ((16 : Int32) &&& 31).toUInt32).toInt32))) hby at_412 N482 (by omega) ?_
            intro T486 h486 lo486 X486 e486 N486 W486 V486 z486
            have V487 : Arv Z h486 b474 k474 .byte (3 : Int32) [(.int (p3.toInt8.toInt32)), (.int (((p3.toUInt32 >>> ((8 : Int32) &&& 31).toUInt32).toInt32).toInt8.toInt32)), (.int (((p3.toUInt32 >>> ((16 : Int32) &&& 31).toUInt32).toInt32).toInt8.toInt32))] (.int 0) := V486
            have sf488 := (Safe.wr W482 sf484 C481.1 sf484)
            have C489 := C485.trans (CHr.wr W486 sf488 C485.1)
            refine own_astore X486.here hx hby at_413 rfl (l' := #[.val (.int p1), .val (.int p2), .val (.int p3), .val (.int p4), .val (.int (p2 &&& (255 : Int32))), .val (.int (p1 &&& (7 : Int32))), .val .null, .val (.int 0), .val (.int (p3.toInt8.toInt32)), .val (.int (((p3.toUInt32 >>> ((8 : Int32) &&& 31).toUInt32).toInt32).toInt8.toInt32)), .val (.int (((p3.toUInt32 >>> ((16 : Int32) &&& 31).toUInt32).toInt32).toInt8.toInt32)), .val (.int 3), .val (.int 0), .val (.ref b474), .unset, .unset, .unset]) rfl ?_
            refine own_newO X486 hx hZc395 hownc395 (own_w hw 1 rfl) (own_w hw 2 rfl) (own_w hw 3 rfl) e486 hby at_415 (by decide) (by decide) ?_
            intro T490 h490 b490 X490 e490 E490 g490 A490 D490 lt490
            have z491 : h486.size ≤ h490.size := E490.1
            have C492 := C489.trans (CHr.ext E490 C489.1)
            have F493 : Fld Z h490 b490 "com/example/sluice/sluice/MessageAttribute" "dataType" "Ljava/lang/String;" .null := D490 (Or.inr (own_w hw 11 rfl)) (ty := (.object "java/lang/String")) (by decide)
            have F494 : Fld Z h490 b490 "com/example/sluice/sluice/MessageAttribute" "stringValue" "Ljava/lang/String;" .null := D490 (Or.inr (own_w hw 16 rfl)) (ty := (.object "java/lang/String")) (by decide)
            have F495 : Fld Z h490 b490 "com/example/sluice/sluice/MessageAttribute" "binaryValue" "[B" .null := D490 (Or.inr (own_w hw 18 rfl)) (ty := (.array .byte)) (by decide)
            refine own_dup X490.here hx hby at_418 rfl ?_
            refine own_aload X490.here hx hby at_419 rfl rfl ?_
            refine own_aconstNull X490.here hx hby at_421 ?_
            refine own_aload X490.here hx hby at_422 rfl rfl ?_
            have z497 : n0 ≤ h490.size := by omega
            refine own_special X490 hx hZc395 rfl hownc395 (own_w hw 4 rfl) (own_w hw 5 rfl) (own_w hw 3 rfl) (own_w hw 6 rfl) (by decide) (maInit_0_any l Z a0 hw [] b490 b474 h490 n0 z497 A490 (by omega) F493 F494 F495) 1 (Nat.le_of_eq rfl) (by decide) (by decide) (by rw [hml]; rfl) (argsL := [.null, .null, (.ref b474)]) (st := [(.ref b490)]) (a := b490) (lenOf pd_10 rfl) rfl rfl (by decide) (by decide) e490 hby at_424 ?_
            intro T496 v496 L496 X496 hQ496
            obtain ⟨rfl, Nq496, K496, P496_0, P496_1⟩ := hQ496
            have N496 := Fr.app N486 Nq496
            have z498 : h490.size ≤ T496.heap.size := K496.1
            have C499 := C492.trans (CHr.keep K496 (sfS (Safe.exa hZc395.alike A490 (by decide) (by decide)) sf0) C492.1)
            have lt500 : T496.heap.size > b490 := P496_0.lt
            refine own_sh (T := T496) 427 #[.val (.int p1), .val (.int p2), .val (.int p3), .val (.int p4), .val (.int (p2 &&& (255 : Int32))), .val (.int (p1 &&& (7 : Int32))), .val .null, .val (.int 0), .val (.int (p3.toInt8.toInt32)), .val (.int (((p3.toUInt32 >>> ((8 : Int32) &&& 31).toUInt32).toInt32).toInt8.toInt32)), .val (.int (((p3.toUInt32 >>> ((16 : Int32) &&& 31).toUInt32).toInt32).toInt8.toInt32)), .val (.int 3), .val (.int 0), .val (.ref b474), .unset, .unset, .unset] [(.ref b490)] ?_
            refine own_astore X496.here hx hby at_427 rfl (l' := #[.val (.int p1), .val (.int p2), .val (.int p3), .val (.int p4), .val (.int (p2 &&& (255 : Int32))), .val (.int (p1 &&& (7 : Int32))), .val .null, .val (.int 0), .val (.int (p3.toInt8.toInt32)), .val (.int (((p3.toUInt32 >>> ((8 : Int32) &&& 31).toUInt32).toInt32).toInt8.toInt32)), .val (.int (((p3.toUInt32 >>> ((16 : Int32) &&& 31).toUInt32).toInt32).toInt8.toInt32)), .val (.int 3), .val (.int 0), .val (.ref b474), .val (.ref b490), .unset, .unset]) rfl ?_
            refine own_aload X496.here hx hby at_429 rfl rfl ?_
            refine own_ifnullNo X496.here hx hby at_431 ?_
            refine own_iload X496.here hx hby at_434 rfl ?_
            refine own_ifNo X496.here hx hby at_436 ((if0 _ _).trans (tlt (show (0 : Int32) < (3 : Int32) from (by decide))).2.2.2) ?_
            refine own_aload X496.here hx hby at_439 rfl rfl ?_
            refine own_iconst X496.here hx hby at_441 (v := (0 : Int32)) (by decide) ?_
            refine own_iload X496.here hx hby at_442 rfl ?_
            refine own_iconst X496.here hx hby at_444 (v := (-1 : Int32)) (by decide) ?_
            refine own_ixor X496.here hx hby at_445 rfl ?_
            refine own_i2b X496.here hx hby at_446 rfl ?_
            have f501 := ((V487.ext E490).keep K496 (ninS (own_nn (by omega)) nin0))
            refine own_bastore X496 hx hZc395 rfl f501 ⟨by decide, by decide⟩ 0 (by decide) (Nat.le_of_ble_eq_true rfl) (w := (.int (((p3.toInt8.toInt32) ^^^ (-1 : Int32)).toInt8.toInt32))) (congrArg Value.int (own_i2bb ((p3.toInt8.toInt32) ^^^ (-1 : Int32)))) hby at_447 N496 (by omega) ?_
            intro T502 h502 lo502 X502 e502 N502 W502 V502 z502
            have V503 : Arv Z h502 b474 k474 .byte (3 : Int32) [(.int (((p3.toInt8.toInt32) ^^^ (-1 : Int32)).toInt8.toInt32)), (.int (((p3.toUInt32 >>> ((8 : Int32) &&& 31).toUInt32).toInt32).toInt8.toInt32)), (.int (((p3.toUInt32 >>> ((16 : Int32) &&& 31).toUInt32).toInt32).toInt8.toInt32))] (.int 0) := V502
            have sf504 := (Safe.keep K496 (sfS (Safe.exa hZc395.alike A490 (by decide) (by decide)) sf0) C492.1 (Safe.ext E490 C489.1 (Safe.wr W486 sf488 C485.1 sf488)))
            have C505 := C499.trans (CHr.wr W502 sf504 C499.1)
            refine own_aload X502.here hx hby at_448 rfl rfl ?_
            have f506 := (P496_1.other W502 (Or.inl (own_nn (by omega))))
            have z508 : n0 ≤ h502.size := by omega
            have f509 := (P496_0.wr W502)
            refine own_virtual X502 hx hZc395 hownc395 (own_w hw 19 rfl) (own_w hw 20 rfl) (notFace_of_selects (args := #[]) (mvT hZc395 (own_w hw 22 rfl))) (own_w hw 22 rfl) (own_w hw 21 rfl) (own_w hw 3 rfl) (own_w hw 23 rfl) (by decide) (binV_null l Z a0 hw [] b490 h502 n0 z508 f506) 0 (Nat.le_of_eq rfl) (by decide) (by decide) (by rw [hml]; rfl) (argsL := []) (st := []) f509 (lenOf pd_11 rfl) rfl rfl (by decide) (by decide) e502 hby at_450 ?_
            intro T507 v507 L507 X507 hQ507
            obtain ⟨rfl, Nq507, eh507⟩ := hQ507
            have N507 := Fr.app N502 Nq507
            refine own_sh (T := T507) 453 #[.val (.int p1), .val (.int p2), .val (.int p3), .val (.int p4), .val (.int (p2 &&& (255 : Int32))), .val (.int (p1 &&& (7 : Int32))), .val .null, .val (.int 0), .val (.int (p3.toInt8.toInt32)), .val (.int (((p3.toUInt32 >>> ((8 : Int32) &&& 31).toUInt32).toInt32).toInt8.toInt32)), .val (.int (((p3.toUInt32 >>> ((16 : Int32) &&& 31).toUInt32).toInt32).toInt8.toInt32)), .val (.int 3), .val (.int 0), .val (.ref b474), .val (.ref b490), .unset, .unset] [.null] ?_
            refine own_astore X507.here hx hby at_453 rfl (l' := #[.val (.int p1), .val (.int p2), .val (.int p3), .val (.int p4), .val (.int (p2 &&& (255 : Int32))), .val (.int (p1 &&& (7 : Int32))), .val .null, .val (.int 0), .val (.int (p3.toInt8.toInt32)), .val (.int (((p3.toUInt32 >>> ((8 : Int32) &&& 31).toUInt32).toInt32).toInt8.toInt32)), .val (.int (((p3.toUInt32 >>> ((16 : Int32) &&& 31).toUInt32).toInt32).toInt8.toInt32)), .val (.int 3), .val (.int 0), .val (.ref b474), .val (.ref b490), .val .null, .unset]) rfl ?_
            refine own_iload X507.here hx hby at_455 rfl ?_
            refine own_ifYes X507.here hx hby (pc' := 465) at_457 ((if0 _ _).trans (teq (show (0 : Int32) = (0 : Int32) from (by decide))).1) (by decide) (by decide) ?_
            refine own_aload X507.here hx hby at_465 rfl rfl ?_
            refine own_ifnonnullNo X507.here hx hby at_467 ?_
            refine own_iconst X507.here hx hby at_470 (v := (1 : Int32)) (by decide) ?_
            refine own_goto X507.here hx hby (pc' := 475) at_471 (by decide) (by decide) ?_
            obtain ⟨fs, hr, hrun, hended, hRW⟩ := X507.leaveW hSc395 (by rw [eh507]; omega) (v := some (.int 1)) (fun h => by rw [Bd.returns] at h; cases h)
            have hCf : CHr Z consts_1 s.vm s.heap T507.vm T507.heap := by
              rw [hh, eh507]
              exact C505.trans (CHv.at X507 hZc395 hEL C505.1)
            refine own_ret (t := T507.setFrames fs) ?_ ⟨_, hrun, hended, _, _, rfl, ?_, hCf, hRW.1, hRW.2.1, hRW.2.2.1, hRW.2.2.2.mono (by decide) (by decide)⟩
            · exact retN X507 hx (t := .boolean) Bd.returns (by simp) (hb hby at_475) hr
            · show Q_rm0 Z _ _ _ _ _ h0 n0 _ T507.heap _
              rw [eh507]
              exact ⟨rfl, N507, trivial⟩
        · refine own_ifNo Xc395.here hx hby at_318 ((if0 _ _).trans (feq hc318_396).1) ?_
          refine own_iconst Xc395.here hx hby at_321 (v := (1 : Int32)) (by decide) ?_
          refine own_goto Xc395.here hx hby (pc' := 326) at_322 (by decide) (by decide) ?_
          refine own_istore Xc395.here hx hby at_326 (l' := #[.val (.int p1), .val (.int p2), .val (.int p3), .val (.int p4), .val (.int (p2 &&& (255 : Int32))), .val (.int (p1 &&& (7 : Int32))), .val .null, .val (.int 0), .val (.int (p3.toInt8.toInt32)), .val (.int (((p3.toUInt32 >>> ((8 : Int32) &&& 31).toUInt32).toInt32).toInt8.toInt32)), .val (.int (((p3.toUInt32 >>> ((16 : Int32) &&& 31).toUInt32).toInt32).toInt8.toInt32)), .val (.int (p4 &&& (3 : Int32))), .val (.int 1), .unset, .unset, .unset, .unset]) rfl ?_
          refine own_iload Xc395.here hx hby at_328 rfl ?_
          refine own_ifNo Xc395.here hx hby at_330 ((if0 _ _).trans (feq (show ¬ ((1 : Int32) = (0 : Int32)) from (by decide))).1) ?_
          refine own_aconstNull Xc395.here hx hby at_333 ?_
          refine own_astore Xc395.here hx hby at_334 rfl (l' := #[.val (.int p1), .val (.int p2), .val (.int p3), .val (.int p4), .val (.int (p2 &&& (255 : Int32))), .val (.int (p1 &&& (7 : Int32))), .val .null, .val (.int 0), .val (.int (p3.toInt8.toInt32)), .val (.int (((p3.toUInt32 >>> ((8 : Int32) &&& 31).toUInt32).toInt32).toInt8.toInt32)), .val (.int (((p3.toUInt32 >>> ((16 : Int32) &&& 31).toUInt32).toInt32).toInt8.toInt32)), .val (.int (p4 &&& (3 : Int32))), .val (.int 1), .val .null, .unset, .unset, .unset]) rfl ?_
          refine own_goto Xc395.here hx hby (pc' := 415) at_336 (by decide) (by decide) ?_
          refine own_newO Xc395 hx hZc395 hownc395 (own_w hw 1 rfl) (own_w hw 2 rfl) (own_w hw 3 rfl) ec395 hby at_415 (by decide) (by decide) ?_
          intro T510 h510 b510 X510 e510 E510 g510 A510 D510 lt510
          have z511 : hc395.size ≤ h510.size := E510.1
          have C512 := Cc395.trans (CHr.ext E510 Cc395.1)
          have F513 : Fld Z h510 b510 "com/example/sluice/sluice/MessageAttribute" "dataType" "Ljava/lang/String;" .null := D510 (Or.inr (own_w hw 11 rfl)) (ty := (.object "java/lang/String")) (by decide)
          have F514 : Fld Z h510 b510 "com/example/sluice/sluice/MessageAttribute" "stringValue" "Ljava/lang/String;" .null := D510 (Or.inr (own_w hw 16 rfl)) (ty := (.object "java/lang/String")) (by decide)
          have F515 : Fld Z h510 b510 "com/example/sluice/sluice/MessageAttribute" "binaryValue" "[B" .null := D510 (Or.inr (own_w hw 18 rfl)) (ty := (.array .byte)) (by decide)
          refine own_dup X510.here hx hby at_418 rfl ?_
          refine own_aload X510.here hx hby at_419 rfl rfl ?_
          refine own_aconstNull X510.here hx hby at_421 ?_
          refine own_aload X510.here hx hby at_422 rfl rfl ?_
          have z517 : n0 ≤ h510.size := by omega
          refine own_special X510 hx hZc395 rfl hownc395 (own_w hw 4 rfl) (own_w hw 5 rfl) (own_w hw 3 rfl) (own_w hw 6 rfl) (by decide) (maInit_0_null l Z a0 hw [] b510 h510 n0 z517 A510 (by omega) F513 F514 F515) 1 (Nat.le_of_eq rfl) (by decide) (by decide) (by rw [hml]; rfl) (argsL := [.null, .null, .null]) (st := [(.ref b510)]) (a := b510) (lenOf pd_10 rfl) rfl rfl (by decide) (by decide) e510 hby at_424 ?_
          intro T516 v516 L516 X516 hQ516
          obtain ⟨rfl, Nq516, K516, P516_0, P516_1⟩ := hQ516
          have N516 := Fr.app Nc395 Nq516
          have z518 : h510.size ≤ T516.heap.size := K516.1
          have C519 := C512.trans (CHr.keep K516 (sfS (Safe.exa hZc395.alike A510 (by decide) (by decide)) sf0) C512.1)
          have lt520 : T516.heap.size > b510 := P516_0.lt
          refine own_sh (T := T516) 427 #[.val (.int p1), .val (.int p2), .val (.int p3), .val (.int p4), .val (.int (p2 &&& (255 : Int32))), .val (.int (p1 &&& (7 : Int32))), .val .null, .val (.int 0), .val (.int (p3.toInt8.toInt32)), .val (.int (((p3.toUInt32 >>> ((8 : Int32) &&& 31).toUInt32).toInt32).toInt8.toInt32)), .val (.int (((p3.toUInt32 >>> ((16 : Int32) &&& 31).toUInt32).toInt32).toInt8.toInt32)), .val (.int (p4 &&& (3 : Int32))), .val (.int 1), .val .null, .unset, .unset, .unset] [(.ref b510)] ?_
          refine own_astore X516.here hx hby at_427 rfl (l' := #[.val (.int p1), .val (.int p2), .val (.int p3), .val (.int p4), .val (.int (p2 &&& (255 : Int32))), .val (.int (p1 &&& (7 : Int32))), .val .null, .val (.int 0), .val (.int (p3.toInt8.toInt32)), .val (.int (((p3.toUInt32 >>> ((8 : Int32) &&& 31).toUInt32).toInt32).toInt8.toInt32)), .val (.int (((p3.toUInt32 >>> ((16 : Int32) &&& 31).toUInt32).toInt32).toInt8.toInt32)), .val (.int (p4 &&& (3 : Int32))), .val (.int 1), .val .null, .val (.ref b510), .unset, .unset]) rfl ?_
          refine own_aload X516.here hx hby at_429 rfl rfl ?_
          refine own_ifnullYes X516.here hx hby (pc' := 448) at_431 (by decide) (by decide) ?_
          refine own_aload X516.here hx hby at_448 rfl rfl ?_
          have z522 : n0 ≤ T516.heap.size := by omega
          refine own_virtual X516 hx hZc395 hownc395 (own_w hw 19 rfl) (own_w hw 20 rfl) (notFace_of_selects (args := #[]) (mvT hZc395 (own_w hw 22 rfl))) (own_w hw 22 rfl) (own_w hw 21 rfl) (own_w hw 3 rfl) (own_w hw 23 rfl) (by decide) (binV_null l Z a0 hw [] b510 T516.heap n0 z522 P516_1) 0 (Nat.le_of_eq rfl) (by decide) (by decide) (by rw [hml]; rfl) (argsL := []) (st := []) P516_0 (lenOf pd_11 rfl) rfl rfl (by decide) (by decide) rfl hby at_450 ?_
          intro T521 v521 L521 X521 hQ521
          obtain ⟨rfl, Nq521, eh521⟩ := hQ521
          have N521 := Fr.app N516 Nq521
          refine own_sh (T := T521) 453 #[.val (.int p1), .val (.int p2), .val (.int p3), .val (.int p4), .val (.int (p2 &&& (255 : Int32))), .val (.int (p1 &&& (7 : Int32))), .val .null, .val (.int 0), .val (.int (p3.toInt8.toInt32)), .val (.int (((p3.toUInt32 >>> ((8 : Int32) &&& 31).toUInt32).toInt32).toInt8.toInt32)), .val (.int (((p3.toUInt32 >>> ((16 : Int32) &&& 31).toUInt32).toInt32).toInt8.toInt32)), .val (.int (p4 &&& (3 : Int32))), .val (.int 1), .val .null, .val (.ref b510), .unset, .unset] [.null] ?_
          refine own_astore X521.here hx hby at_453 rfl (l' := #[.val (.int p1), .val (.int p2), .val (.int p3), .val (.int p4), .val (.int (p2 &&& (255 : Int32))), .val (.int (p1 &&& (7 : Int32))), .val .null, .val (.int 0), .val (.int (p3.toInt8.toInt32)), .val (.int (((p3.toUInt32 >>> ((8 : Int32) &&& 31).toUInt32).toInt32).toInt8.toInt32)), .val (.int (((p3.toUInt32 >>> ((16 : Int32) &&& 31).toUInt32).toInt32).toInt8.toInt32)), .val (.int (p4 &&& (3 : Int32))), .val (.int 1), .val .null, .val (.ref b510), .val .null, .unset]) rfl ?_
          refine own_iload X521.here hx hby at_455 rfl ?_
          refine own_ifYes X521.here hx hby (pc' := 465) at_457 ((if0 _ _).trans (teq (show (0 : Int32) = (0 : Int32) from (by decide))).1) (by decide) (by decide) ?_
          refine own_aload X521.here hx hby at_465 rfl rfl ?_
          refine own_ifnonnullNo X521.here hx hby at_467 ?_
          refine own_iconst X521.here hx hby at_470 (v := (1 : Int32)) (by decide) ?_
          refine own_goto X521.here hx hby (pc' := 475) at_471 (by decide) (by decide) ?_
          obtain ⟨fs, hr, hrun, hended, hRW⟩ := X521.leaveW hSc395 (by rw [eh521]; omega) (v := some (.int 1)) (fun h => by rw [Bd.returns] at h; cases h)
          have hCf : CHr Z consts_1 s.vm s.heap T521.vm T521.heap := by
            rw [hh, eh521]
            exact C519.trans (CHv.at X521 hZc395 hEL C519.1)
          refine own_ret (t := T521.setFrames fs) ?_ ⟨_, hrun, hended, _, _, rfl, ?_, hCf, hRW.1, hRW.2.1, hRW.2.2.1, hRW.2.2.2.mono (by decide) (by decide)⟩
          · exact retN X521 hx (t := .boolean) Bd.returns (by simp) (hb hby at_475) hr
          · show Q_rm0 Z _ _ _ _ _ h0 n0 _ T521.heap _
            rw [eh521]
            exact ⟨rfl, N521, trivial⟩
      · intro J523
        refine own_iload Y0.here hx hby at_14 rfl ?_
        by_cases hc16_524 : (p1 &&& (7 : Int32)) = (0 : Int32)
        · refine own_ifNo Y0.here hx hby at_16 ((if0 _ _).trans (teq hc16_524).2) ?_
          refine own_aconstNull Y0.here hx hby at_19 ?_
          refine own_astore Y0.here hx hby at_20 rfl (l' := #[.val (.int p1), .val (.int p2), .val (.int p3), .val (.int p4), .val (.int (p2 &&& (255 : Int32))), .val (.int (p1 &&& (7 : Int32))), .val .null, .unset, .unset, .unset, .unset, .unset, .unset, .unset, .unset, .unset, .unset]) rfl ?_
          refine own_iconst Y0.here hx hby at_22 (v := (0 : Int32)) (by decide) ?_
          refine own_istore Y0.here hx hby at_23 (l' := #[.val (.int p1), .val (.int p2), .val (.int p3), .val (.int p4), .val (.int (p2 &&& (255 : Int32))), .val (.int (p1 &&& (7 : Int32))), .val .null, .val (.int 0), .unset, .unset, .unset, .unset, .unset, .unset, .unset, .unset, .unset]) rfl ?_
          refine own_goto Y0.here hx hby (pc' := 292) at_25 (by decide) (by decide) ?_
          refine own_sh (T := s₁) 292 #[.val (.int p1), .val (.int p2), .val (.int p3), .val (.int p4), .val (.int (p2 &&& (255 : Int32))), .val (.int (p1 &&& (7 : Int32))), .val .null, .val (.int 0), .unset, .unset, .unset, .unset, .unset, .unset, .unset, .unset, .unset] [] ?_
          exact J523 _ _ _ _ _  (Y0.mono (by decide) (by decide)) e0 N0 (by omega) (by omega) hS0 (by omega) hZ hown C0 S_C
        · refine own_ifYes Y0.here hx hby (pc' := 28) at_16 ((if0 _ _).trans (feq hc16_524).2) (by decide) (by decide) ?_
          refine own_iload Y0.here hx hby at_28 rfl ?_
          refine own_iconst Y0.here hx hby at_30 (v := (1 : Int32)) (by decide) ?_
          by_cases hc31_525 : (p1 &&& (7 : Int32)) = (1 : Int32)
          · refine own_icmpNo Y0.here hx hby at_31 (teq hc31_525).2 ?_
            have own_wS0 : ∀ a ∈ Bundle.stringAtoms, a.before a0 Z = true := own_wS hw
            refine own_ldcCH Y0 hx hZ hEL hown (own_w hw 102 rfl) own_wS0 e0 hS0 (by omega) C0.1 (List.mem_of_getElem? (i := 2) rfl) (vs := [(.int 66), (.int 105), (.int 110), (.int 97), (.int 114), (.int 121)]) (z := (6 : Int32)) ⟨by decide, by decide⟩ (by decide) (by decide) hby at_34 24 (by decide) (by decide) (by decide) (by decide) ?_
            intro a526 T526 h526 kk526 vm526 b526 kb526 X526 e526 E526 hS526 hk526 hZ526 hown526 Ea526 Fc526 Fv526 Va526 la526 lb526 Cn526 ns526
            have z527 : h0.size ≤ h526.size := E526.1
            have C528 := C0.trans Cn526
            refine own_astore X526.here hx hby at_36 rfl (l' := #[.val (.int p1), .val (.int p2), .val (.int p3), .val (.int p4), .val (.int (p2 &&& (255 : Int32))), .val (.int (p1 &&& (7 : Int32))), .val (.ref a526), .unset, .unset, .unset, .unset, .unset, .unset, .unset, .unset, .unset, .unset]) rfl ?_
            refine own_iconst X526.here hx hby at_38 (v := (1 : Int32)) (by decide) ?_
            refine own_istore X526.here hx hby at_39 (l' := #[.val (.int p1), .val (.int p2), .val (.int p3), .val (.int p4), .val (.int (p2 &&& (255 : Int32))), .val (.int (p1 &&& (7 : Int32))), .val (.ref a526), .val (.int 1), .unset, .unset, .unset, .unset, .unset, .unset, .unset, .unset, .unset]) rfl ?_
            refine own_goto X526.here hx hby (pc' := 292) at_41 (by decide) (by decide) ?_
            have f529 := (S_C.ext E526)
            refine own_sh (T := T526) 292 #[.val (.int p1), .val (.int p2), .val (.int p3), .val (.int p4), .val (.int (p2 &&& (255 : Int32))), .val (.int (p1 &&& (7 : Int32))), .val (.ref a526), .val (.int 1), .unset, .unset, .unset, .unset, .unset, .unset, .unset, .unset, .unset] [] ?_
            exact J238 _ _ _ _ _ a526 b526 kb526 (6 : Int32) ([(.int 66), (.int 105), (.int 110), (.int 97), (.int 114), (.int 121)]) (X526.mono (by decide) (by decide)) e526 N0 (by omega) (by omega) hS526 (by omega) hZ526 hown526 C528 Ea526 Fc526 Fv526 Va526 f529 (Or.inl ⟨rfl, rfl⟩)
          · refine own_icmpYes Y0.here hx hby (pc' := 44) at_31 (feq hc31_525).2 (by decide) (by decide) ?_
            refine own_iload Y0.here hx hby at_44 rfl ?_
            refine own_iconst Y0.here hx hby at_46 (v := (2 : Int32)) (by decide) ?_
            by_cases hc47_530 : (p1 &&& (7 : Int32)) = (2 : Int32)
            · refine own_icmpNo Y0.here hx hby at_47 (teq hc47_530).2 ?_
              refine own_newO Y0 hx hZ hown (own_w hw 80 rfl) (own_w hw 26 rfl) (own_w hw 25 rfl) e0 hby at_50 (by decide) (by decide) ?_
              intro T531 h531 b531 X531 e531 E531 g531 A531 D531 lt531
              have z532 : h0.size ≤ h531.size := E531.1
              have C533 := C0.trans (CHr.ext E531 C0.1)
              have F534 : Fld Z h531 b531 "java/lang/String" "value" "[B" .null := D531 (Or.inr (own_w hw 27 rfl)) (ty := (.array .byte)) (by decide)
              have F535 : Fld Z h531 b531 "java/lang/String" "coder" "B" (.int 0) := D531 (Or.inr (own_w hw 28 rfl)) (ty := .byte) (by decide)
              refine own_dup X531.here hx hby at_53 rfl ?_
              refine own_bipush X531.here hx hby at_54 (v := (7 : Int32)) (by decide) ?_
              refine own_newP X531 hx hZ (aty := .char) (own_w hw 81 rfl) e531 hby at_56 (by decide) 7 (by decide) (by decide) (by decide) (by decide) (ad := "[C") (by decide) ?_
              intro T536 h536 k536 b536 X536 e536 E536 g536 V536 C536 lt536
              have z537 : h531.size ≤ h536.size := E536.1
              have C538 := C533.trans (CHr.ext E536 C533.1)
              have V539 : Arv Z h536 b536 k536 .char (7 : Int32) [(.int 0), (.int 0), (.int 0), (.int 0), (.int 0), (.int 0), (.int 0)] (.int 0) := V536.pad (pad_rep [] (.int 0) 7)
              refine own_dup X536.here hx hby at_58 rfl ?_
              refine own_iconst X536.here hx hby at_59 (v := (0 : Int32)) (by decide) ?_
              refine own_bipush X536.here hx hby at_60 (v := (66 : Int32)) (by decide) ?_
              refine own_castore X536 hx hZ e536 V539 ⟨by decide, by decide⟩ 0 (by decide) (Nat.le_of_ble_eq_true rfl) (w := (.int 66)) rfl hby at_62 N0 (by omega) ?_
              intro T540 h540 lo540 X540 e540 N540 W540 V540 z540
              have V541 : Arv Z h540 b536 k536 .char (7 : Int32) [(.int 66), (.int 0), (.int 0), (.int 0), (.int 0), (.int 0), (.int 0)] (.int 0) := V540
              have C542 := C538.trans (CHr.wr W540 (Safe.exa hZ.alike C536 (by decide) (by decide)) C538.1)
              refine own_dup X540.here hx hby at_63 rfl ?_
              refine own_iconst X540.here hx hby at_64 (v := (1 : Int32)) (by decide) ?_
              refine own_bipush X540.here hx hby at_65 (v := (105 : Int32)) (by decide) ?_
              refine own_castore X540 hx hZ e540 V541 ⟨by decide, by decide⟩ 1 (by decide) (Nat.le_of_ble_eq_true rfl) (w := (.int 105)) rfl hby at_67 N540 (by omega) ?_
              intro T543 h543 lo543 X543 e543 N543 W543 V543 z543
              have V544 : Arv Z h543 b536 k536 .char (7 : Int32) [(.int 66), (.int 105), (.int 0), (.int 0), (.int 0), (.int 0), (.int 0)] (.int 0) := V543
              have f545 := (C536.wr W540)
              have C546 := C542.trans (CHr.wr W543 (Safe.exa hZ.alike f545 (by decide) (by decide)) C542.1)
              refine own_dup X543.here hx hby at_68 rfl ?_
              refine own_iconst X543.here hx hby at_69 (v := (2 : Int32)) (by decide) ?_
              refine own_bipush X543.here hx hby at_70 (v := (110 : Int32)) (by decide) ?_
              refine own_castore X543 hx hZ e543 V544 ⟨by decide, by decide⟩ 2 (by decide) (Nat.le_of_ble_eq_true rfl) (w := (.int 110)) rfl hby at_72 N543 (by omega) ?_
              intro T547 h547 lo547 X547 e547 N547 W547 V547 z547
              have V548 : Arv Z h547 b536 k536 .char (7 : Int32) [(.int 66), (.int 105), (.int 110), (.int 0), (.int 0), (.int 0), (.int 0)] (.int 0) := V547
              have f549 := (f545.wr W543)
              have C550 := C546.trans (CHr.wr W547 (Safe.exa hZ.alike f549 (by decide) (by decide)) C546.1)
              refine own_dup X547.here hx hby at_73 rfl ?_
              refine own_iconst X547.here hx hby at_74 (v := (3 : Int32)) (by decide) ?_
              refine own_bipush X547.here hx hby at_75 (v := (97 : Int32)) (by decide) ?_
              refine own_castore X547 hx hZ e547 V548 ⟨by decide, by decide⟩ 3 (by decide) (Nat.le_of_ble_eq_true rfl) (w := (.int 97)) rfl hby at_77 N547 (by omega) ?_
              intro T551 h551 lo551 X551 e551 N551 W551 V551 z551
              have V552 : Arv Z h551 b536 k536 .char (7 : Int32) [(.int 66), (.int 105), (.int 110), (.int 97), (.int 0), (.int 0), (.int 0)] (.int 0) := V551
              have f553 := (f549.wr W547)
              have C554 := C550.trans (CHr.wr W551 (Safe.exa hZ.alike f553 (by decide) (by decide)) C550.1)
              refine own_dup X551.here hx hby at_78 rfl ?_
              refine own_iconst X551.here hx hby at_79 (v := (4 : Int32)) (by decide) ?_
              refine own_bipush X551.here hx hby at_80 (v := (114 : Int32)) (by decide) ?_
              refine own_castore X551 hx hZ e551 V552 ⟨by decide, by decide⟩ 4 (by decide) (Nat.le_of_ble_eq_true rfl) (w := (.int 114)) rfl hby at_82 N551 (by omega) ?_
              intro T555 h555 lo555 X555 e555 N555 W555 V555 z555
              have V556 : Arv Z h555 b536 k536 .char (7 : Int32) [(.int 66), (.int 105), (.int 110), (.int 97), (.int 114), (.int 0), (.int 0)] (.int 0) := V555
              have f557 := (f553.wr W551)
              have C558 := C554.trans (CHr.wr W555 (Safe.exa hZ.alike f557 (by decide) (by decide)) C554.1)
              refine own_dup X555.here hx hby at_83 rfl ?_
              refine own_iconst X555.here hx hby at_84 (v := (5 : Int32)) (by decide) ?_
              refine own_bipush X555.here hx hby at_85 (v := (121 : Int32)) (by decide) ?_
              refine own_castore X555 hx hZ e555 V556 ⟨by decide, by decide⟩ 5 (by decide) (Nat.le_of_ble_eq_true rfl) (w := (.int 121)) rfl hby at_87 N555 (by omega) ?_
              intro T559 h559 lo559 X559 e559 N559 W559 V559 z559
              have V560 : Arv Z h559 b536 k536 .char (7 : Int32) [(.int 66), (.int 105), (.int 110), (.int 97), (.int 114), (.int 121), (.int 0)] (.int 0) := V559
              have f561 := (f557.wr W555)
              have C562 := C558.trans (CHr.wr W559 (Safe.exa hZ.alike f561 (by decide) (by decide)) C558.1)
              refine own_dup X559.here hx hby at_88 rfl ?_
              refine own_bipush X559.here hx hby at_89 (v := (6 : Int32)) (by decide) ?_
              refine own_iload X559.here hx hby at_91 rfl ?_
              refine own_castore X559 hx hZ e559 V560 ⟨by decide, by decide⟩ 6 (by decide) (Nat.le_of_ble_eq_true rfl) (w := (.int (p2 &&& (255 : Int32)))) (congrArg Value.int (i2c_mask p2)) hby at_93 N559 (by omega) ?_
              intro T563 h563 lo563 X563 e563 N563 W563 V563 z563
              have V564 : Arv Z h563 b536 k536 .char (7 : Int32) [(.int 66), (.int 105), (.int 110), (.int 97), (.int 114), (.int 121), (.int (p2 &&& (255 : Int32)))] (.int 0) := V563
              have f565 := (f561.wr W559)
              have C566 := C562.trans (CHr.wr W563 (Safe.exa hZ.alike f565 (by decide) (by decide)) C562.1)
              have f567 := ((((((((A531.ext E536).wr W540).wr W543).wr W547).wr W551).wr W555).wr W559).wr W563)
              have f568 := ((((((((F534.ext E536).other W540 (Or.inl (own_nn (by omega)))).other W543 (Or.inl (own_nn (by omega)))).other W547 (Or.inl (own_nn (by omega)))).other W551 (Or.inl (own_nn (by omega)))).other W555 (Or.inl (own_nn (by omega)))).other W559 (Or.inl (own_nn (by omega)))).other W563 (Or.inl (own_nn (by omega))))
              have f569 := ((((((((F535.ext E536).other W540 (Or.inl (own_nn (by omega)))).other W543 (Or.inl (own_nn (by omega)))).other W547 (Or.inl (own_nn (by omega)))).other W551 (Or.inl (own_nn (by omega)))).other W555 (Or.inl (own_nn (by omega)))).other W559 (Or.inl (own_nn (by omega)))).other W563 (Or.inl (own_nn (by omega))))
              have f570 := (((((((((S_C.ext E531).ext E536).wr W540).wr W543).wr W547).wr W551).wr W555).wr W559).wr W563)
              have z572 : n0 ≤ h563.size := by omega
              have hws_words : ∀ d ∈ StrChars.Road.words, d.before a0 Z = true := fun d hd => hw d ((by decide +kernel : ∀ d ∈ StrChars.Road.words, d ∈ tables_1) d hd)
              refine own_specialB X563 hx hZ rfl hown (own_w hw 82 rfl) (own_w hw 83 rfl) (own_w hw 84 rfl) (by decide) (StrChars.Road.backV (W := 1) hZ hws_words (kI := 4) (own_w hw 26 rfl) (cs := ([(66 : Int32), (105 : Int32), (110 : Int32), (97 : Int32), (114 : Int32), (121 : Int32), (p2 &&& (255 : Int32))] : List Int32)) (bs := ([(66 : Int32), (105 : Int32), (110 : Int32), (97 : Int32), (114 : Int32), (121 : Int32), (p2 &&& (255 : Int32))] : List Int32).map (fun c => c.toInt8.toInt32)) (n := 7) (by omega) z572 f567 f568 f569 V564 f570 hz rfl rfl (by decide) (by decide) (own_lS (by decide) (own_lS (by decide) (own_lS (by decide) (own_lS (by decide) (own_lS (by decide) (own_lS (by decide) (own_lS (own_c255 p2) own_l0))))))) rfl (by decide) (by decide)) (Nat.le_of_eq rfl) (by rw [hml]; rfl) (argsL := [(.ref b536)]) (st := [(.ref b531)]) (a := b531) (lenOf pd_12 rfl) rfl rfl (by decide) (by decide) e563 hby at_94 ?_
              intro T571 v571 L571 X571 hQ571
              obtain ⟨rfl, Nq571, K571, P571_0, P571_1, t_571, kb_571, P571_2, P571_3, P571_4, P571_5, P571_6⟩ := hQ571
              have N571 := Fr.app N563 Nq571
              have z573 : h563.size ≤ T571.heap.size := K571.1
              have C574 := C566.trans (CHr.keep K571 (sfS (own_safe_null hZ.alike f567 f568) sf0) C566.1)
              have lt575 : T571.heap.size > b531 := P571_0.lt
              have lt576 : T571.heap.size > t_571 := P571_6.lt
              refine own_sh (T := T571) 97 #[.val (.int p1), .val (.int p2), .val (.int p3), .val (.int p4), .val (.int (p2 &&& (255 : Int32))), .val (.int (p1 &&& (7 : Int32))), .unset, .unset, .unset, .unset, .unset, .unset, .unset, .unset, .unset, .unset, .unset] [(.ref b531)] ?_
              refine own_astore X571.here hx hby at_97 rfl (l' := #[.val (.int p1), .val (.int p2), .val (.int p3), .val (.int p4), .val (.int (p2 &&& (255 : Int32))), .val (.int (p1 &&& (7 : Int32))), .val (.ref b531), .unset, .unset, .unset, .unset, .unset, .unset, .unset, .unset, .unset, .unset]) rfl ?_
              refine own_iload X571.here hx hby at_99 rfl ?_
              refine own_bipush X571.here hx hby at_101 (v := (46 : Int32)) (by decide) ?_
              by_cases hc103_577 : (p2 &&& (255 : Int32)) = (46 : Int32)
              · refine own_icmpNo X571.here hx hby at_103 (teq hc103_577).2 ?_
                refine own_iconst X571.here hx hby at_106 (v := (1 : Int32)) (by decide) ?_
                refine own_goto X571.here hx hby (pc' := 111) at_107 (by decide) (by decide) ?_
                refine own_istore X571.here hx hby at_111 (l' := #[.val (.int p1), .val (.int p2), .val (.int p3), .val (.int p4), .val (.int (p2 &&& (255 : Int32))), .val (.int (p1 &&& (7 : Int32))), .val (.ref b531), .val (.int 1), .unset, .unset, .unset, .unset, .unset, .unset, .unset, .unset, .unset]) rfl ?_
                refine own_goto X571.here hx hby (pc' := 292) at_113 (by decide) (by decide) ?_
                have f578 := (own_sta_keep f570 K571 (allS (own_exa_plain f567) all0))
                refine own_sh (T := T571) 292 #[.val (.int p1), .val (.int p2), .val (.int p3), .val (.int p4), .val (.int (p2 &&& (255 : Int32))), .val (.int (p1 &&& (7 : Int32))), .val (.ref b531), .val (.int 1), .unset, .unset, .unset, .unset, .unset, .unset, .unset, .unset, .unset] [] ?_
                exact J238 _ _ _ _ _ b531 t_571 kb_571 (7 : Int32) ([(.int ((66 : Int32).toInt8.toInt32)), (.int ((105 : Int32).toInt8.toInt32)), (.int ((110 : Int32).toInt8.toInt32)), (.int ((97 : Int32).toInt8.toInt32)), (.int ((114 : Int32).toInt8.toInt32)), (.int ((121 : Int32).toInt8.toInt32)), (.int ((p2 &&& (255 : Int32)).toInt8.toInt32))]) (X571.mono (by decide) (by decide)) rfl N571 (by omega) (by omega) hS0 (by omega) hZ hown C574 P571_0 P571_1 P571_5 P571_6 f578 (Or.inr (Or.inl ⟨rfl, by simp only [hc103_577, own_d66, own_d105, own_d110, own_d97, own_d114, own_d121, own_d46]⟩))
              · refine own_icmpYes X571.here hx hby (pc' := 110) at_103 (feq hc103_577).2 (by decide) (by decide) ?_
                refine own_iconst X571.here hx hby at_110 (v := (0 : Int32)) (by decide) ?_
                refine own_istore X571.here hx hby at_111 (l' := #[.val (.int p1), .val (.int p2), .val (.int p3), .val (.int p4), .val (.int (p2 &&& (255 : Int32))), .val (.int (p1 &&& (7 : Int32))), .val (.ref b531), .val (.int 0), .unset, .unset, .unset, .unset, .unset, .unset, .unset, .unset, .unset]) rfl ?_
                refine own_goto X571.here hx hby (pc' := 292) at_113 (by decide) (by decide) ?_
                have f579 := (own_sta_keep f570 K571 (allS (own_exa_plain f567) all0))
                refine own_sh (T := T571) 292 #[.val (.int p1), .val (.int p2), .val (.int p3), .val (.int p4), .val (.int (p2 &&& (255 : Int32))), .val (.int (p1 &&& (7 : Int32))), .val (.ref b531), .val (.int 0), .unset, .unset, .unset, .unset, .unset, .unset, .unset, .unset, .unset] [] ?_
                exact J394 _ _ _ _ _ b531 t_571 kb_571 (7 : Int32) ([(.int ((66 : Int32).toInt8.toInt32)), (.int ((105 : Int32).toInt8.toInt32)), (.int ((110 : Int32).toInt8.toInt32)), (.int ((97 : Int32).toInt8.toInt32)), (.int ((114 : Int32).toInt8.toInt32)), (.int ((121 : Int32).toInt8.toInt32)), (.int ((p2 &&& (255 : Int32)).toInt8.toInt32))]) (X571.mono (by decide) (by decide)) rfl N571 (by omega) (by omega) hS0 (by omega) hZ hown C574 P571_0 P571_1 P571_5 P571_6 f579 (Or.inl ⟨_, own_low_ne (p2 &&& (255 : Int32)) 46 (own_c255 p2).1 (own_c255 p2).2 (by decide) hc103_577, rfl, by simp only [own_d66, own_d105, own_d110, own_d97, own_d114, own_d121, own_d46]⟩)
            · refine own_icmpYes Y0.here hx hby (pc' := 116) at_47 (feq hc47_530).2 (by decide) (by decide) ?_
              refine own_iload Y0.here hx hby at_116 rfl ?_
              refine own_iconst Y0.here hx hby at_118 (v := (3 : Int32)) (by decide) ?_
              by_cases hc119_580 : (p1 &&& (7 : Int32)) = (3 : Int32)
              · refine own_icmpNo Y0.here hx hby at_119 (teq hc119_580).2 ?_
                refine own_newO Y0 hx hZ hown (own_w hw 80 rfl) (own_w hw 26 rfl) (own_w hw 25 rfl) e0 hby at_122 (by decide) (by decide) ?_
                intro T581 h581 b581 X581 e581 E581 g581 A581 D581 lt581
                have z582 : h0.size ≤ h581.size := E581.1
                have C583 := C0.trans (CHr.ext E581 C0.1)
                have F584 : Fld Z h581 b581 "java/lang/String" "value" "[B" .null := D581 (Or.inr (own_w hw 27 rfl)) (ty := (.array .byte)) (by decide)
                have F585 : Fld Z h581 b581 "java/lang/String" "coder" "B" (.int 0) := D581 (Or.inr (own_w hw 28 rfl)) (ty := .byte) (by decide)
                refine own_dup X581.here hx hby at_125 rfl ?_
                refine own_bipush X581.here hx hby at_126 (v := (8 : Int32)) (by decide) ?_
                refine own_newP X581 hx hZ (aty := .char) (own_w hw 81 rfl) e581 hby at_128 (by decide) 8 (by decide) (by decide) (by decide) (by decide) (ad := "[C") (by decide) ?_
                intro T586 h586 k586 b586 X586 e586 E586 g586 V586 C586 lt586
                have z587 : h581.size ≤ h586.size := E586.1
                have C588 := C583.trans (CHr.ext E586 C583.1)
                have V589 : Arv Z h586 b586 k586 .char (8 : Int32) [(.int 0), (.int 0), (.int 0), (.int 0), (.int 0), (.int 0), (.int 0), (.int 0)] (.int 0) := V586.pad (pad_rep [] (.int 0) 8)
                refine own_dup X586.here hx hby at_130 rfl ?_
                refine own_iconst X586.here hx hby at_131 (v := (0 : Int32)) (by decide) ?_
                refine own_bipush X586.here hx hby at_132 (v := (66 : Int32)) (by decide) ?_
                refine own_castore X586 hx hZ e586 V589 ⟨by decide, by decide⟩ 0 (by decide) (Nat.le_of_ble_eq_true rfl) (w := (.int 66)) rfl hby at_134 N0 (by omega) ?_
                intro T590 h590 lo590 X590 e590 N590 W590 V590 z590
                have V591 : Arv Z h590 b586 k586 .char (8 : Int32) [(.int 66), (.int 0), (.int 0), (.int 0), (.int 0), (.int 0), (.int 0), (.int 0)] (.int 0) := V590
                have C592 := C588.trans (CHr.wr W590 (Safe.exa hZ.alike C586 (by decide) (by decide)) C588.1)
                refine own_dup X590.here hx hby at_135 rfl ?_
                refine own_iconst X590.here hx hby at_136 (v := (1 : Int32)) (by decide) ?_
                refine own_bipush X590.here hx hby at_137 (v := (105 : Int32)) (by decide) ?_
                refine own_castore X590 hx hZ e590 V591 ⟨by decide, by decide⟩ 1 (by decide) (Nat.le_of_ble_eq_true rfl) (w := (.int 105)) rfl hby at_139 N590 (by omega) ?_
                intro T593 h593 lo593 X593 e593 N593 W593 V593 z593
                have V594 : Arv Z h593 b586 k586 .char (8 : Int32) [(.int 66), (.int 105), (.int 0), (.int 0), (.int 0), (.int 0), (.int 0), (.int 0)] (.int 0) := V593
                have f595 := (C586.wr W590)
                have C596 := C592.trans (CHr.wr W593 (Safe.exa hZ.alike f595 (by decide) (by decide)) C592.1)
                refine own_dup X593.here hx hby at_140 rfl ?_
                refine own_iconst X593.here hx hby at_141 (v := (2 : Int32)) (by decide) ?_
                refine own_bipush X593.here hx hby at_142 (v := (110 : Int32)) (by decide) ?_
                refine own_castore X593 hx hZ e593 V594 ⟨by decide, by decide⟩ 2 (by decide) (Nat.le_of_ble_eq_true rfl) (w := (.int 110)) rfl hby at_144 N593 (by omega) ?_
                intro T597 h597 lo597 X597 e597 N597 W597 V597 z597
                have V598 : Arv Z h597 b586 k586 .char (8 : Int32) [(.int 66), (.int 105), (.int 110), (.int 0), (.int 0), (.int 0), (.int 0), (.int 0)] (.int 0) := V597
                have f599 := (f595.wr W593)
                have C600 := C596.trans (CHr.wr W597 (Safe.exa hZ.alike f599 (by decide) (by decide)) C596.1)
                refine own_dup X597.here hx hby at_145 rfl ?_
                refine own_iconst X597.here hx hby at_146 (v := (3 : Int32)) (by decide) ?_
                refine own_bipush X597.here hx hby at_147 (v := (97 : Int32)) (by decide) ?_
                refine own_castore X597 hx hZ e597 V598 ⟨by decide, by decide⟩ 3 (by decide) (Nat.le_of_ble_eq_true rfl) (w := (.int 97)) rfl hby at_149 N597 (by omega) ?_
                intro T601 h601 lo601 X601 e601 N601 W601 V601 z601
                have V602 : Arv Z h601 b586 k586 .char (8 : Int32) [(.int 66), (.int 105), (.int 110), (.int 97), (.int 0), (.int 0), (.int 0), (.int 0)] (.int 0) := V601
                have f603 := (f599.wr W597)
                have C604 := C600.trans (CHr.wr W601 (Safe.exa hZ.alike f603 (by decide) (by decide)) C600.1)
                refine own_dup X601.here hx hby at_150 rfl ?_
                refine own_iconst X601.here hx hby at_151 (v := (4 : Int32)) (by decide) ?_
                refine own_bipush X601.here hx hby at_152 (v := (114 : Int32)) (by decide) ?_
                refine own_castore X601 hx hZ e601 V602 ⟨by decide, by decide⟩ 4 (by decide) (Nat.le_of_ble_eq_true rfl) (w := (.int 114)) rfl hby at_154 N601 (by omega) ?_
                intro T605 h605 lo605 X605 e605 N605 W605 V605 z605
                have V606 : Arv Z h605 b586 k586 .char (8 : Int32) [(.int 66), (.int 105), (.int 110), (.int 97), (.int 114), (.int 0), (.int 0), (.int 0)] (.int 0) := V605
                have f607 := (f603.wr W601)
                have C608 := C604.trans (CHr.wr W605 (Safe.exa hZ.alike f607 (by decide) (by decide)) C604.1)
                refine own_dup X605.here hx hby at_155 rfl ?_
                refine own_iconst X605.here hx hby at_156 (v := (5 : Int32)) (by decide) ?_
                refine own_bipush X605.here hx hby at_157 (v := (121 : Int32)) (by decide) ?_
                refine own_castore X605 hx hZ e605 V606 ⟨by decide, by decide⟩ 5 (by decide) (Nat.le_of_ble_eq_true rfl) (w := (.int 121)) rfl hby at_159 N605 (by omega) ?_
                intro T609 h609 lo609 X609 e609 N609 W609 V609 z609
                have V610 : Arv Z h609 b586 k586 .char (8 : Int32) [(.int 66), (.int 105), (.int 110), (.int 97), (.int 114), (.int 121), (.int 0), (.int 0)] (.int 0) := V609
                have f611 := (f607.wr W605)
                have C612 := C608.trans (CHr.wr W609 (Safe.exa hZ.alike f611 (by decide) (by decide)) C608.1)
                refine own_dup X609.here hx hby at_160 rfl ?_
                refine own_bipush X609.here hx hby at_161 (v := (6 : Int32)) (by decide) ?_
                refine own_bipush X609.here hx hby at_163 (v := (46 : Int32)) (by decide) ?_
                refine own_castore X609 hx hZ e609 V610 ⟨by decide, by decide⟩ 6 (by decide) (Nat.le_of_ble_eq_true rfl) (w := (.int 46)) rfl hby at_165 N609 (by omega) ?_
                intro T613 h613 lo613 X613 e613 N613 W613 V613 z613
                have V614 : Arv Z h613 b586 k586 .char (8 : Int32) [(.int 66), (.int 105), (.int 110), (.int 97), (.int 114), (.int 121), (.int 46), (.int 0)] (.int 0) := V613
                have f615 := (f611.wr W609)
                have C616 := C612.trans (CHr.wr W613 (Safe.exa hZ.alike f615 (by decide) (by decide)) C612.1)
                refine own_dup X613.here hx hby at_166 rfl ?_
                refine own_bipush X613.here hx hby at_167 (v := (7 : Int32)) (by decide) ?_
                refine own_iload X613.here hx hby at_169 rfl ?_
                refine own_castore X613 hx hZ e613 V614 ⟨by decide, by decide⟩ 7 (by decide) (Nat.le_of_ble_eq_true rfl) (w := (.int (p2 &&& (255 : Int32)))) (congrArg Value.int (i2c_mask p2)) hby at_171 N613 (by omega) ?_
                intro T617 h617 lo617 X617 e617 N617 W617 V617 z617
                have V618 : Arv Z h617 b586 k586 .char (8 : Int32) [(.int 66), (.int 105), (.int 110), (.int 97), (.int 114), (.int 121), (.int 46), (.int (p2 &&& (255 : Int32)))] (.int 0) := V617
                have f619 := (f615.wr W613)
                have C620 := C616.trans (CHr.wr W617 (Safe.exa hZ.alike f619 (by decide) (by decide)) C616.1)
                have f621 := (((((((((A581.ext E586).wr W590).wr W593).wr W597).wr W601).wr W605).wr W609).wr W613).wr W617)
                have f622 := (((((((((F584.ext E586).other W590 (Or.inl (own_nn (by omega)))).other W593 (Or.inl (own_nn (by omega)))).other W597 (Or.inl (own_nn (by omega)))).other W601 (Or.inl (own_nn (by omega)))).other W605 (Or.inl (own_nn (by omega)))).other W609 (Or.inl (own_nn (by omega)))).other W613 (Or.inl (own_nn (by omega)))).other W617 (Or.inl (own_nn (by omega))))
                have f623 := (((((((((F585.ext E586).other W590 (Or.inl (own_nn (by omega)))).other W593 (Or.inl (own_nn (by omega)))).other W597 (Or.inl (own_nn (by omega)))).other W601 (Or.inl (own_nn (by omega)))).other W605 (Or.inl (own_nn (by omega)))).other W609 (Or.inl (own_nn (by omega)))).other W613 (Or.inl (own_nn (by omega)))).other W617 (Or.inl (own_nn (by omega))))
                have f624 := ((((((((((S_C.ext E581).ext E586).wr W590).wr W593).wr W597).wr W601).wr W605).wr W609).wr W613).wr W617)
                have z626 : n0 ≤ h617.size := by omega
                have hws_words : ∀ d ∈ StrChars.Road.words, d.before a0 Z = true := fun d hd => hw d ((by decide +kernel : ∀ d ∈ StrChars.Road.words, d ∈ tables_1) d hd)
                refine own_specialB X617 hx hZ rfl hown (own_w hw 82 rfl) (own_w hw 83 rfl) (own_w hw 84 rfl) (by decide) (StrChars.Road.backV (W := 1) hZ hws_words (kI := 4) (own_w hw 26 rfl) (cs := ([(66 : Int32), (105 : Int32), (110 : Int32), (97 : Int32), (114 : Int32), (121 : Int32), (46 : Int32), (p2 &&& (255 : Int32))] : List Int32)) (bs := ([(66 : Int32), (105 : Int32), (110 : Int32), (97 : Int32), (114 : Int32), (121 : Int32), (46 : Int32), (p2 &&& (255 : Int32))] : List Int32).map (fun c => c.toInt8.toInt32)) (n := 8) (by omega) z626 f621 f622 f623 V618 f624 hz rfl rfl (by decide) (by decide) (own_lS (by decide) (own_lS (by decide) (own_lS (by decide) (own_lS (by decide) (own_lS (by decide) (own_lS (by decide) (own_lS (by decide) (own_lS (own_c255 p2) own_l0)))))))) rfl (by decide) (by decide)) (Nat.le_of_eq rfl) (by rw [hml]; rfl) (argsL := [(.ref b586)]) (st := [(.ref b581)]) (a := b581) (lenOf pd_12 rfl) rfl rfl (by decide) (by decide) e617 hby at_172 ?_
                intro T625 v625 L625 X625 hQ625
                obtain ⟨rfl, Nq625, K625, P625_0, P625_1, t_625, kb_625, P625_2, P625_3, P625_4, P625_5, P625_6⟩ := hQ625
                have N625 := Fr.app N617 Nq625
                have z627 : h617.size ≤ T625.heap.size := K625.1
                have C628 := C620.trans (CHr.keep K625 (sfS (own_safe_null hZ.alike f621 f622) sf0) C620.1)
                have lt629 : T625.heap.size > b581 := P625_0.lt
                have lt630 : T625.heap.size > t_625 := P625_6.lt
                refine own_sh (T := T625) 175 #[.val (.int p1), .val (.int p2), .val (.int p3), .val (.int p4), .val (.int (p2 &&& (255 : Int32))), .val (.int (p1 &&& (7 : Int32))), .unset, .unset, .unset, .unset, .unset, .unset, .unset, .unset, .unset, .unset, .unset] [(.ref b581)] ?_
                refine own_astore X625.here hx hby at_175 rfl (l' := #[.val (.int p1), .val (.int p2), .val (.int p3), .val (.int p4), .val (.int (p2 &&& (255 : Int32))), .val (.int (p1 &&& (7 : Int32))), .val (.ref b581), .unset, .unset, .unset, .unset, .unset, .unset, .unset, .unset, .unset, .unset]) rfl ?_
                refine own_iconst X625.here hx hby at_177 (v := (1 : Int32)) (by decide) ?_
                refine own_istore X625.here hx hby at_178 (l' := #[.val (.int p1), .val (.int p2), .val (.int p3), .val (.int p4), .val (.int (p2 &&& (255 : Int32))), .val (.int (p1 &&& (7 : Int32))), .val (.ref b581), .val (.int 1), .unset, .unset, .unset, .unset, .unset, .unset, .unset, .unset, .unset]) rfl ?_
                refine own_goto X625.here hx hby (pc' := 292) at_180 (by decide) (by decide) ?_
                have f631 := (own_sta_keep f624 K625 (allS (own_exa_plain f621) all0))
                refine own_sh (T := T625) 292 #[.val (.int p1), .val (.int p2), .val (.int p3), .val (.int p4), .val (.int (p2 &&& (255 : Int32))), .val (.int (p1 &&& (7 : Int32))), .val (.ref b581), .val (.int 1), .unset, .unset, .unset, .unset, .unset, .unset, .unset, .unset, .unset] [] ?_
                exact J238 _ _ _ _ _ b581 t_625 kb_625 (8 : Int32) ([(.int ((66 : Int32).toInt8.toInt32)), (.int ((105 : Int32).toInt8.toInt32)), (.int ((110 : Int32).toInt8.toInt32)), (.int ((97 : Int32).toInt8.toInt32)), (.int ((114 : Int32).toInt8.toInt32)), (.int ((121 : Int32).toInt8.toInt32)), (.int ((46 : Int32).toInt8.toInt32)), (.int ((p2 &&& (255 : Int32)).toInt8.toInt32))]) (X625.mono (by decide) (by decide)) rfl N625 (by omega) (by omega) hS0 (by omega) hZ hown C628 P625_0 P625_1 P625_5 P625_6 f631 (Or.inr (Or.inr ⟨_, rfl, by simp only [own_d66, own_d105, own_d110, own_d97, own_d114, own_d121, own_d46]; rfl⟩))
              · refine own_icmpYes Y0.here hx hby (pc' := 183) at_119 (feq hc119_580).2 (by decide) (by decide) ?_
                refine own_iload Y0.here hx hby at_183 rfl ?_
                refine own_iconst Y0.here hx hby at_185 (v := (4 : Int32)) (by decide) ?_
                by_cases hc186_632 : (p1 &&& (7 : Int32)) = (4 : Int32)
                · refine own_icmpNo Y0.here hx hby at_186 (teq hc186_632).2 ?_
                  have own_wS0 : ∀ a ∈ Bundle.stringAtoms, a.before a0 Z = true := own_wS hw
                  refine own_ldcCH Y0 hx hZ hEL hown (own_w hw 24 rfl) own_wS0 e0 hS0 (by omega) C0.1 (List.mem_of_getElem? (i := 3) rfl) (vs := [(.int 83), (.int 116), (.int 114), (.int 105), (.int 110), (.int 103)]) (z := (6 : Int32)) ⟨by decide, by decide⟩ (by decide) (by decide) hby at_189 24 (by decide) (by decide) (by decide) (by decide) ?_
                  intro a633 T633 h633 kk633 vm633 b633 kb633 X633 e633 E633 hS633 hk633 hZ633 hown633 Ea633 Fc633 Fv633 Va633 la633 lb633 Cn633 ns633
                  have z634 : h0.size ≤ h633.size := E633.1
                  have C635 := C0.trans Cn633
                  refine own_astore X633.here hx hby at_191 rfl (l' := #[.val (.int p1), .val (.int p2), .val (.int p3), .val (.int p4), .val (.int (p2 &&& (255 : Int32))), .val (.int (p1 &&& (7 : Int32))), .val (.ref a633), .unset, .unset, .unset, .unset, .unset, .unset, .unset, .unset, .unset, .unset]) rfl ?_
                  refine own_iconst X633.here hx hby at_193 (v := (0 : Int32)) (by decide) ?_
                  refine own_istore X633.here hx hby at_194 (l' := #[.val (.int p1), .val (.int p2), .val (.int p3), .val (.int p4), .val (.int (p2 &&& (255 : Int32))), .val (.int (p1 &&& (7 : Int32))), .val (.ref a633), .val (.int 0), .unset, .unset, .unset, .unset, .unset, .unset, .unset, .unset, .unset]) rfl ?_
                  refine own_goto X633.here hx hby (pc' := 292) at_196 (by decide) (by decide) ?_
                  have f636 := (S_C.ext E633)
                  refine own_sh (T := T633) 292 #[.val (.int p1), .val (.int p2), .val (.int p3), .val (.int p4), .val (.int (p2 &&& (255 : Int32))), .val (.int (p1 &&& (7 : Int32))), .val (.ref a633), .val (.int 0), .unset, .unset, .unset, .unset, .unset, .unset, .unset, .unset, .unset] [] ?_
                  exact J394 _ _ _ _ _ a633 b633 kb633 (6 : Int32) ([(.int 83), (.int 116), (.int 114), (.int 105), (.int 110), (.int 103)]) (X633.mono (by decide) (by decide)) e633 N0 (by omega) (by omega) hS633 (by omega) hZ633 hown633 C635 Ea633 Fc633 Fv633 Va633 f636 (Or.inr (Or.inl ⟨rfl, rfl⟩))
                · refine own_icmpYes Y0.here hx hby (pc' := 199) at_186 (feq hc186_632).2 (by decide) (by decide) ?_
                  refine own_iload Y0.here hx hby at_199 rfl ?_
                  refine own_iconst Y0.here hx hby at_201 (v := (5 : Int32)) (by decide) ?_
                  by_cases hc202_637 : (p1 &&& (7 : Int32)) = (5 : Int32)
                  · refine own_icmpNo Y0.here hx hby at_202 (teq hc202_637).2 ?_
                    have own_wS0 : ∀ a ∈ Bundle.stringAtoms, a.before a0 Z = true := own_wS hw
                    refine own_ldcCH Y0 hx hZ hEL hown (own_w hw 112 rfl) own_wS0 e0 hS0 (by omega) C0.1 (List.mem_of_getElem? (i := 4) rfl) (vs := [(.int 78), (.int 117), (.int 109), (.int 98), (.int 101), (.int 114)]) (z := (6 : Int32)) ⟨by decide, by decide⟩ (by decide) (by decide) hby at_205 24 (by decide) (by decide) (by decide) (by decide) ?_
                    intro a638 T638 h638 kk638 vm638 b638 kb638 X638 e638 E638 hS638 hk638 hZ638 hown638 Ea638 Fc638 Fv638 Va638 la638 lb638 Cn638 ns638
                    have z639 : h0.size ≤ h638.size := E638.1
                    have C640 := C0.trans Cn638
                    refine own_astore X638.here hx hby at_207 rfl (l' := #[.val (.int p1), .val (.int p2), .val (.int p3), .val (.int p4), .val (.int (p2 &&& (255 : Int32))), .val (.int (p1 &&& (7 : Int32))), .val (.ref a638), .unset, .unset, .unset, .unset, .unset, .unset, .unset, .unset, .unset, .unset]) rfl ?_
                    refine own_iconst X638.here hx hby at_209 (v := (0 : Int32)) (by decide) ?_
                    refine own_istore X638.here hx hby at_210 (l' := #[.val (.int p1), .val (.int p2), .val (.int p3), .val (.int p4), .val (.int (p2 &&& (255 : Int32))), .val (.int (p1 &&& (7 : Int32))), .val (.ref a638), .val (.int 0), .unset, .unset, .unset, .unset, .unset, .unset, .unset, .unset, .unset]) rfl ?_
                    refine own_goto X638.here hx hby (pc' := 292) at_212 (by decide) (by decide) ?_
                    have f641 := (S_C.ext E638)
                    refine own_sh (T := T638) 292 #[.val (.int p1), .val (.int p2), .val (.int p3), .val (.int p4), .val (.int (p2 &&& (255 : Int32))), .val (.int (p1 &&& (7 : Int32))), .val (.ref a638), .val (.int 0), .unset, .unset, .unset, .unset, .unset, .unset, .unset, .unset, .unset] [] ?_
                    exact J394 _ _ _ _ _ a638 b638 kb638 (6 : Int32) ([(.int 78), (.int 117), (.int 109), (.int 98), (.int 101), (.int 114)]) (X638.mono (by decide) (by decide)) e638 N0 (by omega) (by omega) hS638 (by omega) hZ638 hown638 C640 Ea638 Fc638 Fv638 Va638 f641 (Or.inr (Or.inr (Or.inl ⟨rfl, rfl⟩)))
                  · refine own_icmpYes Y0.here hx hby (pc' := 215) at_202 (feq hc202_637).2 (by decide) (by decide) ?_
                    refine own_iload Y0.here hx hby at_215 rfl ?_
                    refine own_bipush Y0.here hx hby at_217 (v := (6 : Int32)) (by decide) ?_
                    by_cases hc219_642 : (p1 &&& (7 : Int32)) = (6 : Int32)
                    · refine own_icmpNo Y0.here hx hby at_219 (teq hc219_642).2 ?_
                      refine own_newO Y0 hx hZ hown (own_w hw 80 rfl) (own_w hw 26 rfl) (own_w hw 25 rfl) e0 hby at_222 (by decide) (by decide) ?_
                      intro T643 h643 b643 X643 e643 E643 g643 A643 D643 lt643
                      have z644 : h0.size ≤ h643.size := E643.1
                      have C645 := C0.trans (CHr.ext E643 C0.1)
                      have F646 : Fld Z h643 b643 "java/lang/String" "value" "[B" .null := D643 (Or.inr (own_w hw 27 rfl)) (ty := (.array .byte)) (by decide)
                      have F647 : Fld Z h643 b643 "java/lang/String" "coder" "B" (.int 0) := D643 (Or.inr (own_w hw 28 rfl)) (ty := .byte) (by decide)
                      refine own_dup X643.here hx hby at_225 rfl ?_
                      refine own_bipush X643.here hx hby at_226 (v := (6 : Int32)) (by decide) ?_
                      refine own_newP X643 hx hZ (aty := .char) (own_w hw 81 rfl) e643 hby at_228 (by decide) 6 (by decide) (by decide) (by decide) (by decide) (ad := "[C") (by decide) ?_
                      intro T648 h648 k648 b648 X648 e648 E648 g648 V648 C648 lt648
                      have z649 : h643.size ≤ h648.size := E648.1
                      have C650 := C645.trans (CHr.ext E648 C645.1)
                      have V651 : Arv Z h648 b648 k648 .char (6 : Int32) [(.int 0), (.int 0), (.int 0), (.int 0), (.int 0), (.int 0)] (.int 0) := V648.pad (pad_rep [] (.int 0) 6)
                      refine own_dup X648.here hx hby at_230 rfl ?_
                      refine own_iconst X648.here hx hby at_231 (v := (0 : Int32)) (by decide) ?_
                      refine own_bipush X648.here hx hby at_232 (v := (66 : Int32)) (by decide) ?_
                      refine own_castore X648 hx hZ e648 V651 ⟨by decide, by decide⟩ 0 (by decide) (Nat.le_of_ble_eq_true rfl) (w := (.int 66)) rfl hby at_234 N0 (by omega) ?_
                      intro T652 h652 lo652 X652 e652 N652 W652 V652 z652
                      have V653 : Arv Z h652 b648 k648 .char (6 : Int32) [(.int 66), (.int 0), (.int 0), (.int 0), (.int 0), (.int 0)] (.int 0) := V652
                      have C654 := C650.trans (CHr.wr W652 (Safe.exa hZ.alike C648 (by decide) (by decide)) C650.1)
                      refine own_dup X652.here hx hby at_235 rfl ?_
                      refine own_iconst X652.here hx hby at_236 (v := (1 : Int32)) (by decide) ?_
                      refine own_bipush X652.here hx hby at_237 (v := (105 : Int32)) (by decide) ?_
                      refine own_castore X652 hx hZ e652 V653 ⟨by decide, by decide⟩ 1 (by decide) (Nat.le_of_ble_eq_true rfl) (w := (.int 105)) rfl hby at_239 N652 (by omega) ?_
                      intro T655 h655 lo655 X655 e655 N655 W655 V655 z655
                      have V656 : Arv Z h655 b648 k648 .char (6 : Int32) [(.int 66), (.int 105), (.int 0), (.int 0), (.int 0), (.int 0)] (.int 0) := V655
                      have f657 := (C648.wr W652)
                      have C658 := C654.trans (CHr.wr W655 (Safe.exa hZ.alike f657 (by decide) (by decide)) C654.1)
                      refine own_dup X655.here hx hby at_240 rfl ?_
                      refine own_iconst X655.here hx hby at_241 (v := (2 : Int32)) (by decide) ?_
                      refine own_bipush X655.here hx hby at_242 (v := (110 : Int32)) (by decide) ?_
                      refine own_castore X655 hx hZ e655 V656 ⟨by decide, by decide⟩ 2 (by decide) (Nat.le_of_ble_eq_true rfl) (w := (.int 110)) rfl hby at_244 N655 (by omega) ?_
                      intro T659 h659 lo659 X659 e659 N659 W659 V659 z659
                      have V660 : Arv Z h659 b648 k648 .char (6 : Int32) [(.int 66), (.int 105), (.int 110), (.int 0), (.int 0), (.int 0)] (.int 0) := V659
                      have f661 := (f657.wr W655)
                      have C662 := C658.trans (CHr.wr W659 (Safe.exa hZ.alike f661 (by decide) (by decide)) C658.1)
                      refine own_dup X659.here hx hby at_245 rfl ?_
                      refine own_iconst X659.here hx hby at_246 (v := (3 : Int32)) (by decide) ?_
                      refine own_bipush X659.here hx hby at_247 (v := (97 : Int32)) (by decide) ?_
                      refine own_castore X659 hx hZ e659 V660 ⟨by decide, by decide⟩ 3 (by decide) (Nat.le_of_ble_eq_true rfl) (w := (.int 97)) rfl hby at_249 N659 (by omega) ?_
                      intro T663 h663 lo663 X663 e663 N663 W663 V663 z663
                      have V664 : Arv Z h663 b648 k648 .char (6 : Int32) [(.int 66), (.int 105), (.int 110), (.int 97), (.int 0), (.int 0)] (.int 0) := V663
                      have f665 := (f661.wr W659)
                      have C666 := C662.trans (CHr.wr W663 (Safe.exa hZ.alike f665 (by decide) (by decide)) C662.1)
                      refine own_dup X663.here hx hby at_250 rfl ?_
                      refine own_iconst X663.here hx hby at_251 (v := (4 : Int32)) (by decide) ?_
                      refine own_bipush X663.here hx hby at_252 (v := (114 : Int32)) (by decide) ?_
                      refine own_castore X663 hx hZ e663 V664 ⟨by decide, by decide⟩ 4 (by decide) (Nat.le_of_ble_eq_true rfl) (w := (.int 114)) rfl hby at_254 N663 (by omega) ?_
                      intro T667 h667 lo667 X667 e667 N667 W667 V667 z667
                      have V668 : Arv Z h667 b648 k648 .char (6 : Int32) [(.int 66), (.int 105), (.int 110), (.int 97), (.int 114), (.int 0)] (.int 0) := V667
                      have f669 := (f665.wr W663)
                      have C670 := C666.trans (CHr.wr W667 (Safe.exa hZ.alike f669 (by decide) (by decide)) C666.1)
                      refine own_dup X667.here hx hby at_255 rfl ?_
                      refine own_iconst X667.here hx hby at_256 (v := (5 : Int32)) (by decide) ?_
                      refine own_iload X667.here hx hby at_257 rfl ?_
                      refine own_castore X667 hx hZ e667 V668 ⟨by decide, by decide⟩ 5 (by decide) (Nat.le_of_ble_eq_true rfl) (w := (.int (p2 &&& (255 : Int32)))) (congrArg Value.int (i2c_mask p2)) hby at_259 N667 (by omega) ?_
                      intro T671 h671 lo671 X671 e671 N671 W671 V671 z671
                      have V672 : Arv Z h671 b648 k648 .char (6 : Int32) [(.int 66), (.int 105), (.int 110), (.int 97), (.int 114), (.int (p2 &&& (255 : Int32)))] (.int 0) := V671
                      have f673 := (f669.wr W667)
                      have C674 := C670.trans (CHr.wr W671 (Safe.exa hZ.alike f673 (by decide) (by decide)) C670.1)
                      have f675 := (((((((A643.ext E648).wr W652).wr W655).wr W659).wr W663).wr W667).wr W671)
                      have f676 := (((((((F646.ext E648).other W652 (Or.inl (own_nn (by omega)))).other W655 (Or.inl (own_nn (by omega)))).other W659 (Or.inl (own_nn (by omega)))).other W663 (Or.inl (own_nn (by omega)))).other W667 (Or.inl (own_nn (by omega)))).other W671 (Or.inl (own_nn (by omega))))
                      have f677 := (((((((F647.ext E648).other W652 (Or.inl (own_nn (by omega)))).other W655 (Or.inl (own_nn (by omega)))).other W659 (Or.inl (own_nn (by omega)))).other W663 (Or.inl (own_nn (by omega)))).other W667 (Or.inl (own_nn (by omega)))).other W671 (Or.inl (own_nn (by omega))))
                      have f678 := ((((((((S_C.ext E643).ext E648).wr W652).wr W655).wr W659).wr W663).wr W667).wr W671)
                      have z680 : n0 ≤ h671.size := by omega
                      have hws_words : ∀ d ∈ StrChars.Road.words, d.before a0 Z = true := fun d hd => hw d ((by decide +kernel : ∀ d ∈ StrChars.Road.words, d ∈ tables_1) d hd)
                      refine own_specialB X671 hx hZ rfl hown (own_w hw 82 rfl) (own_w hw 83 rfl) (own_w hw 84 rfl) (by decide) (StrChars.Road.backV (W := 1) hZ hws_words (kI := 4) (own_w hw 26 rfl) (cs := ([(66 : Int32), (105 : Int32), (110 : Int32), (97 : Int32), (114 : Int32), (p2 &&& (255 : Int32))] : List Int32)) (bs := ([(66 : Int32), (105 : Int32), (110 : Int32), (97 : Int32), (114 : Int32), (p2 &&& (255 : Int32))] : List Int32).map (fun c => c.toInt8.toInt32)) (n := 6) (by omega) z680 f675 f676 f677 V672 f678 hz rfl rfl (by decide) (by decide) (own_lS (by decide) (own_lS (by decide) (own_lS (by decide) (own_lS (by decide) (own_lS (by decide) (own_lS (own_c255 p2) own_l0)))))) rfl (by decide) (by decide)) (Nat.le_of_eq rfl) (by rw [hml]; rfl) (argsL := [(.ref b648)]) (st := [(.ref b643)]) (a := b643) (lenOf pd_12 rfl) rfl rfl (by decide) (by decide) e671 hby at_260 ?_
                      intro T679 v679 L679 X679 hQ679
                      obtain ⟨rfl, Nq679, K679, P679_0, P679_1, t_679, kb_679, P679_2, P679_3, P679_4, P679_5, P679_6⟩ := hQ679
                      have N679 := Fr.app N671 Nq679
                      have z681 : h671.size ≤ T679.heap.size := K679.1
                      have C682 := C674.trans (CHr.keep K679 (sfS (own_safe_null hZ.alike f675 f676) sf0) C674.1)
                      have lt683 : T679.heap.size > b643 := P679_0.lt
                      have lt684 : T679.heap.size > t_679 := P679_6.lt
                      refine own_sh (T := T679) 263 #[.val (.int p1), .val (.int p2), .val (.int p3), .val (.int p4), .val (.int (p2 &&& (255 : Int32))), .val (.int (p1 &&& (7 : Int32))), .unset, .unset, .unset, .unset, .unset, .unset, .unset, .unset, .unset, .unset, .unset] [(.ref b643)] ?_
                      refine own_astore X679.here hx hby at_263 rfl (l' := #[.val (.int p1), .val (.int p2), .val (.int p3), .val (.int p4), .val (.int (p2 &&& (255 : Int32))), .val (.int (p1 &&& (7 : Int32))), .val (.ref b643), .unset, .unset, .unset, .unset, .unset, .unset, .unset, .unset, .unset, .unset]) rfl ?_
                      refine own_iload X679.here hx hby at_265 rfl ?_
                      refine own_bipush X679.here hx hby at_267 (v := (121 : Int32)) (by decide) ?_
                      by_cases hc269_685 : (p2 &&& (255 : Int32)) = (121 : Int32)
                      · refine own_icmpNo X679.here hx hby at_269 (teq hc269_685).2 ?_
                        refine own_iconst X679.here hx hby at_272 (v := (1 : Int32)) (by decide) ?_
                        refine own_goto X679.here hx hby (pc' := 277) at_273 (by decide) (by decide) ?_
                        refine own_istore X679.here hx hby at_277 (l' := #[.val (.int p1), .val (.int p2), .val (.int p3), .val (.int p4), .val (.int (p2 &&& (255 : Int32))), .val (.int (p1 &&& (7 : Int32))), .val (.ref b643), .val (.int 1), .unset, .unset, .unset, .unset, .unset, .unset, .unset, .unset, .unset]) rfl ?_
                        refine own_goto X679.here hx hby (pc' := 292) at_279 (by decide) (by decide) ?_
                        have f686 := (own_sta_keep f678 K679 (allS (own_exa_plain f675) all0))
                        refine own_sh (T := T679) 292 #[.val (.int p1), .val (.int p2), .val (.int p3), .val (.int p4), .val (.int (p2 &&& (255 : Int32))), .val (.int (p1 &&& (7 : Int32))), .val (.ref b643), .val (.int 1), .unset, .unset, .unset, .unset, .unset, .unset, .unset, .unset, .unset] [] ?_
                        exact J238 _ _ _ _ _ b643 t_679 kb_679 (6 : Int32) ([(.int ((66 : Int32).toInt8.toInt32)), (.int ((105 : Int32).toInt8.toInt32)), (.int ((110 : Int32).toInt8.toInt32)), (.int ((97 : Int32).toInt8.toInt32)), (.int ((114 : Int32).toInt8.toInt32)), (.int ((p2 &&& (255 : Int32)).toInt8.toInt32))]) (X679.mono (by decide) (by decide)) rfl N679 (by omega) (by omega) hS0 (by omega) hZ hown C682 P679_0 P679_1 P679_5 P679_6 f686 (Or.inl ⟨rfl, by simp only [hc269_685, own_d66, own_d105, own_d110, own_d97, own_d114, own_d121, own_d46]⟩)
                      · refine own_icmpYes X679.here hx hby (pc' := 276) at_269 (feq hc269_685).2 (by decide) (by decide) ?_
                        refine own_iconst X679.here hx hby at_276 (v := (0 : Int32)) (by decide) ?_
                        refine own_istore X679.here hx hby at_277 (l' := #[.val (.int p1), .val (.int p2), .val (.int p3), .val (.int p4), .val (.int (p2 &&& (255 : Int32))), .val (.int (p1 &&& (7 : Int32))), .val (.ref b643), .val (.int 0), .unset, .unset, .unset, .unset, .unset, .unset, .unset, .unset, .unset]) rfl ?_
                        refine own_goto X679.here hx hby (pc' := 292) at_279 (by decide) (by decide) ?_
                        have f687 := (own_sta_keep f678 K679 (allS (own_exa_plain f675) all0))
                        refine own_sh (T := T679) 292 #[.val (.int p1), .val (.int p2), .val (.int p3), .val (.int p4), .val (.int (p2 &&& (255 : Int32))), .val (.int (p1 &&& (7 : Int32))), .val (.ref b643), .val (.int 0), .unset, .unset, .unset, .unset, .unset, .unset, .unset, .unset, .unset] [] ?_
                        exact J394 _ _ _ _ _ b643 t_679 kb_679 (6 : Int32) ([(.int ((66 : Int32).toInt8.toInt32)), (.int ((105 : Int32).toInt8.toInt32)), (.int ((110 : Int32).toInt8.toInt32)), (.int ((97 : Int32).toInt8.toInt32)), (.int ((114 : Int32).toInt8.toInt32)), (.int ((p2 &&& (255 : Int32)).toInt8.toInt32))]) (X679.mono (by decide) (by decide)) rfl N679 (by omega) (by omega) hS0 (by omega) hZ hown C682 P679_0 P679_1 P679_5 P679_6 f687 (Or.inr (Or.inr (Or.inr (Or.inl ⟨_, own_low_ne (p2 &&& (255 : Int32)) 121 (own_c255 p2).1 (own_c255 p2).2 (by decide) hc269_685, rfl, by simp only [own_d66, own_d105, own_d110, own_d97, own_d114, own_d121, own_d46]⟩))))
                    · refine own_icmpYes Y0.here hx hby (pc' := 282) at_219 (feq hc219_642).2 (by decide) (by decide) ?_
                      refine own_iload Y0.here hx hby at_282 rfl ?_
                      refine own_callS Y0 hx hZ hown (own_w hw 67 rfl) (own_w hw 68 rfl) (own_w hw 25 rfl) (own_w hw 69 rfl) (by decide) (valOf l Z a0 hw [] (p2 &&& (255 : Int32)) zc h0 n0 Z0 S_C hz (own_c255 p2).2) 0 (Nat.le_of_eq rfl) (by decide) (by decide) (by rw [hml]; rfl) (argsL := [(.int (p2 &&& (255 : Int32)))]) (st := []) (lenOf pd_13 rfl) rfl rfl (by decide) (by decide) e0 hby at_284 ?_
                      intro T688 v688 L688 X688 hQ688
                      obtain ⟨x_688, t_688, kb_688, rfl, Nq688, K688, P688_0, P688_1, P688_2, P688_3, P688_4, P688_5, P688_6⟩ := hQ688
                      have N688 := Fr.app N0 Nq688
                      have z689 : h0.size ≤ T688.heap.size := K688.1
                      have C690 := C0.trans (CHr.keep K688 sf0 C0.1)
                      have lt691 : T688.heap.size > x_688 := P688_3.lt
                      have lt692 : T688.heap.size > t_688 := P688_6.lt
                      refine own_sh (T := T688) 287 #[.val (.int p1), .val (.int p2), .val (.int p3), .val (.int p4), .val (.int (p2 &&& (255 : Int32))), .val (.int (p1 &&& (7 : Int32))), .unset, .unset, .unset, .unset, .unset, .unset, .unset, .unset, .unset, .unset, .unset] [(.ref x_688)] ?_
                      refine own_astore X688.here hx hby at_287 rfl (l' := #[.val (.int p1), .val (.int p2), .val (.int p3), .val (.int p4), .val (.int (p2 &&& (255 : Int32))), .val (.int (p1 &&& (7 : Int32))), .val (.ref x_688), .unset, .unset, .unset, .unset, .unset, .unset, .unset, .unset, .unset, .unset]) rfl ?_
                      refine own_iconst X688.here hx hby at_289 (v := (0 : Int32)) (by decide) ?_
                      refine own_istore X688.here hx hby at_290 (l' := #[.val (.int p1), .val (.int p2), .val (.int p3), .val (.int p4), .val (.int (p2 &&& (255 : Int32))), .val (.int (p1 &&& (7 : Int32))), .val (.ref x_688), .val (.int 0), .unset, .unset, .unset, .unset, .unset, .unset, .unset, .unset, .unset]) rfl ?_
                      have f693 := (own_sta_keep S_C K688 all0)
                      refine own_sh (T := T688) 292 #[.val (.int p1), .val (.int p2), .val (.int p3), .val (.int p4), .val (.int (p2 &&& (255 : Int32))), .val (.int (p1 &&& (7 : Int32))), .val (.ref x_688), .val (.int 0), .unset, .unset, .unset, .unset, .unset, .unset, .unset, .unset, .unset] [] ?_
                      exact J394 _ _ _ _ _ x_688 t_688 kb_688 (1 : Int32) ([(.int ((p2 &&& (255 : Int32)).toInt8.toInt32))]) (X688.mono (by decide) (by decide)) rfl N688 (by omega) (by omega) hS0 (by omega) hZ hown C690 P688_3 P688_4 P688_5 P688_6 f693 (Or.inr (Or.inr (Or.inr (Or.inr ⟨_, rfl, rfl⟩))))
set_option maxRecDepth 65536 in
set_option maxHeartbeats 40000000 in
theorem comes_1 {Post : Tables → Env → Array Value → State → Outcome → State → Prop} (hpost : ∀ tb e args s v u, (limb_1_1.after args s (.returned v) u = true ∧ limb_1_2.after args s (.returned v) u = true ∧ True) → ReturnedEndW s (.returned v) u (Jvm.fieldLocs frame_1_writes args s ++ Jvm.arrayLocs frame_1_arrays args s ++ Jvm.staticLocs frame_1_statics s) 40 5312 → Post tb e args s (.returned v) u) :
    ArmFor flags0 classFile x code maxLocals ret World_1 tables_1 room_1 Calls_1 rest_1 Pre_1 Post := by
  intro l hfl _ _ p e ha hc hk s m args below hf hA hF happ hP
  obtain ⟨hcalls, hrest, hpre⟩ := hP
  obtain ⟨-, -, -, hnamed, -, -, -, hat⟩ := (Spec.applies_iff hf).mp happ
  obtain ⟨hg, hn⟩ := and_e (Cond.before_iff.mp (show (Jvm.Cond.and given_1 narrow_1).before args s = true from hpre))
  obtain ⟨g1, g2⟩ := and_e hg
  obtain ⟨g3, g4⟩ := and_e g2
  obtain ⟨g5, g6⟩ := and_e g4
  obtain ⟨g7, g8⟩ := and_e g6
  obtain ⟨w0, w1, w2, w3, rfl⟩ : ∃ w0 w1 w2 w3 : Value, args = #[w0, w1, w2, w3] := by
    have hs : args.size = 4 := by simpa [Cond.value, given_1] using g1
    obtain ⟨L⟩ := args
    match L, hs with
    | [w0, w1, w2, w3], _ => exact ⟨w0, w1, w2, w3, rfl⟩
  have hw := fun d (hd : d ∈ tables_1) => atoms_spec (ws := Jvm.Cond.code x code maxLocals ret :: tables_1) hat d (List.mem_cons_of_mem _ hd)
  have hfit : Fit s := fun {y c} hc i hi => by
    obtain ⟨ha, rfl⟩ := Array.getElem?_eq_some_iff.mp hc
    have q := List.all_eq_true.mp ((Array.all_eq_true_iff_forall_mem.mp hF) _ (Array.getElem_mem ha)) i (List.mem_range.mpr hi)
    simpa [Array.getElem?_eq_getElem hi] using q
  obtain ⟨hsets, hown0⟩ := atoms_of _ (rest_1_c_eq ▸ (show rest_1_c.before _ s = true from hrest))
  have hr0 := Cond.before_iff.mp hown0
  obtain ⟨i0, ei0⟩ := is_v g3
  obtain rfl : w0 = (.int i0) := Option.some.inj ei0
  obtain ⟨i1, ei1⟩ := is_v g5
  obtain rfl : w1 = (.int i1) := Option.some.inj ei1
  obtain ⟨i2, ei2⟩ := is_v g7
  obtain rfl : w2 = (.int i2) := Option.some.inj ei2
  obtain ⟨i3, ei3⟩ := is_v g8
  obtain rfl : w3 = (.int i3) := Option.some.inj ei3
  have hCS := Cond.before_iff.mp (hsets _ (List.mem_of_getElem? (i := 1) rfl))
  obtain ⟨zC, evC⟩ := is_v hCS
  have StC := Sta.start evC (Or.inl (hsets _ (List.mem_of_getElem? (i := 0) rfl)))
  have hzC : ¬ (zC = (0 : Int32)) := fun e => by
    have q := not_v (Cond.before_iff.mp (hsets _ (List.mem_of_getElem? (i := 2) rfl)))
    have r := eq_i evC (Term.int_eval (0)) (by rw [e])
    exact absurd (q.symm.trans r) (by decide)
  have CHs : CHv s consts_1 s.vm s.heap := CHv.start (own_EW hw) (fun p hp => hcalls.1 p hp) (hsets _ (List.mem_of_getElem? (i := 2) rfl)) (own_w hw 0 rfl) (own_w hw 26 rfl)
  obtain ⟨n, o, h1, h2, h3, _, L, rfl, ⟨rfl, N, -⟩, -, hq⟩ := rm0 l s _ hw tables_1 i0 i1 i2 i3 zC s.heap s.heap.size (Nat.le_refl _) StC hzC p e ha hc hk s m _ below hf ((Spec.applies_iff_loose hf).mp happ).1 ⟨rfl, State.Warmed39.refl s, rfl, CHs⟩ trivial
  refine ⟨n, _, h1, h2, h3, hpost _ _ _ _ _ _ ⟨Cond.after_iff.mpr rfl, Cond.after_iff.mpr (eq_i res_at (Term.int_eval (1)) rfl), trivial⟩ ⟨hq.1, hq.2.1, hq.2.2.1, (hq.2.2.2.sift fun y hy => Or.inr (N y hy)).mono (by decide) (by decide)⟩⟩
theorem main_1_1 : Claimed_1_1 := comes_1 fun _ _ _ _ _ _ h hF => ⟨h.1, hF⟩
theorem main_1_2 : Claimed_1_2 := comes_1 fun _ _ _ _ _ _ h hF => ⟨h.2.1, hF⟩
end Jvm.Pilot.@@N@@
namespace Jvm.Pilot.@@N@@
open Jvm Jvm.ClassFile Sem Op Lib Jvm.Free Jvm.Stand Jvm.Pilot.@@N@@.Jvm.D
/-! MADE BY PROGRAM (witnessworld.py) out of the Statement's table words and the real class files: 20 classes; the members and pool entries that the words name. The judged class is class 1, her method 1. -/
namespace start1
open Jvm.ClassFile
def u (s : String) : CpInfo := .utf8 (stringToUtf16 s)
/-- a pool by its gaps: so many unusable entries, then the entry; so many at the end -/
def gap : Nat → List CpInfo → List CpInfo
  | 0, r => r
  | n + 1, r => .unusable :: gap n r
def poolList (es : List (Nat × CpInfo)) (last : Nat) : List CpInfo := es.foldr (fun e r => gap e.1 (e.2 :: r)) (gap last [])
def pool (es : List (Nat × CpInfo)) (last : Nat) : Array CpInfo := ⟨poolList es last⟩
def fileOf (pool : Array CpInfo) (this : Nat) (attrs : Array Attribute := #[]) (ms : Array MethodInfo := #[]) (fl : Nat := 33) (sup : Nat := 0) (ifs : Array Nat := #[]) (fds : Array FieldInfo := #[]) : ClassFile where
  minorVersion := 0
  majorVersion := 65
  constantPool := pool
  accessFlags := fl
  thisClass := this
  superClass := sup
  interfaces := ifs
  fields := fds
  methods := ms
  attributes := attrs
def plain (name : String) (sup : Option ClassId) : Class where
  name := name
  kind := .ordinary
  loader := none
  accessFlags := 33
  super := sup
  interfaces := #[]
  cf := none
  fields := #[]
  methods := #[]
  instanceTypes := #[]
  staticTypes := #[]
  resolved := #[]
  callSites := []
  init := .initialized
  statics := none
  mirror := none

def pool0 : Array CpInfo := pool [(5, u "<init>"), (0, u "()V"), (1, .class_ 10), (1, u "java/lang/Object"), (85, u "clone"), (0, u "()Ljava/lang/Object;")] 26

def k0c0 : Code := { maxStack := 0, maxLocals := 1, code := object_method_1_code, exceptionTable := #[], attributes := #[] }
def k0m0 : Method := { name := "<init>", desc := "()V", sig := { parameters := [], returnType := none }, accessFlags := 1, code := some k0c0 }
def k0m1 : Method := { name := "clone", desc := "()Ljava/lang/Object;", sig := { parameters := [], returnType := some (.object "java/lang/Object") }, accessFlags := 260, code := none }
/-- java/lang/Object -/
def k0 : Class := { plain "java/lang/Object" none with
  accessFlags := 33
  interfaces := #[]
  cf := some (fileOf pool0 8 #[] #[{ accessFlags := 1, nameIndex := 5, descriptorIndex := 6, attributes := #[] }, { accessFlags := 260, nameIndex := 96, descriptorIndex := 97, attributes := #[] }] 33 0 #[] #[])
  fields := #[]
  methods := #[k0m0, k0m1]
  instanceTypes := #[]
  staticTypes := #[]
  resolved := Array.replicate 124 none
  statics := none }

def pool1 : Array CpInfo := pool [(2, .class_ 4), (1, u "java/lang/Object"), (0, u "<init>"), (0, u "()V"), (0, .string 8), (0, u "Binary"), (0, .class_ 10), (0, u "java/lang/String"), (0, .methodref 9 12), (0, .nameAndType 5 13), (0, u "([C)V"), (0, .string 15), (0, u "String"), (0, .string 17), (0, u "Number"), (0, .methodref 9 19), (0, .nameAndType 20 21), (0, u "valueOf"), (0, u "(C)Ljava/lang/String;"), (0, .class_ 23), (0, u "com/example/sluice/sluice/MessageAttribute"), (0, .methodref 22 25), (0, .nameAndType 5 26), (0, u "(Ljava/lang/String;Ljava/lang/String;[B)V"), (0, .methodref 22 28), (0, .nameAndType 29 30), (0, u "binaryValue"), (0, u "()[B"), (0, .class_ 32), (0, u "com/example/sluice/sluice/MessageAttributeBinaryValuePinLaw"), (2, u "law"), (0, u "(IIII)Z")] 5

def k1m0 : Method := { name := "<init>", desc := "()V", sig := { parameters := [], returnType := none }, accessFlags := 1, code := none }
def k1c1 : Code := { maxStack := 6, maxLocals := 17, code := code, exceptionTable := #[], attributes := #[] }
def k1m1 : Method := { name := "law", desc := "(IIII)Z", sig := { parameters := [.int, .int, .int, .int], returnType := some .boolean }, accessFlags := 9, code := some k1c1 }
/-- com/example/sluice/sluice/MessageAttributeBinaryValuePinLaw -/
def k1 : Class := { plain "com/example/sluice/sluice/MessageAttributeBinaryValuePinLaw" (some 0) with
  accessFlags := 49
  interfaces := #[]
  cf := some (fileOf pool1 31 #[] #[{ accessFlags := 1, nameIndex := 5, descriptorIndex := 6, attributes := #[] }, { accessFlags := 9, nameIndex := 35, descriptorIndex := 36, attributes := #[] }] 49 2 #[] #[])
  fields := #[]
  methods := #[k1m0, k1m1]
  instanceTypes := #[]
  staticTypes := #[]
  resolved := Array.replicate 42 none
  statics := none }

def pool2 : Array CpInfo := pool [(1, .methodref 2 3), (0, .class_ 4), (0, .nameAndType 5 6), (0, u "java/lang/Object"), (0, u "<init>"), (0, u "()V"), (0, .fieldref 8 9), (0, .class_ 10), (0, .nameAndType 11 12), (0, u "com/example/sluice/sluice/MessageAttribute"), (0, u "dataType"), (0, u "Ljava/lang/String;"), (0, .methodref 8 14), (0, .nameAndType 15 16), (0, u "isBinary"), (0, u "(Ljava/lang/String;)Z"), (0, .fieldref 8 18), (0, .nameAndType 19 12), (0, u "stringValue"), (0, .methodref 21 22), (0, .class_ 23), (0, .nameAndType 24 25), (0, u "[B"), (0, u "clone"), (0, u "()Ljava/lang/Object;"), (0, .fieldref 8 27), (0, .nameAndType 28 23), (0, u "binaryValue"), (6, u "BASE_TYPES"), (0, u "Ljava/util/List;"), (9, u "(Ljava/lang/Object;)Z"), (3, .class_ 52), (1, u "java/lang/String"), (42, .methodref 50 96), (0, .nameAndType 97 46), (0, u "equals"), (64, u "()[B"), (5, u "(Ljava/lang/String;Ljava/lang/String;[B)V"), (20, .string 190), (0, u "Binary"), (0, .string 192), (0, u "Binary."), (0, .methodref 50 194), (0, .nameAndType 195 16), (0, u "startsWith"), (2, u "RESERVED_NAME_PREFIXES"), (11, u "NAME"), (0, u "Ljava/util/regex/Pattern;"), (46, u "BINARY"), (1, u "NUMBER"), (0, u "MAX_DATA_TYPE_LENGTH"), (0, u "I"), (1, u "MAX_SIGNIFICANT_DIGITS"), (1, u "SMALLEST_POWER"), (1, u "LARGEST_POWER")] 39

def k2c0 : Code := { maxStack := 2, maxLocals := 4, code := prog_6_method_1_code, exceptionTable := #[], attributes := #[] }
def k2m0 : Method := { name := "<init>", desc := "(Ljava/lang/String;Ljava/lang/String;[B)V", sig := { parameters := [(.object "java/lang/String"), (.object "java/lang/String"), (.array .byte)], returnType := none }, accessFlags := 1, code := some k2c0 }
def k2c1 : Code := { maxStack := 1, maxLocals := 1, code := prog_6_method_4_code, exceptionTable := #[], attributes := #[] }
def k2m1 : Method := { name := "binaryValue", desc := "()[B", sig := { parameters := [], returnType := some (.array .byte) }, accessFlags := 1, code := some k2c1 }
def k2c2 : Code := { maxStack := 2, maxLocals := 1, code := prog_6_method_12_code, exceptionTable := #[], attributes := #[] }
def k2m2 : Method := { name := "isBinary", desc := "(Ljava/lang/String;)Z", sig := { parameters := [(.object "java/lang/String")], returnType := some .boolean }, accessFlags := 8, code := some k2c2 }
/-- com/example/sluice/sluice/MessageAttribute -/
def k2 : Class := { plain "com/example/sluice/sluice/MessageAttribute" (some 0) with
  accessFlags := 49
  interfaces := #[]
  cf := some (fileOf pool2 8 #[] #[{ accessFlags := 1, nameIndex := 5, descriptorIndex := 168, attributes := #[] }, { accessFlags := 1, nameIndex := 28, descriptorIndex := 162, attributes := #[] }, { accessFlags := 8, nameIndex := 15, descriptorIndex := 16, attributes := #[] }] 49 2 #[] #[{ accessFlags := 26, nameIndex := 35, descriptorIndex := 36, attributes := #[] }, { accessFlags := 26, nameIndex := 258, descriptorIndex := 12, attributes := #[] }, { accessFlags := 26, nameIndex := 260, descriptorIndex := 12, attributes := #[] }, { accessFlags := 26, nameIndex := 210, descriptorIndex := 211, attributes := #[] }, { accessFlags := 26, nameIndex := 198, descriptorIndex := 36, attributes := #[] }, { accessFlags := 26, nameIndex := 261, descriptorIndex := 262, attributes := #[] }, { accessFlags := 26, nameIndex := 264, descriptorIndex := 262, attributes := #[] }, { accessFlags := 26, nameIndex := 266, descriptorIndex := 262, attributes := #[] }, { accessFlags := 26, nameIndex := 268, descriptorIndex := 262, attributes := #[] }, { accessFlags := 18, nameIndex := 11, descriptorIndex := 12, attributes := #[] }, { accessFlags := 18, nameIndex := 19, descriptorIndex := 12, attributes := #[] }, { accessFlags := 18, nameIndex := 28, descriptorIndex := 23, attributes := #[] }])
  fields := #[{ name := "BASE_TYPES", type := (.object "java/util/List"), accessFlags := 26, slot := 0, constantValue := 0 }, { name := "BINARY", type := (.object "java/lang/String"), accessFlags := 26, slot := 1, constantValue := 0 }, { name := "NUMBER", type := (.object "java/lang/String"), accessFlags := 26, slot := 2, constantValue := 0 }, { name := "NAME", type := (.object "java/util/regex/Pattern"), accessFlags := 26, slot := 3, constantValue := 0 }, { name := "RESERVED_NAME_PREFIXES", type := (.object "java/util/List"), accessFlags := 26, slot := 4, constantValue := 0 }, { name := "MAX_DATA_TYPE_LENGTH", type := .int, accessFlags := 26, slot := 5, constantValue := 0 }, { name := "MAX_SIGNIFICANT_DIGITS", type := .int, accessFlags := 26, slot := 6, constantValue := 0 }, { name := "SMALLEST_POWER", type := .int, accessFlags := 26, slot := 7, constantValue := 0 }, { name := "LARGEST_POWER", type := .int, accessFlags := 26, slot := 8, constantValue := 0 }, { name := "dataType", type := (.object "java/lang/String"), accessFlags := 18, slot := 0, constantValue := 0 }, { name := "stringValue", type := (.object "java/lang/String"), accessFlags := 18, slot := 1, constantValue := 0 }, { name := "binaryValue", type := (.array .byte), accessFlags := 18, slot := 2, constantValue := 0 }]
  methods := #[k2m0, k2m1, k2m2]
  instanceTypes := #[(.object "java/lang/String"), (.object "java/lang/String"), (.array .byte)]
  staticTypes := #[(.object "java/util/List"), (.object "java/lang/String"), (.object "java/lang/String"), (.object "java/util/regex/Pattern"), (.object "java/util/List"), .int, .int, .int, .int]
  resolved := Array.replicate 308 none
  statics := none }

def pool3 : Array CpInfo := pool [(1, .class_ 2), (0, u "java/io/Serializable"), (0, .class_ 4), (0, u "java/lang/Object")] 2

/-- java/io/Serializable -/
def k3 : Class := { plain "java/io/Serializable" (some 0) with
  accessFlags := 1537
  interfaces := #[]
  cf := some (fileOf pool3 1 #[] #[] 1537 3 #[] #[])
  fields := #[]
  methods := #[]
  instanceTypes := #[]
  staticTypes := #[]
  resolved := Array.replicate 7 none
  statics := none }

def pool4 : Array CpInfo := pool [(1, .class_ 2), (0, u "java/lang/Comparable"), (0, .class_ 4), (0, u "java/lang/Object")] 7

/-- java/lang/Comparable -/
def k4 : Class := { plain "java/lang/Comparable" (some 0) with
  accessFlags := 1537
  interfaces := #[]
  cf := some (fileOf pool4 1 #[] #[] 1537 3 #[] #[])
  fields := #[]
  methods := #[]
  instanceTypes := #[]
  staticTypes := #[]
  resolved := Array.replicate 12 none
  statics := none }

def pool5 : Array CpInfo := pool [(2, .class_ 4), (1, u "java/lang/CharSequence"), (42, .class_ 48), (0, u "java/lang/CharSequence$1CodePointIterator"), (10, .class_ 60), (0, u "java/lang/CharSequence$1CharIterator"), (5, .class_ 67), (0, u "java/lang/Object")] 63

/-- java/lang/CharSequence -/
def k5 : Class := { plain "java/lang/CharSequence" (some 0) with
  accessFlags := 1537
  interfaces := #[]
  cf := some (fileOf pool5 2 #[.nestMembers #[47, 59]] #[] 1537 66 #[] #[])
  fields := #[]
  methods := #[]
  instanceTypes := #[]
  staticTypes := #[]
  resolved := Array.replicate 131 none
  statics := none }

def pool6 : Array CpInfo := pool [(1, .class_ 2), (0, u "java/lang/constant/Constable"), (0, .class_ 4), (0, u "java/lang/Object")] 6

/-- java/lang/constant/Constable -/
def k6 : Class := { plain "java/lang/constant/Constable" (some 0) with
  accessFlags := 1537
  interfaces := #[]
  cf := some (fileOf pool6 1 #[] #[] 1537 3 #[] #[])
  fields := #[]
  methods := #[]
  instanceTypes := #[]
  staticTypes := #[]
  resolved := Array.replicate 11 none
  statics := none }

def pool7 : Array CpInfo := pool [(1, .class_ 2), (0, u "java/lang/constant/ConstantDesc"), (0, .class_ 4), (0, u "java/lang/Object")] 32

/-- java/lang/constant/ConstantDesc -/
def k7 : Class := { plain "java/lang/constant/ConstantDesc" (some 0) with
  accessFlags := 1537
  interfaces := #[]
  cf := some (fileOf pool7 1 #[] #[] 1537 3 #[] #[])
  fields := #[]
  methods := #[]
  instanceTypes := #[]
  staticTypes := #[]
  resolved := Array.replicate 37 none
  statics := none }

def pool8 : Array CpInfo := pool [(1, .methodref 2 3), (0, .class_ 4), (0, .nameAndType 5 6), (0, u "java/lang/Object"), (0, u "<init>"), (0, u "()V"), (2, .fieldref 10 11), (0, .class_ 12), (0, .nameAndType 13 14), (0, u "java/lang/String"), (0, u "value"), (0, u "[B"), (0, .fieldref 10 16), (0, .nameAndType 17 18), (0, u "coder"), (0, u "B"), (2, u "hash"), (0, u "I"), (2, u "hashIsZero"), (0, u "Z"), (0, .methodref 10 28), (0, .nameAndType 5 29), (0, u "([CIILjava/lang/Void;)V"), (8, .fieldref 10 39), (0, .nameAndType 40 26), (0, u "COMPACT_STRINGS"), (1, .class_ 44), (1, u "java/lang/StringUTF16"), (0, u "compress"), (1, .methodref 42 48), (0, .nameAndType 49 50), (0, u "coderFromArrayLen"), (0, u "([BI)B"), (2, u "toBytes"), (53, .class_ 109), (1, u "java/lang/StringLatin1"), (67, .methodref 42 178), (0, .nameAndType 45 179), (0, u "([CII)[B"), (29, .methodref 10 210), (0, .nameAndType 5 211), (0, u "([BB)V"), (122, u "()I"), (0, .methodref 10 336), (0, .nameAndType 17 337), (0, u "()B"), (31, u "(C)Z"), (6, u "([BI[BII)I"), (128, .methodref 10 506), (0, .nameAndType 507 334), (0, u "length"), (33, .methodref 107 542), (0, .nameAndType 543 544), (0, u "equals"), (0, u "([B[B)Z"), (14, .class_ 561), (1, u "jdk/internal/util/ArraysSupport"), (0, u "mismatch"), (10, u "(Ljava/lang/Object;)Z"), (1, .class_ 576), (0, u "java/lang/CharSequence"), (22, u "CASE_INSENSITIVE_ORDER"), (0, u "Ljava/util/Comparator;"), (6, .methodref 559 608), (0, .nameAndType 562 376), (15, .methodref 10 625), (0, .nameAndType 626 627), (0, u "startsWith"), (0, u "(Ljava/lang/String;I)Z"), (154, u "valueOf"), (0, u "(C)Ljava/lang/String;"), (226, u "([C)V"), (4, .methodref 107 1016), (0, .nameAndType 1017 369), (0, u "canEncode"), (0, .methodref 107 1019), (0, .nameAndType 53 1020), (0, u "(C)[B"), (80, u "serialPersistentFields"), (0, u "[Ljava/io/ObjectStreamField;"), (0, .class_ 1104), (0, u "java/lang/String$CaseInsensitiveComparator"), (1, .class_ 1107), (0, u "java/io/Serializable"), (0, .class_ 1109), (0, u "java/lang/Comparable"), (0, .class_ 1111), (0, u "java/lang/constant/Constable"), (0, .class_ 1113), (0, u "java/lang/constant/ConstantDesc"), (2, u "serialVersionUID"), (0, u "J"), (3, u "REPL"), (0, u "C"), (2, u "LATIN1"), (1, u "UTF16"), (129, u "(Ljava/lang/String;)Z")] 193

def k8m0 : Method := { name := "<init>", desc := "()V", sig := { parameters := [], returnType := none }, accessFlags := 1, code := none }
def k8c1 : Code := { maxStack := 5, maxLocals := 2, code := jdk_42_method_3_code, exceptionTable := #[], attributes := #[] }
def k8m1 : Method := { name := "<init>", desc := "([C)V", sig := { parameters := [(.array .char)], returnType := none }, accessFlags := 1, code := some k8c1 }
def k8c2 : Code := { maxStack := 2, maxLocals := 1, code := jdk_42_method_54_code, exceptionTable := #[], attributes := #[] }
def k8m2 : Method := { name := "length", desc := "()I", sig := { parameters := [], returnType := some .int }, accessFlags := 1, code := some k8c2 }
def k8c3 : Code := { maxStack := 2, maxLocals := 3, code := jdk_42_method_66_code, exceptionTable := #[], attributes := #[] }
def k8m3 : Method := { name := "equals", desc := "(Ljava/lang/Object;)Z", sig := { parameters := [(.object "java/lang/Object")], returnType := some .boolean }, accessFlags := 1, code := some k8c3 }
def k8c4 : Code := { maxStack := 5, maxLocals := 8, code := jdk_42_method_75_code, exceptionTable := #[], attributes := #[] }
def k8m4 : Method := { name := "startsWith", desc := "(Ljava/lang/String;I)Z", sig := { parameters := [(.object "java/lang/String"), .int], returnType := some .boolean }, accessFlags := 1, code := some k8c4 }
def k8c5 : Code := { maxStack := 3, maxLocals := 2, code := jdk_42_method_76_code, exceptionTable := #[], attributes := #[] }
def k8m5 : Method := { name := "startsWith", desc := "(Ljava/lang/String;)Z", sig := { parameters := [(.object "java/lang/String")], returnType := some .boolean }, accessFlags := 1, code := some k8c5 }
def k8c6 : Code := { maxStack := 4, maxLocals := 1, code := jdk_42_method_139_code, exceptionTable := #[], attributes := #[] }
def k8m6 : Method := { name := "valueOf", desc := "(C)Ljava/lang/String;", sig := { parameters := [.char], returnType := some (.object "java/lang/String") }, accessFlags := 9, code := some k8c6 }
def k8c7 : Code := { maxStack := 4, maxLocals := 6, code := jdk_42_method_149_code, exceptionTable := #[], attributes := #[] }
def k8m7 : Method := { name := "<init>", desc := "([CIILjava/lang/Void;)V", sig := { parameters := [(.array .char), .int, .int, (.object "java/lang/Void")], returnType := none }, accessFlags := 2, code := some k8c7 }
def k8c8 : Code := { maxStack := 2, maxLocals := 3, code := jdk_42_method_151_code, exceptionTable := #[], attributes := #[] }
def k8m8 : Method := { name := "<init>", desc := "([BB)V", sig := { parameters := [(.array .byte), .byte], returnType := none }, accessFlags := 0, code := some k8c8 }
def k8c9 : Code := { maxStack := 1, maxLocals := 1, code := jdk_42_method_152_code, exceptionTable := #[], attributes := #[] }
def k8m9 : Method := { name := "coder", desc := "()B", sig := { parameters := [], returnType := some .byte }, accessFlags := 0, code := some k8c9 }
/-- java/lang/String -/
def k8 : Class := { plain "java/lang/String" (some 0) with
  accessFlags := 49
  interfaces := #[3, 4, 5, 6, 7]
  cf := some (fileOf pool8 10 #[.nestMembers #[1103]] #[{ accessFlags := 1, nameIndex := 5, descriptorIndex := 6, attributes := #[] }, { accessFlags := 1, nameIndex := 5, descriptorIndex := 1010, attributes := #[] }, { accessFlags := 1, nameIndex := 507, descriptorIndex := 334, attributes := #[] }, { accessFlags := 1, nameIndex := 543, descriptorIndex := 573, attributes := #[] }, { accessFlags := 1, nameIndex := 626, descriptorIndex := 627, attributes := #[] }, { accessFlags := 1, nameIndex := 626, descriptorIndex := 1257, attributes := #[] }, { accessFlags := 9, nameIndex := 782, descriptorIndex := 783, attributes := #[] }, { accessFlags := 2, nameIndex := 5, descriptorIndex := 29, attributes := #[] }, { accessFlags := 0, nameIndex := 5, descriptorIndex := 211, attributes := #[] }, { accessFlags := 0, nameIndex := 17, descriptorIndex := 337, attributes := #[] }] 49 2 #[1106, 1108, 575, 1110, 1112] #[{ accessFlags := 18, nameIndex := 13, descriptorIndex := 14, attributes := #[] }, { accessFlags := 18, nameIndex := 17, descriptorIndex := 18, attributes := #[] }, { accessFlags := 2, nameIndex := 21, descriptorIndex := 22, attributes := #[] }, { accessFlags := 2, nameIndex := 25, descriptorIndex := 26, attributes := #[] }, { accessFlags := 26, nameIndex := 1116, descriptorIndex := 1117, attributes := #[] }, { accessFlags := 24, nameIndex := 40, descriptorIndex := 26, attributes := #[] }, { accessFlags := 26, nameIndex := 1101, descriptorIndex := 1102, attributes := #[] }, { accessFlags := 26, nameIndex := 1121, descriptorIndex := 1122, attributes := #[] }, { accessFlags := 25, nameIndex := 599, descriptorIndex := 600, attributes := #[] }, { accessFlags := 24, nameIndex := 1125, descriptorIndex := 18, attributes := #[] }, { accessFlags := 24, nameIndex := 1127, descriptorIndex := 18, attributes := #[] }])
  fields := #[{ name := "value", type := (.array .byte), accessFlags := 18, slot := 0, constantValue := 0 }, { name := "coder", type := .byte, accessFlags := 18, slot := 1, constantValue := 0 }, { name := "hash", type := .int, accessFlags := 2, slot := 2, constantValue := 0 }, { name := "hashIsZero", type := .boolean, accessFlags := 2, slot := 3, constantValue := 0 }, { name := "serialVersionUID", type := .long, accessFlags := 26, slot := 0, constantValue := 0 }, { name := "COMPACT_STRINGS", type := .boolean, accessFlags := 24, slot := 1, constantValue := 0 }, { name := "serialPersistentFields", type := (.array (.object "java/io/ObjectStreamField")), accessFlags := 26, slot := 2, constantValue := 0 }, { name := "REPL", type := .char, accessFlags := 26, slot := 3, constantValue := 0 }, { name := "CASE_INSENSITIVE_ORDER", type := (.object "java/util/Comparator"), accessFlags := 25, slot := 4, constantValue := 0 }, { name := "LATIN1", type := .byte, accessFlags := 24, slot := 5, constantValue := 0 }, { name := "UTF16", type := .byte, accessFlags := 24, slot := 6, constantValue := 0 }]
  methods := #[k8m0, k8m1, k8m2, k8m3, k8m4, k8m5, k8m6, k8m7, k8m8, k8m9]
  instanceTypes := #[(.array .byte), .byte, .int, .boolean]
  staticTypes := #[.long, .boolean, (.array (.object "java/io/ObjectStreamField")), .char, (.object "java/util/Comparator"), .byte, .byte]
  resolved := Array.replicate 1451 none
  statics := some 0 }

def pool9 : Array CpInfo := pool [(4, .class_ 6), (1, u "java/lang/Object"), (0, u "<init>"), (0, u "()V"), (5, .class_ 16), (1, u "java/lang/StringLatin1"), (73, u "canEncode"), (14, u "(C)Z"), (15, u "$assertionsDisabled"), (0, u "Z"), (98, .class_ 223), (1, u "java/lang/StringLatin1$LinesSpliterator"), (57, u "equals"), (0, u "([B[B)Z"), (97, u "toBytes"), (1, u "(C)[B"), (7, .class_ 391), (0, u "java/lang/StringLatin1$CharsSpliterator")] 3

def k9m0 : Method := { name := "<init>", desc := "()V", sig := { parameters := [], returnType := none }, accessFlags := 0, code := none }
def k9c1 : Code := { maxStack := 2, maxLocals := 1, code := jdk_43_method_3_code, exceptionTable := #[], attributes := #[] }
def k9m1 : Method := { name := "canEncode", desc := "(C)Z", sig := { parameters := [.char], returnType := some .boolean }, accessFlags := 9, code := some k9c1 }
def k9c2 : Code := { maxStack := 3, maxLocals := 3, code := jdk_43_method_13_code, exceptionTable := #[], attributes := #[] }
def k9m2 : Method := { name := "equals", desc := "([B[B)Z", sig := { parameters := [(.array .byte), (.array .byte)], returnType := some .boolean }, accessFlags := 9, code := some k9c2 }
def k9c3 : Code := { maxStack := 4, maxLocals := 1, code := jdk_43_method_46_code, exceptionTable := #[], attributes := #[] }
def k9m3 : Method := { name := "toBytes", desc := "(C)[B", sig := { parameters := [.char], returnType := some (.array .byte) }, accessFlags := 9, code := some k9c3 }
/-- java/lang/StringLatin1 -/
def k9 : Class := { plain "java/lang/StringLatin1" (some 0) with
  accessFlags := 48
  interfaces := #[]
  cf := some (fileOf pool9 14 #[.nestMembers #[390, 221]] #[{ accessFlags := 0, nameIndex := 7, descriptorIndex := 8, attributes := #[] }, { accessFlags := 9, nameIndex := 90, descriptorIndex := 105, attributes := #[] }, { accessFlags := 9, nameIndex := 281, descriptorIndex := 282, attributes := #[] }, { accessFlags := 9, nameIndex := 380, descriptorIndex := 382, attributes := #[] }] 48 4 #[] #[{ accessFlags := 4120, nameIndex := 121, descriptorIndex := 122, attributes := #[] }])
  fields := #[{ name := "$assertionsDisabled", type := .boolean, accessFlags := 4120, slot := 0, constantValue := 0 }]
  methods := #[k9m0, k9m1, k9m2, k9m3]
  instanceTypes := #[]
  staticTypes := #[.boolean]
  resolved := Array.replicate 395 none
  statics := none }

def pool10 : Array CpInfo := pool [(6, .class_ 8), (1, u "java/lang/Object"), (0, u "<init>"), (0, u "()V"), (1, .class_ 14), (1, u "java/lang/StringUTF16"), (31, u "$assertionsDisabled"), (0, u "Z"), (13, u "HI_BYTE_SHIFT"), (0, u "I"), (2, u "LO_BYTE_SHIFT"), (49, .methodref 12 116), (0, .nameAndType 117 118), (0, u "compress"), (0, u "([CI[BII)I"), (3, u "([CII)[B"), (138, u "coderFromArrayLen"), (0, u "([BI)B"), (106, .class_ 371), (1, u "java/lang/StringUTF16$LinesSpliterator"), (58, u "MAX_LENGTH"), (196, .class_ 628), (0, u "java/lang/StringUTF16$CodePointsSpliterator"), (0, .class_ 630), (0, u "java/lang/StringUTF16$CharsSpliterator")] 4

def k10m0 : Method := { name := "<init>", desc := "()V", sig := { parameters := [], returnType := none }, accessFlags := 0, code := none }
def k10c1 : Code := { maxStack := 2, maxLocals := 2, code := jdk_52_method_15_code, exceptionTable := #[], attributes := #[] }
def k10m1 : Method := { name := "coderFromArrayLen", desc := "([BI)B", sig := { parameters := [(.array .byte), .int], returnType := some .byte }, accessFlags := 8, code := some k10c1 }
def k10c2 : Code := { maxStack := 5, maxLocals := 6, code := jdk_52_method_16_code, exceptionTable := #[], attributes := #[] }
def k10m2 : Method := { name := "compress", desc := "([CII)[B", sig := { parameters := [(.array .char), .int, .int], returnType := some (.array .byte) }, accessFlags := 9, code := some k10c2 }
def k10c3 : Code := { maxStack := 3, maxLocals := 7, code := jdk_52_method_21_code, exceptionTable := #[], attributes := #[] }
def k10m3 : Method := { name := "compress", desc := "([CI[BII)I", sig := { parameters := [(.array .char), .int, (.array .byte), .int, .int], returnType := some .int }, accessFlags := 9, code := some k10c3 }
/-- java/lang/StringUTF16 -/
def k10 : Class := { plain "java/lang/StringUTF16" (some 0) with
  accessFlags := 48
  interfaces := #[]
  cf := some (fileOf pool10 12 #[.nestMembers #[627, 629, 369]] #[{ accessFlags := 0, nameIndex := 9, descriptorIndex := 10, attributes := #[] }, { accessFlags := 8, nameIndex := 261, descriptorIndex := 262, attributes := #[] }, { accessFlags := 9, nameIndex := 117, descriptorIndex := 122, attributes := #[] }, { accessFlags := 9, nameIndex := 117, descriptorIndex := 118, attributes := #[] }] 48 6 #[] #[{ accessFlags := 26, nameIndex := 61, descriptorIndex := 62, attributes := #[] }, { accessFlags := 26, nameIndex := 65, descriptorIndex := 62, attributes := #[] }, { accessFlags := 24, nameIndex := 430, descriptorIndex := 62, attributes := #[] }, { accessFlags := 4120, nameIndex := 46, descriptorIndex := 47, attributes := #[] }])
  fields := #[{ name := "HI_BYTE_SHIFT", type := .int, accessFlags := 26, slot := 0, constantValue := 0 }, { name := "LO_BYTE_SHIFT", type := .int, accessFlags := 26, slot := 1, constantValue := 0 }, { name := "MAX_LENGTH", type := .int, accessFlags := 24, slot := 2, constantValue := 0 }, { name := "$assertionsDisabled", type := .boolean, accessFlags := 4120, slot := 3, constantValue := 0 }]
  methods := #[k10m0, k10m1, k10m2, k10m3]
  instanceTypes := #[]
  staticTypes := #[.int, .int, .int, .boolean]
  resolved := Array.replicate 635 none
  statics := none }

def pool11 : Array CpInfo := pool [(9, u "<init>"), (6, .class_ 18), (1, u "java/lang/Object"), (0, u "()V"), (1, .class_ 23), (1, u "jdk/internal/util/ArraysSupport"), (0, u "LOG2_ARRAY_LONG_INDEX_SCALE"), (0, u "I"), (2, u "U"), (0, u "Ljdk/internal/misc/Unsafe;"), (8, u "BIG_ENDIAN"), (0, u "Z"), (8, u "LOG2_BYTE_BIT_SIZE"), (4, u "LOG2_ARRAY_INT_INDEX_SCALE"), (54, u "JLA"), (0, u "Ljdk/internal/access/JavaLangAccess;"), (11, u "LOG2_ARRAY_BOOLEAN_INDEX_SCALE"), (9, u "LOG2_ARRAY_BYTE_INDEX_SCALE"), (5, u "LOG2_ARRAY_CHAR_INDEX_SCALE"), (5, u "LOG2_ARRAY_SHORT_INDEX_SCALE"), (5, u "mismatch"), (12, u "LOG2_ARRAY_FLOAT_INDEX_SCALE"), (24, u "LOG2_ARRAY_DOUBLE_INDEX_SCALE"), (89, u "T_BOOLEAN"), (2, u "T_CHAR"), (1, u "T_FLOAT"), (1, u "T_DOUBLE"), (1, u "T_BYTE"), (1, u "T_SHORT"), (1, u "T_INT"), (1, u "T_LONG"), (1, u "SOFT_MAX_ARRAY_LENGTH"), (42, u "([BI[BII)I")] 40

def k11m0 : Method := { name := "<init>", desc := "()V", sig := { parameters := [], returnType := none }, accessFlags := 2, code := none }
def k11c1 : Code := { maxStack := 8, maxLocals := 8, code := jdk_48_method_14_code, exceptionTable := #[], attributes := #[] }
def k11m1 : Method := { name := "mismatch", desc := "([BI[BII)I", sig := { parameters := [(.array .byte), .int, (.array .byte), .int, .int], returnType := some .int }, accessFlags := 9, code := some k11c1 }
/-- jdk/internal/util/ArraysSupport -/
def k11 : Class := { plain "jdk/internal/util/ArraysSupport" (some 0) with
  accessFlags := 33
  interfaces := #[]
  cf := some (fileOf pool11 21 #[] #[{ accessFlags := 2, nameIndex := 9, descriptorIndex := 19, attributes := #[] }, { accessFlags := 9, nameIndex := 149, descriptorIndex := 337, attributes := #[] }] 33 16 #[] #[{ accessFlags := 24, nameIndex := 28, descriptorIndex := 29, attributes := #[] }, { accessFlags := 26, nameIndex := 38, descriptorIndex := 39, attributes := #[] }, { accessFlags := 25, nameIndex := 121, descriptorIndex := 25, attributes := #[] }, { accessFlags := 25, nameIndex := 131, descriptorIndex := 25, attributes := #[] }, { accessFlags := 25, nameIndex := 137, descriptorIndex := 25, attributes := #[] }, { accessFlags := 25, nameIndex := 143, descriptorIndex := 25, attributes := #[] }, { accessFlags := 25, nameIndex := 53, descriptorIndex := 25, attributes := #[] }, { accessFlags := 25, nameIndex := 24, descriptorIndex := 25, attributes := #[] }, { accessFlags := 25, nameIndex := 162, descriptorIndex := 25, attributes := #[] }, { accessFlags := 25, nameIndex := 187, descriptorIndex := 25, attributes := #[] }, { accessFlags := 26, nameIndex := 48, descriptorIndex := 25, attributes := #[] }, { accessFlags := 25, nameIndex := 277, descriptorIndex := 25, attributes := #[] }, { accessFlags := 25, nameIndex := 280, descriptorIndex := 25, attributes := #[] }, { accessFlags := 25, nameIndex := 282, descriptorIndex := 25, attributes := #[] }, { accessFlags := 25, nameIndex := 284, descriptorIndex := 25, attributes := #[] }, { accessFlags := 25, nameIndex := 286, descriptorIndex := 25, attributes := #[] }, { accessFlags := 25, nameIndex := 288, descriptorIndex := 25, attributes := #[] }, { accessFlags := 25, nameIndex := 290, descriptorIndex := 25, attributes := #[] }, { accessFlags := 25, nameIndex := 292, descriptorIndex := 25, attributes := #[] }, { accessFlags := 26, nameIndex := 108, descriptorIndex := 109, attributes := #[] }, { accessFlags := 25, nameIndex := 294, descriptorIndex := 25, attributes := #[] }])
  fields := #[{ name := "U", type := (.object "jdk/internal/misc/Unsafe"), accessFlags := 24, slot := 0, constantValue := 0 }, { name := "BIG_ENDIAN", type := .boolean, accessFlags := 26, slot := 1, constantValue := 0 }, { name := "LOG2_ARRAY_BOOLEAN_INDEX_SCALE", type := .int, accessFlags := 25, slot := 2, constantValue := 0 }, { name := "LOG2_ARRAY_BYTE_INDEX_SCALE", type := .int, accessFlags := 25, slot := 3, constantValue := 0 }, { name := "LOG2_ARRAY_CHAR_INDEX_SCALE", type := .int, accessFlags := 25, slot := 4, constantValue := 0 }, { name := "LOG2_ARRAY_SHORT_INDEX_SCALE", type := .int, accessFlags := 25, slot := 5, constantValue := 0 }, { name := "LOG2_ARRAY_INT_INDEX_SCALE", type := .int, accessFlags := 25, slot := 6, constantValue := 0 }, { name := "LOG2_ARRAY_LONG_INDEX_SCALE", type := .int, accessFlags := 25, slot := 7, constantValue := 0 }, { name := "LOG2_ARRAY_FLOAT_INDEX_SCALE", type := .int, accessFlags := 25, slot := 8, constantValue := 0 }, { name := "LOG2_ARRAY_DOUBLE_INDEX_SCALE", type := .int, accessFlags := 25, slot := 9, constantValue := 0 }, { name := "LOG2_BYTE_BIT_SIZE", type := .int, accessFlags := 26, slot := 10, constantValue := 0 }, { name := "T_BOOLEAN", type := .int, accessFlags := 25, slot := 11, constantValue := 0 }, { name := "T_CHAR", type := .int, accessFlags := 25, slot := 12, constantValue := 0 }, { name := "T_FLOAT", type := .int, accessFlags := 25, slot := 13, constantValue := 0 }, { name := "T_DOUBLE", type := .int, accessFlags := 25, slot := 14, constantValue := 0 }, { name := "T_BYTE", type := .int, accessFlags := 25, slot := 15, constantValue := 0 }, { name := "T_SHORT", type := .int, accessFlags := 25, slot := 16, constantValue := 0 }, { name := "T_INT", type := .int, accessFlags := 25, slot := 17, constantValue := 0 }, { name := "T_LONG", type := .int, accessFlags := 25, slot := 18, constantValue := 0 }, { name := "JLA", type := (.object "jdk/internal/access/JavaLangAccess"), accessFlags := 26, slot := 19, constantValue := 0 }, { name := "SOFT_MAX_ARRAY_LENGTH", type := .int, accessFlags := 25, slot := 20, constantValue := 0 }]
  methods := #[k11m0, k11m1]
  instanceTypes := #[]
  staticTypes := #[(.object "jdk/internal/misc/Unsafe"), .boolean, .int, .int, .int, .int, .int, .int, .int, .int, .int, .int, .int, .int, .int, .int, .int, .int, .int, (.object "jdk/internal/access/JavaLangAccess"), .int]
  resolved := Array.replicate 378 none
  statics := none }

def pool12 : Array CpInfo := pool [(1, .class_ 2), (0, u "java/lang/Cloneable"), (0, .class_ 4), (0, u "java/lang/Object")] 2

/-- java/lang/Cloneable -/
def k12 : Class := { plain "java/lang/Cloneable" (some 0) with
  accessFlags := 1537
  interfaces := #[]
  cf := some (fileOf pool12 1 #[] #[] 1537 3 #[] #[])
  fields := #[]
  methods := #[]
  instanceTypes := #[]
  staticTypes := #[]
  resolved := Array.replicate 7 none
  statics := none }

def pool13 : Array CpInfo := pool [(2, .class_ 4), (1, u "java/lang/Object"), (0, u "<init>"), (0, u "()V"), (17, .class_ 26), (1, u "jdk/internal/util/Preconditions"), (28, .class_ 56), (0, u "jdk/internal/util/Preconditions$4"), (57, .class_ 115), (0, u "jdk/internal/util/Preconditions$1"), (7, u "SIOOBE_FORMATTER"), (0, u "Ljava/util/function/BiFunction;"), (0, .class_ 126), (0, u "jdk/internal/util/Preconditions$2"), (3, u "AIOOBE_FORMATTER"), (0, .class_ 132), (0, u "jdk/internal/util/Preconditions$3"), (3, u "IOOBE_FORMATTER")] 57

def k13m0 : Method := { name := "<init>", desc := "()V", sig := { parameters := [], returnType := none }, accessFlags := 1, code := none }
/-- jdk/internal/util/Preconditions -/
def k13 : Class := { plain "jdk/internal/util/Preconditions" (some 0) with
  accessFlags := 33
  interfaces := #[]
  cf := some (fileOf pool13 24 #[.nestMembers #[55, 131, 125, 114]] #[{ accessFlags := 1, nameIndex := 5, descriptorIndex := 6, attributes := #[] }] 33 2 #[] #[{ accessFlags := 25, nameIndex := 123, descriptorIndex := 124, attributes := #[] }, { accessFlags := 25, nameIndex := 130, descriptorIndex := 124, attributes := #[] }, { accessFlags := 25, nameIndex := 136, descriptorIndex := 124, attributes := #[] }])
  fields := #[{ name := "SIOOBE_FORMATTER", type := (.object "java/util/function/BiFunction"), accessFlags := 25, slot := 0, constantValue := 0 }, { name := "AIOOBE_FORMATTER", type := (.object "java/util/function/BiFunction"), accessFlags := 25, slot := 1, constantValue := 0 }, { name := "IOOBE_FORMATTER", type := (.object "java/util/function/BiFunction"), accessFlags := 25, slot := 2, constantValue := 0 }]
  methods := #[k13m0]
  instanceTypes := #[]
  staticTypes := #[(.object "java/util/function/BiFunction"), (.object "java/util/function/BiFunction"), (.object "java/util/function/BiFunction")]
  resolved := Array.replicate 194 none
  statics := some 1 }

/-- the primitive byte -/
def k14 : Class := { plain "byte" none with kind := .primitive 'B', accessFlags := 0x411 }
/-- [B -/
def k15 : Class := { plain "[B" (some 0) with kind := .array 14 .byte, interfaces := #[12, 3], accessFlags := 1041 }

/-- the primitive char -/
def k16 : Class := { plain "char" none with kind := .primitive 'C', accessFlags := 0x411 }
/-- [C -/
def k17 : Class := { plain "[C" (some 0) with kind := .array 16 .char, interfaces := #[12, 3], accessFlags := 1041 }

/-- the primitive int -/
def k18 : Class := { plain "int" none with kind := .primitive 'I', accessFlags := 0x411 }
/-- [I -/
def k19 : Class := { plain "[I" (some 0) with kind := .array 18 .int, interfaces := #[12, 3], accessFlags := 1041 }

def heap : Heap := #[{ cls := 8, slots := #[.long 0, .int 1, .null, .int 0, .null, .int 0, .int 0], vm := .statics 8 },
  { cls := 13, slots := #[.null, .null, .null], vm := .statics 13 }]
def classes : Array Class := #[k0, k1, k2, k3, k4, k5, k6, k7, k8, k9, k10, k11, k12, k13, k14, k15, k16, k17, k18, k19]
def interned : List (Array UInt16 × Addr) := []
def slotsUsed : Nat := 10
def theMethod : MethodId := ⟨1, 1⟩
def args0 : Array Value := #[.int 1, .int 2, .int 3, .int 4]
def aboutOver (below : List Frame) : State where
  vm := { classes := classes, interned := interned.toArray }
  heap := heap
  slotsUsed := slotsUsed
  threads := #[{ frames := .invoking theMethod args0 :: below }]
def below0 : List Frame := [.native { method := ⟨0, 0⟩, args := #[] }]
def about1 : State := aboutOver below0
def p0 : Program := .bare "" "" ""
def e0 : Env := launch0.env 0 0 0
theorem w_frames : about1.frames = Frame.invoking theMethod args0 :: below0 := rfl
set_option maxRecDepth 65536 in
theorem w_args : argsFit about1.vm theMethod args0 = true := by decide +kernel
set_option maxRecDepth 65536 in
theorem w_heap : heapFits about1 = true := by decide +kernel
set_option maxRecDepth 65536 in
theorem w_runnable : about1.curStatus? = some .runnable := by decide +kernel
set_option maxRecDepth 65536 in
theorem w_alone : about1.alone = true := by decide +kernel
set_option maxRecDepth 65536 in
theorem w_named : about1.methodNamed? x = some theMethod := by decide +kernel
set_option maxRecDepth 65536 in
theorem w_hears : about1.hears theMethod below0 = true := by decide +kernel
set_option maxRecDepth 65536 in
theorem w_ripe : about1.ripe theMethod args0 below0 = true := by decide +kernel
theorem w_running : about1.status = .running := rfl
set_option maxRecDepth 65536 in
theorem w_room : about1.hasRoom e0.platform room_1 = true :=
  launch0.hasRoom_least _ room_1 (by decide +kernel) (by decide +kernel) (by decide +kernel) (by decide +kernel) (by decide +kernel) (by decide +kernel)
theorem allAtoms_all (ts : List Jvm.Cond) (a : Array Jvm.Value) (st : Jvm.State) : (allAtoms ts).before a st = ts.all (fun c => c.before a st) := by
  induction ts with
  | nil => rfl
  | cons c t ih =>
    show (Jvm.Cond.and c (allAtoms t)).before a st = _
    rw [Jvm.Cond.before_and, ih, List.all_cons]
def words1 : List Jvm.Cond := Jvm.Cond.code x code maxLocals ret :: tables_1
/-- a 'code' word, met by the world's own term for the bytes: nothing is compared byte by byte -/
theorem code_word {y : MethodName} {bytes : ByteArray} {mx : Nat} {rt : Option FieldType} {a : Array Value} {s : State} {m : MethodId} {meth : Method} {c : Code} (h1 : s.methodNamed? y = some m) (h2 : s.vm.method? m = some meth) (h3 : meth.code = some c) (h4 : c.code = bytes)
    (h5 : (c.maxLocals == mx && c.exceptionTable.isEmpty && decide (c.maxStack ≤ mostOperands) && decide (meth.sig.returnType = rt) && !meth.locks && decide (parseMethodDescriptor y.desc = some meth.sig)) = true) : (Jvm.Cond.code y bytes mx rt).before a s = true := by
  simp only [Bool.and_eq_true, beq_iff_eq, Bool.not_eq_true', decide_eq_true_eq] at h5
  obtain ⟨⟨⟨⟨⟨g1, g2⟩, g3⟩, g4⟩, g5⟩, g6⟩ := h5
  simp [Cond.before, Cond.holds, Cond.value, h1, h2, h3, h4, g1, g2, g3, g4, g5, g6]
def isCode : Jvm.Cond → Bool
  | .code _ _ _ _ => true
  | _ => false
theorem all_split {L : List Jvm.Cond} {P : Jvm.Cond → Bool} (h1 : L.all (fun c => isCode c || P c) = true) (h2 : ∀ c ∈ L.filter isCode, P c = true) : L.all P = true := by
  refine List.all_eq_true.mpr fun c hc => ?_
  have h := List.all_eq_true.mp h1 c hc
  rcases Bool.eq_false_or_eq_true (isCode c) with hi | hi
  · exact h2 c (List.mem_filter.mpr ⟨hc, hi⟩)
  · simpa [hi] using h
set_option maxRecDepth 65536 in
theorem w_c0 : (Jvm.Cond.code x code maxLocals ret).before args0 about1 = true := code_word (m := ⟨1, 1⟩) (meth := k1m1) (c := k1c1) (by decide +kernel) rfl rfl rfl (by decide +kernel)
set_option maxRecDepth 65536 in
theorem w_c1 : (Jvm.Cond.code ({ cls := "com/example/sluice/sluice/MessageAttribute", name := "<init>", desc := "(Ljava/lang/String;Ljava/lang/String;[B)V" } : Jvm.MethodName) prog_6_method_1_code (4 : Nat) (Option.none : Option Jvm.ClassFile.FieldType)).before args0 about1 = true := code_word (m := ⟨2, 0⟩) (meth := k2m0) (c := k2c0) (by decide +kernel) rfl rfl rfl (by decide +kernel)
set_option maxRecDepth 65536 in
theorem w_c2 : (Jvm.Cond.code ({ cls := "java/lang/Object", name := "<init>", desc := "()V" } : Jvm.MethodName) object_method_1_code (1 : Nat) (Option.none : Option Jvm.ClassFile.FieldType)).before args0 about1 = true := code_word (m := ⟨0, 0⟩) (meth := k0m0) (c := k0c0) (by decide +kernel) rfl rfl rfl (by decide +kernel)
set_option maxRecDepth 65536 in
theorem w_c3 : (Jvm.Cond.code ({ cls := "com/example/sluice/sluice/MessageAttribute", name := "isBinary", desc := "(Ljava/lang/String;)Z" } : Jvm.MethodName) prog_6_method_12_code (1 : Nat) (Option.some Jvm.ClassFile.FieldType.boolean)).before args0 about1 = true := code_word (m := ⟨2, 2⟩) (meth := k2m2) (c := k2c2) (by decide +kernel) rfl rfl rfl (by decide +kernel)
set_option maxRecDepth 65536 in
theorem w_c4 : (Jvm.Cond.code ({ cls := "com/example/sluice/sluice/MessageAttribute", name := "binaryValue", desc := "()[B" } : Jvm.MethodName) prog_6_method_4_code (1 : Nat) (Option.some (Jvm.ClassFile.FieldType.array Jvm.ClassFile.FieldType.byte))).before args0 about1 = true := code_word (m := ⟨2, 1⟩) (meth := k2m1) (c := k2c1) (by decide +kernel) rfl rfl rfl (by decide +kernel)
set_option maxRecDepth 65536 in
theorem w_c5 : (Jvm.Cond.code ({ cls := "java/lang/String", name := "equals", desc := "(Ljava/lang/Object;)Z" } : Jvm.MethodName) jdk_42_method_66_code (3 : Nat) (Option.some Jvm.ClassFile.FieldType.boolean)).before args0 about1 = true := code_word (m := ⟨8, 3⟩) (meth := k8m3) (c := k8c3) (by decide +kernel) rfl rfl rfl (by decide +kernel)
set_option maxRecDepth 65536 in
theorem w_c6 : (Jvm.Cond.code ({ cls := "java/lang/StringLatin1", name := "equals", desc := "([B[B)Z" } : Jvm.MethodName) jdk_43_method_13_code (3 : Nat) (Option.some Jvm.ClassFile.FieldType.boolean)).before args0 about1 = true := code_word (m := ⟨9, 2⟩) (meth := k9m2) (c := k9c2) (by decide +kernel) rfl rfl rfl (by decide +kernel)
set_option maxRecDepth 65536 in
theorem w_c7 : (Jvm.Cond.code ({ cls := "java/lang/String", name := "startsWith", desc := "(Ljava/lang/String;)Z" } : Jvm.MethodName) jdk_42_method_76_code (2 : Nat) (Option.some Jvm.ClassFile.FieldType.boolean)).before args0 about1 = true := code_word (m := ⟨8, 5⟩) (meth := k8m5) (c := k8c5) (by decide +kernel) rfl rfl rfl (by decide +kernel)
set_option maxRecDepth 65536 in
theorem w_c8 : (Jvm.Cond.code ({ cls := "java/lang/String", name := "startsWith", desc := "(Ljava/lang/String;I)Z" } : Jvm.MethodName) jdk_42_method_75_code (8 : Nat) (Option.some Jvm.ClassFile.FieldType.boolean)).before args0 about1 = true := code_word (m := ⟨8, 4⟩) (meth := k8m4) (c := k8c4) (by decide +kernel) rfl rfl rfl (by decide +kernel)
set_option maxRecDepth 65536 in
theorem w_c9 : (Jvm.Cond.code ({ cls := "java/lang/String", name := "length", desc := "()I" } : Jvm.MethodName) jdk_42_method_54_code (1 : Nat) (Option.some Jvm.ClassFile.FieldType.int)).before args0 about1 = true := code_word (m := ⟨8, 2⟩) (meth := k8m2) (c := k8c2) (by decide +kernel) rfl rfl rfl (by decide +kernel)
set_option maxRecDepth 65536 in
theorem w_c10 : (Jvm.Cond.code ({ cls := "java/lang/String", name := "coder", desc := "()B" } : Jvm.MethodName) jdk_42_method_152_code (1 : Nat) (Option.some Jvm.ClassFile.FieldType.byte)).before args0 about1 = true := code_word (m := ⟨8, 9⟩) (meth := k8m9) (c := k8c9) (by decide +kernel) rfl rfl rfl (by decide +kernel)
set_option maxRecDepth 65536 in
theorem w_c11 : (Jvm.Cond.code ({ cls := "java/lang/String", name := "valueOf", desc := "(C)Ljava/lang/String;" } : Jvm.MethodName) jdk_42_method_139_code (1 : Nat) (Option.some (Jvm.ClassFile.FieldType.object "java/lang/String"))).before args0 about1 = true := code_word (m := ⟨8, 6⟩) (meth := k8m6) (c := k8c6) (by decide +kernel) rfl rfl rfl (by decide +kernel)
set_option maxRecDepth 65536 in
theorem w_c12 : (Jvm.Cond.code ({ cls := "java/lang/StringLatin1", name := "canEncode", desc := "(C)Z" } : Jvm.MethodName) jdk_43_method_3_code (1 : Nat) (Option.some Jvm.ClassFile.FieldType.boolean)).before args0 about1 = true := code_word (m := ⟨9, 1⟩) (meth := k9m1) (c := k9c1) (by decide +kernel) rfl rfl rfl (by decide +kernel)
set_option maxRecDepth 65536 in
theorem w_c13 : (Jvm.Cond.code ({ cls := "java/lang/StringLatin1", name := "toBytes", desc := "(C)[B" } : Jvm.MethodName) jdk_43_method_46_code (1 : Nat) (Option.some (Jvm.ClassFile.FieldType.array Jvm.ClassFile.FieldType.byte))).before args0 about1 = true := code_word (m := ⟨9, 3⟩) (meth := k9m3) (c := k9c3) (by decide +kernel) rfl rfl rfl (by decide +kernel)
set_option maxRecDepth 65536 in
theorem w_c14 : (Jvm.Cond.code ({ cls := "java/lang/String", name := "<init>", desc := "([BB)V" } : Jvm.MethodName) jdk_42_method_151_code (3 : Nat) (Option.none : Option Jvm.ClassFile.FieldType)).before args0 about1 = true := code_word (m := ⟨8, 8⟩) (meth := k8m8) (c := k8c8) (by decide +kernel) rfl rfl rfl (by decide +kernel)
set_option maxRecDepth 65536 in
theorem w_c15 : (Jvm.Cond.code ({ cls := "java/lang/String", name := "<init>", desc := "([C)V" } : Jvm.MethodName) jdk_42_method_3_code (2 : Nat) (Option.none : Option Jvm.ClassFile.FieldType)).before args0 about1 = true := code_word (m := ⟨8, 1⟩) (meth := k8m1) (c := k8c1) (by decide +kernel) rfl rfl rfl (by decide +kernel)
set_option maxRecDepth 65536 in
theorem w_c16 : (Jvm.Cond.code ({ cls := "java/lang/String", name := "<init>", desc := "([CIILjava/lang/Void;)V" } : Jvm.MethodName) jdk_42_method_149_code (6 : Nat) (Option.none : Option Jvm.ClassFile.FieldType)).before args0 about1 = true := code_word (m := ⟨8, 7⟩) (meth := k8m7) (c := k8c7) (by decide +kernel) rfl rfl rfl (by decide +kernel)
set_option maxRecDepth 65536 in
theorem w_c17 : (Jvm.Cond.code ({ cls := "java/lang/StringUTF16", name := "compress", desc := "([CII)[B" } : Jvm.MethodName) jdk_52_method_16_code (6 : Nat) (Option.some (Jvm.ClassFile.FieldType.array Jvm.ClassFile.FieldType.byte))).before args0 about1 = true := code_word (m := ⟨10, 2⟩) (meth := k10m2) (c := k10c2) (by decide +kernel) rfl rfl rfl (by decide +kernel)
set_option maxRecDepth 65536 in
theorem w_c18 : (Jvm.Cond.code ({ cls := "java/lang/StringUTF16", name := "compress", desc := "([CI[BII)I" } : Jvm.MethodName) jdk_52_method_21_code (7 : Nat) (Option.some Jvm.ClassFile.FieldType.int)).before args0 about1 = true := code_word (m := ⟨10, 3⟩) (meth := k10m3) (c := k10c3) (by decide +kernel) rfl rfl rfl (by decide +kernel)
set_option maxRecDepth 65536 in
theorem w_c19 : (Jvm.Cond.code ({ cls := "java/lang/StringUTF16", name := "coderFromArrayLen", desc := "([BI)B" } : Jvm.MethodName) jdk_52_method_15_code (2 : Nat) (Option.some Jvm.ClassFile.FieldType.byte)).before args0 about1 = true := code_word (m := ⟨10, 1⟩) (meth := k10m1) (c := k10c1) (by decide +kernel) rfl rfl rfl (by decide +kernel)
set_option maxRecDepth 65536 in
theorem w_c20 : (Jvm.Cond.code ({ cls := "jdk/internal/util/ArraysSupport", name := "mismatch", desc := "([BI[BII)I" } : Jvm.MethodName) jdk_48_method_14_code (8 : Nat) (Option.some Jvm.ClassFile.FieldType.int)).before args0 about1 = true := code_word (m := ⟨11, 1⟩) (meth := k11m1) (c := k11c1) (by decide +kernel) rfl rfl rfl (by decide +kernel)
def codes1 : List Jvm.Cond := [Jvm.Cond.code x code maxLocals ret, Jvm.Cond.code ({ cls := "com/example/sluice/sluice/MessageAttribute", name := "<init>", desc := "(Ljava/lang/String;Ljava/lang/String;[B)V" } : Jvm.MethodName) prog_6_method_1_code (4 : Nat) (Option.none : Option Jvm.ClassFile.FieldType), Jvm.Cond.code ({ cls := "java/lang/Object", name := "<init>", desc := "()V" } : Jvm.MethodName) object_method_1_code (1 : Nat) (Option.none : Option Jvm.ClassFile.FieldType), Jvm.Cond.code ({ cls := "com/example/sluice/sluice/MessageAttribute", name := "isBinary", desc := "(Ljava/lang/String;)Z" } : Jvm.MethodName) prog_6_method_12_code (1 : Nat) (Option.some Jvm.ClassFile.FieldType.boolean), Jvm.Cond.code ({ cls := "com/example/sluice/sluice/MessageAttribute", name := "binaryValue", desc := "()[B" } : Jvm.MethodName) prog_6_method_4_code (1 : Nat) (Option.some (Jvm.ClassFile.FieldType.array Jvm.ClassFile.FieldType.byte)), Jvm.Cond.code ({ cls := "java/lang/String", name := "equals", desc := "(Ljava/lang/Object;)Z" } : Jvm.MethodName) jdk_42_method_66_code (3 : Nat) (Option.some Jvm.ClassFile.FieldType.boolean), Jvm.Cond.code ({ cls := "java/lang/StringLatin1", name := "equals", desc := "([B[B)Z" } : Jvm.MethodName) jdk_43_method_13_code (3 : Nat) (Option.some Jvm.ClassFile.FieldType.boolean), Jvm.Cond.code ({ cls := "java/lang/String", name := "startsWith", desc := "(Ljava/lang/String;)Z" } : Jvm.MethodName) jdk_42_method_76_code (2 : Nat) (Option.some Jvm.ClassFile.FieldType.boolean), Jvm.Cond.code ({ cls := "java/lang/String", name := "startsWith", desc := "(Ljava/lang/String;I)Z" } : Jvm.MethodName) jdk_42_method_75_code (8 : Nat) (Option.some Jvm.ClassFile.FieldType.boolean), Jvm.Cond.code ({ cls := "java/lang/String", name := "length", desc := "()I" } : Jvm.MethodName) jdk_42_method_54_code (1 : Nat) (Option.some Jvm.ClassFile.FieldType.int), Jvm.Cond.code ({ cls := "java/lang/String", name := "coder", desc := "()B" } : Jvm.MethodName) jdk_42_method_152_code (1 : Nat) (Option.some Jvm.ClassFile.FieldType.byte), Jvm.Cond.code ({ cls := "java/lang/String", name := "valueOf", desc := "(C)Ljava/lang/String;" } : Jvm.MethodName) jdk_42_method_139_code (1 : Nat) (Option.some (Jvm.ClassFile.FieldType.object "java/lang/String")), Jvm.Cond.code ({ cls := "java/lang/StringLatin1", name := "canEncode", desc := "(C)Z" } : Jvm.MethodName) jdk_43_method_3_code (1 : Nat) (Option.some Jvm.ClassFile.FieldType.boolean), Jvm.Cond.code ({ cls := "java/lang/StringLatin1", name := "toBytes", desc := "(C)[B" } : Jvm.MethodName) jdk_43_method_46_code (1 : Nat) (Option.some (Jvm.ClassFile.FieldType.array Jvm.ClassFile.FieldType.byte)), Jvm.Cond.code ({ cls := "java/lang/String", name := "<init>", desc := "([BB)V" } : Jvm.MethodName) jdk_42_method_151_code (3 : Nat) (Option.none : Option Jvm.ClassFile.FieldType), Jvm.Cond.code ({ cls := "java/lang/String", name := "<init>", desc := "([C)V" } : Jvm.MethodName) jdk_42_method_3_code (2 : Nat) (Option.none : Option Jvm.ClassFile.FieldType), Jvm.Cond.code ({ cls := "java/lang/String", name := "<init>", desc := "([CIILjava/lang/Void;)V" } : Jvm.MethodName) jdk_42_method_149_code (6 : Nat) (Option.none : Option Jvm.ClassFile.FieldType), Jvm.Cond.code ({ cls := "java/lang/StringUTF16", name := "compress", desc := "([CII)[B" } : Jvm.MethodName) jdk_52_method_16_code (6 : Nat) (Option.some (Jvm.ClassFile.FieldType.array Jvm.ClassFile.FieldType.byte)), Jvm.Cond.code ({ cls := "java/lang/StringUTF16", name := "compress", desc := "([CI[BII)I" } : Jvm.MethodName) jdk_52_method_21_code (7 : Nat) (Option.some Jvm.ClassFile.FieldType.int), Jvm.Cond.code ({ cls := "java/lang/StringUTF16", name := "coderFromArrayLen", desc := "([BI)B" } : Jvm.MethodName) jdk_52_method_15_code (2 : Nat) (Option.some Jvm.ClassFile.FieldType.byte), Jvm.Cond.code ({ cls := "jdk/internal/util/ArraysSupport", name := "mismatch", desc := "([BI[BII)I" } : Jvm.MethodName) jdk_48_method_14_code (8 : Nat) (Option.some Jvm.ClassFile.FieldType.int)]
set_option maxRecDepth 65536 in
theorem codes_eq : words1.filter isCode = codes1 := rfl
theorem w_codes : ∀ c ∈ words1.filter isCode, c.before args0 about1 = true := by
  rw [codes_eq]
  intro c hc
  simp only [codes1, List.mem_cons, List.not_mem_nil, or_false] at hc
  rcases hc with rfl | rfl | rfl | rfl | rfl | rfl | rfl | rfl | rfl | rfl | rfl | rfl | rfl | rfl | rfl | rfl | rfl | rfl | rfl | rfl | rfl
  · exact w_c0
  · exact w_c1
  · exact w_c2
  · exact w_c3
  · exact w_c4
  · exact w_c5
  · exact w_c6
  · exact w_c7
  · exact w_c8
  · exact w_c9
  · exact w_c10
  · exact w_c11
  · exact w_c12
  · exact w_c13
  · exact w_c14
  · exact w_c15
  · exact w_c16
  · exact w_c17
  · exact w_c18
  · exact w_c19
  · exact w_c20
set_option maxRecDepth 65536 in
theorem w_t1 : (words1.take 24).all (fun c => isCode c || c.before args0 about1) = true := by decide +kernel
set_option maxRecDepth 65536 in
theorem w_t2 : ((words1.drop 24).take 24).all (fun c => isCode c || c.before args0 about1) = true := by decide +kernel
set_option maxRecDepth 65536 in
theorem w_t3 : (((words1.drop 24).drop 24).take 24).all (fun c => isCode c || c.before args0 about1) = true := by decide +kernel
set_option maxRecDepth 65536 in
theorem w_t4 : ((((words1.drop 24).drop 24).drop 24).take 24).all (fun c => isCode c || c.before args0 about1) = true := by decide +kernel
set_option maxRecDepth 65536 in
theorem w_t5 : ((((words1.drop 24).drop 24).drop 24).drop 24).all (fun c => isCode c || c.before args0 about1) = true := by decide +kernel
theorem w_tables : (allAtoms (Jvm.Cond.code x code maxLocals ret :: tables_1)).before args0 about1 = true := by
  rw [allAtoms_all]
  show words1.all (fun c => c.before args0 about1) = true
  refine all_split ?_ w_codes
  rw [← List.take_append_drop 24 words1, List.all_append, w_t1, ← List.take_append_drop 24 (words1.drop 24), List.all_append, w_t2, ← List.take_append_drop 24 ((words1.drop 24).drop 24), List.all_append, w_t3, ← List.take_append_drop 24 (((words1.drop 24).drop 24).drop 24), List.all_append, w_t4, w_t5]
  rfl
set_option maxRecDepth 65536 in
theorem w_rest : rest_1_c.before args0 about1 = true := by decide +kernel
set_option maxRecDepth 65536 in
theorem w_case : (Jvm.Cond.and given_1 narrow_1).before args0 about1 = true := by decide +kernel
set_option maxRecDepth 65536 in
theorem w_consts : constsHeld consts_1 about1 := Jvm.Lit.constsHeldB_iff.mp (by decide +kernel)
theorem w_applies : (headSpec (Jvm.Cond.code x code maxLocals ret :: tables_1) room_1).applies x e0.platform about1 = true :=
  (Spec.applies_iff w_frames).mpr ⟨w_running, w_runnable, w_alone, w_named, w_hears, w_ripe, w_room, w_tables⟩
theorem atStart : AtStart classFile x code maxLocals ret World_1 tables_1 room_1 Calls_1 rest_1 Pre_1 launch0 p0 e0 about1 theMethod args0 below0 :=
  ⟨lists_1, trivial, launch0.admits_env _ _ _, launch0.least_env, fairChoices_fair.cas, fairChoices_fair.clock, w_frames, w_args, w_heap, w_applies, ⟨w_consts, trivial⟩, w_rest, w_case⟩
end start1
theorem witness_1 : WitnessClaimed_1 := ⟨start1.p0, start1.e0, start1.about1, start1.theMethod, start1.args0, start1.below0, start1.atStart⟩
end Jvm.Pilot.@@N@@
