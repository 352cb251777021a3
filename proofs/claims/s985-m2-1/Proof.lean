import JvmDerived
import JvmDerived.Pilot.@@N@@Statement
import JvmDerived.Pilot.@@N@@Code
set_option linter.unusedVariables false
set_option linter.unusedSimpArgs false
/- laws to paste: Road.backV (cut by pick.py; bodies as the Statement names them) -/
namespace Jvm.Pilot.@@N@@
namespace StrChars
open Jvm Sem ClassFile Op Lib Jvm.Stand Jvm.Free.XT Jvm.Free.ALB Jvm.Free.JM Jvm.Free
open Jvm.Lib.Cold (StaticIs)
/-- a char array whose places are chars -/
def Ch (a : Addr) (A : Cell) (U : State) : Prop := Arr .char a A U ∧ Typed .char A
theorem Ch.mv {a : Addr} {A : Cell} {U U' : State} (h : Ch a A U) (hal : U.vm.Alike U'.vm) (hh : U'.heap = U.heap) : Ch a A U' := ⟨h.1.mv hal hh, h.2⟩
theorem Ch.keep {a : Addr} {A : Cell} {U U' : State} (h : Ch a A U) (hal : U.vm.Alike U'.vm) (hk : U'.heap[a]? = some A) : Ch a A U' := ⟨h.1.keep hal hk, h.2⟩
/-- what place i of a char[]'s cell holds -/
def cv (A : Cell) (i : Nat) : Int32 := match A.slots[i]? with | some (.int x) => x | _ => 0
theorem Ch.get {a : Addr} {A : Cell} {U : State} (h : Ch a A U) {i : Nat} (hi : i < A.slots.size) : A.slots[i]? = some (.int (cv A i)) := by
  have e := Array.getElem?_eq_getElem hi
  have f := h.2 i _ e
  unfold cv; rw [e]
  generalize A.slots[i] = v at f
  cases v <;> simp [fits] at f ⊢
/-- the byte that i2b leaves of a char -/
def lo8 (x : Int32) : Int32 := x.toInt8.toInt32
theorem fits_lo8 (y : Int32) : fits .byte (.int (lo8 y)) = true := by
  have h1 := y.toInt8.le_toInt
  have h2 := y.toInt8.toInt_lt
  simp only [lo8, fits, Bool.and_eq_true, decide_eq_true_eq, Int32.le_iff_toInt_le, Int8.toInt_toInt32, show (-128 : Int32).toInt = -128 from by decide, show (127 : Int32).toInt = 127 from by decide]
  omega
/-- A' is A but that each place j of lo .. hi - 1 holds f j -/
def Laid (A A' : Cell) (lo hi : Nat) (f : Nat → Value) : Prop := A'.cls = A.cls ∧ A'.vm = A.vm ∧ A'.slots.size = A.slots.size ∧ ∀ i, A'.slots[i]? = if lo ≤ i ∧ i < hi then some (f i) else A.slots[i]?
theorem Laid.zero (A : Cell) (lo : Nat) (f : Nat → Value) : Laid A A lo (lo + 0) f := ⟨rfl, rfl, rfl, fun i => by rw [if_neg (by omega)]⟩
theorem Laid.step {A Ak : Cell} {lo k : Nat} {f : Nat → Value} {v : Value} (h : Laid A Ak lo k f) (hlo : lo ≤ k) (hk : k < Ak.slots.size) (hv : v = f k) : Laid A (Ak.setSlot k v) lo (k + 1) f := by
  refine ⟨h.1, h.2.1, by simpa [Cell.setSlot] using h.2.2.1, fun i => ?_⟩
  by_cases e : k = i
  · subst e; rw [Cell.slots_setSlot_self v hk, if_pos (by omega), hv]
  · rw [Cell.slots_setSlot_ne v e, h.2.2.2 i]
    by_cases q : lo ≤ i ∧ i < k
    · rw [if_pos q, if_pos (by omega)]
    · rw [if_neg q, if_neg (by omega)]
def U16 : String := "java/lang/StringUTF16"
namespace Cmp5
def yN : MethodName := ⟨"java/lang/StringUTF16", "compress", "([CI[BII)I"⟩
abbrev yB : ByteArray := jdk_52_method_21_code
theorem d0 : decode yB 0 = .ok (.iconst 0, 1) := by decide +kernel
theorem d1 : decode yB 1 = .ok (.istore 5, 2) := by decide +kernel
theorem d3 : decode yB 3 = .ok (.iload 5, 2) := by decide +kernel
theorem d5 : decode yB 5 = .ok (.iload 4, 2) := by decide +kernel
theorem d7 : decode yB 7 = .ok (.if_icmp (.ge) 37, 3) := by decide +kernel
theorem d10 : decode yB 10 = .ok (.aload_n 0, 1) := by decide +kernel
theorem d11 : decode yB 11 = .ok (.iload_n 1, 1) := by decide +kernel
theorem d12 : decode yB 12 = .ok (.caload, 1) := by decide +kernel
theorem d13 : decode yB 13 = .ok (.istore 6, 2) := by decide +kernel
theorem d15 : decode yB 15 = .ok (.iload 6, 2) := by decide +kernel
theorem d17 : decode yB 17 = .ok (.sipush 255, 3) := by decide +kernel
theorem d20 : decode yB 20 = .ok (.if_icmp (.le) 6, 3) := by decide +kernel
theorem d26 : decode yB 26 = .ok (.aload_n 2, 1) := by decide +kernel
theorem d27 : decode yB 27 = .ok (.iload_n 3, 1) := by decide +kernel
theorem d28 : decode yB 28 = .ok (.iload 6, 2) := by decide +kernel
theorem d30 : decode yB 30 = .ok (.i2b, 1) := by decide +kernel
theorem d31 : decode yB 31 = .ok (.bastore, 1) := by decide +kernel
theorem d32 : decode yB 32 = .ok (.iinc 1 1, 3) := by decide +kernel
theorem d35 : decode yB 35 = .ok (.iinc 3 1, 3) := by decide +kernel
theorem d38 : decode yB 38 = .ok (.iinc 5 1, 3) := by decide +kernel
theorem d41 : decode yB 41 = .ok (.goto (-38), 3) := by decide +kernel
theorem d44 : decode yB 44 = .ok (.iload 4, 2) := by decide +kernel
theorem d46 : decode yB 46 = .ok (.ireturn, 1) := by decide +kernel
def site : List Cond := []
def tab : Cond := tabOf yN yB 7 (some .int) site
def P (b : Addr) (A : Cell) (d : Addr) (B : Cell) (o q len : Nat) (args : Array Value) (s : State) : Prop := args = #[.ref b, .int (Int32.ofNat o), .ref d, .int (Int32.ofNat q), .int (Int32.ofNat len)] ∧ Ch b A s ∧ Arr .byte d B s ∧ b ≠ d ∧ o + len ≤ A.slots.size ∧ q + len ≤ B.slots.size ∧ ∀ i, i < len → ¬ 255 < cv A (o + i)
def E (b : Addr) (A : Cell) (d : Addr) (B : Cell) (o q len : Nat) (r : Option Value) (s u : State) : Prop := r = some (.int (Int32.ofNat len)) ∧ ∃ B', Put d B' s u ∧ Laid B B' q (q + len) (fun j => Value.int (lo8 (cv A (o + (j - q)))))
/-- no char of the range above 255: len; the places written hold each char's low byte -/
theorem law (l : Launch) (b : Addr) (A : Cell) (d : Addr) (B : Cell) (o q len : Nat) : Law l yN 5 5 0 0 yB 7 (some .int) site (P b A d B o q len) (E b A d B o q len) (copyLocs d q len) 0 0 := by
  refine Law.of_walk (plainFor_of_name (by decide +kernel)) (by decide +kernel) (by decide +kernel) (by decide) (fun _ _ h => by rw [h.1]; rfl) (fun _ U U' hal hh h => ⟨h.1, h.2.1.mv hal hh, h.2.2.1.mv hal hh, h.2.2.2⟩) (fun r U U' V V' h1 hal h2 h => ⟨h.1, h.2.elim fun B' q => ⟨B', q.1.mv h1 h2, q.2⟩⟩) ?_
  intro p e s m args below meth c s₁ X0 hexec hbytes hml hret hlk hnm hown hh0 W hP
  obtain ⟨rfl, hA, hB, hne, l1, l2, hp⟩ := hP
  have c1 : Steps p.tables e below (s₁.setTop (entryFrame m #[.ref b, .int (Int32.ofNat o), .ref d, .int (Int32.ofNat q), .int (Int32.ofNat len)] 7)) (s₁.setTop (mkF m 0 #[.val (.ref b), .val (.int (Int32.ofNat o)), .val (.ref d), .val (.int (Int32.ofNat q)), .val (.int (Int32.ofNat len)), .unset, .unset] [])) := entry rfl
  have hA0 := hA.1.mv X0.warmed.alike hh0
  have hB0 := hB.mv X0.warmed.alike hh0
  have a31 := hA.1.2.2.2
  have c2 : Steps p.tables e below (s₁.setTop (entryFrame m #[.ref b, .int (Int32.ofNat o), .ref d, .int (Int32.ofNat q), .int (Int32.ofNat len)] 7)) (s₁.setTop (mkF m 3 #[.val (.ref b), .val (.int (Int32.ofNat o)), .val (.ref d), .val (.int (Int32.ofNat q)), .val (.int (Int32.ofNat len)), .val (.int 0), .unset] [])) := c1.trans (by
    refine iconstV X0.here hexec rfl 0 (hb hbytes d0) (by decide) ?_
    refine XS.istore X0.here hexec rfl (hb hbytes d1) rfl rfl ?_
    exact Steps.refl _)
  have loop : ∀ (r i : Nat), i + r = len → ∀ (z : Slot), (z = .unset ∨ ∃ w, z = .val w ∧ w.category = 1) → ∀ (Tl : State) (Bk : Cell), Stand p l e { frames := 0, locals := 0, cells := 0, slots := 0 } s m #[.ref b, .int (Int32.ofNat o), .ref d, .int (Int32.ofNat q), .int (Int32.ofNat len)] below meth c Tl ([] ++ copyLocs d q i) 0 0 → Put d Bk s₁ Tl → Laid B Bk q (q + i) (fun j => Value.int (lo8 (cv A (o + (j - q))))) →
      Steps p.tables e below (s₁.setTop (entryFrame m #[.ref b, .int (Int32.ofNat o), .ref d, .int (Int32.ofNat q), .int (Int32.ofNat len)] 7)) (Tl.setTop (mkF m 3 #[.val (.ref b), .val (.int (Int32.ofNat (o + i))), .val (.ref d), .val (.int (Int32.ofNat (q + i))), .val (.int (Int32.ofNat len)), .val (.int (Int32.ofNat i)), z] [])) → ∃ (T' : State) (B' : Cell) (z' : Slot), Stand p l e { frames := 0, locals := 0, cells := 0, slots := 0 } s m #[.ref b, .int (Int32.ofNat o), .ref d, .int (Int32.ofNat q), .int (Int32.ofNat len)] below meth c T' ([] ++ copyLocs d q len) 0 0 ∧ Put d B' s₁ T' ∧ Laid B B' q (q + len) (fun j => Value.int (lo8 (cv A (o + (j - q))))) ∧
      Steps p.tables e below (s₁.setTop (entryFrame m #[.ref b, .int (Int32.ofNat o), .ref d, .int (Int32.ofNat q), .int (Int32.ofNat len)] 7)) (T'.setTop (mkF m 3 #[.val (.ref b), .val (.int (Int32.ofNat (o + len))), .val (.ref d), .val (.int (Int32.ofNat (q + len))), .val (.int (Int32.ofNat len)), .val (.int (Int32.ofNat len)), z'] [])) := by
    intro r
    induction r with
    | zero =>
      intro i hi z hz Tl Bk Xl pl fl cl
      have hil : i = len := by omega
      rw [hil] at Xl fl cl
      exact ⟨Tl, Bk, z, Xl, pl, fl, cl⟩
    | succ r ih =>
      intro i hi z hz Tl Bk Xl pl fl cl
      have all := X0.warmed.alike.symm.trans Xl.warmed.alike
      have hAl := hA0.keep all (pl.other hne hA0.1)
      have hBk := hB0.like all pl.1 fl.1 fl.2.1 fl.2.2.1
      have hlt : q + i < Bk.slots.size := by rw [fl.2.2.1]; omega
      have c3 : Steps p.tables e below (s₁.setTop (entryFrame m #[.ref b, .int (Int32.ofNat o), .ref d, .int (Int32.ofNat q), .int (Int32.ofNat len)] 7)) (Tl.setTop (mkF m 12 #[.val (.ref b), .val (.int (Int32.ofNat (o + i))), .val (.ref d), .val (.int (Int32.ofNat (q + i))), .val (.int (Int32.ofNat len)), .val (.int (Int32.ofNat i)), z] [.int (Int32.ofNat (o + i)), .ref b])) := cl.trans (by
        refine XS.iload Xl.here hexec rfl (hb hbytes d3) rfl ?_
        refine XS.iload Xl.here hexec rfl (hb hbytes d5) rfl ?_
        refine XS.icmpNo Xl.here hexec rfl (hb hbytes d7) rfl (ii_ge_f (lt32 (by omega) (by omega))) ?_
        refine XS.aloadN Xl.here hexec rfl (hb hbytes d10) rfl rfl ?_
        refine XS.iloadN Xl.here hexec rfl (hb hbytes d11) rfl ?_
        exact Steps.refl _)
      have c4 : Steps p.tables e below (s₁.setTop (entryFrame m #[.ref b, .int (Int32.ofNat o), .ref d, .int (Int32.ofNat q), .int (Int32.ofNat len)] 7)) (Tl.setTop (mkF m 13 #[.val (.ref b), .val (.int (Int32.ofNat (o + i))), .val (.ref d), .val (.int (Int32.ofNat (q + i))), .val (.int (Int32.ofNat len)), .val (.int (Int32.ofNat i)), z] [.int (cv A (o + i))])) := c3.trans (by
        refine Xl.aget hexec hAl rfl (hA.get (i := o + i) (by omega)) rfl rfl (hb hbytes d12) ?_
        exact Steps.refl _)
      have c5 : Steps p.tables e below (s₁.setTop (entryFrame m #[.ref b, .int (Int32.ofNat o), .ref d, .int (Int32.ofNat q), .int (Int32.ofNat len)] 7)) (Tl.setTop (mkF m 15 #[.val (.ref b), .val (.int (Int32.ofNat (o + i))), .val (.ref d), .val (.int (Int32.ofNat (q + i))), .val (.int (Int32.ofNat len)), .val (.int (Int32.ofNat i)), .val (.int (cv A (o + i)))] [])) := c4.trans (by
        refine XS.istoreS Xl.here hexec rfl (hb hbytes d13) rfl rfl hz ?_
        exact Steps.refl _)
      have c6 : Steps p.tables e below (s₁.setTop (entryFrame m #[.ref b, .int (Int32.ofNat o), .ref d, .int (Int32.ofNat q), .int (Int32.ofNat len)] 7)) (Tl.setTop (mkF m 31 #[.val (.ref b), .val (.int (Int32.ofNat (o + i))), .val (.ref d), .val (.int (Int32.ofNat (q + i))), .val (.int (Int32.ofNat len)), .val (.int (Int32.ofNat i)), .val (.int (cv A (o + i)))] [.int (lo8 (cv A (o + i))), .int (Int32.ofNat (q + i)), .ref d])) := c5.trans (by
        refine XS.iload Xl.here hexec rfl (hb hbytes d15) rfl ?_
        refine sipushV Xl.here hexec rfl 255 (hb hbytes d17) (by decide) ?_
        refine XS.icmpYes Xl.here hexec rfl (pc0 := 20) rfl (hb hbytes d20) rfl (ii_le_t (hp i (by omega))) (by decide) rfl ?_
        refine XS.aloadN Xl.here hexec rfl (hb hbytes d26) rfl rfl ?_
        refine XS.iloadN Xl.here hexec rfl (hb hbytes d27) rfl ?_
        refine XS.iload Xl.here hexec rfl (hb hbytes d28) rfl ?_
        refine i2b Xl.here hexec rfl (hb hbytes d30) rfl ?_
        exact Steps.refl _)
      obtain ⟨T7, X7, p7, st7⟩ := Xl.aput hexec hBk rfl hlt rfl (fits_lo8 (cv A (o + i))) (g := (mkF m 31 #[.val (.ref b), .val (.int (Int32.ofNat (o + i))), .val (.ref d), .val (.int (Int32.ofNat (q + i))), .val (.int (Int32.ofNat len)), .val (.int (Int32.ofNat i)), .val (.int (cv A (o + i)))] [.int (lo8 (cv A (o + i))), .int (Int32.ofNat (q + i)), .ref d])) rfl (rest := []) rfl (hb hbytes d31)
      have c8 : Steps p.tables e below (s₁.setTop (entryFrame m #[.ref b, .int (Int32.ofNat o), .ref d, .int (Int32.ofNat q), .int (Int32.ofNat len)] 7)) (T7.setTop (mkF m 32 #[.val (.ref b), .val (.int (Int32.ofNat (o + i))), .val (.ref d), .val (.int (Int32.ofNat (q + i))), .val (.int (Int32.ofNat len)), .val (.int (Int32.ofNat i)), .val (.int (cv A (o + i)))] [])) := c6.trans (st7 _ (Steps.refl _))
      have c9 : Steps p.tables e below (s₁.setTop (entryFrame m #[.ref b, .int (Int32.ofNat o), .ref d, .int (Int32.ofNat q), .int (Int32.ofNat len)] 7)) (T7.setTop (mkF m 3 #[.val (.ref b), .val (.int (Int32.ofNat (o + i) + 1)), .val (.ref d), .val (.int (Int32.ofNat (q + i) + 1)), .val (.int (Int32.ofNat len)), .val (.int (Int32.ofNat i + 1)), .val (.int (cv A (o + i)))] [])) := c8.trans (by
        refine iincV X7.here hexec rfl 1 (hb hbytes d32) (by decide) rfl rfl ?_
        refine iincV X7.here hexec rfl 1 (hb hbytes d35) (by decide) rfl rfl ?_
        refine iincV X7.here hexec rfl 1 (hb hbytes d38) (by decide) rfl rfl ?_
        refine XS.goto X7.here hexec rfl (pc0 := 41) rfl (hb hbytes d41) (by decide) rfl ?_
        exact Steps.refl _)
      have c10 : Steps p.tables e below (s₁.setTop (entryFrame m #[.ref b, .int (Int32.ofNat o), .ref d, .int (Int32.ofNat q), .int (Int32.ofNat len)] 7)) (T7.setTop (mkF m 3 #[.val (.ref b), .val (.int (Int32.ofNat (o + (i + 1)))), .val (.ref d), .val (.int (Int32.ofNat (q + (i + 1)))), .val (.int (Int32.ofNat len)), .val (.int (Int32.ofNat (i + 1))), .val (.int (cv A (o + i)))] [])) := by
        have := c9
        rw [succ32, succ32, succ32] at this
        exact this
      exact ih (i + 1) (by omega) _ (Or.inr ⟨_, rfl, rfl⟩) T7 _ (by rw [copyLocs_step, ← List.append_assoc]; exact X7) (pl.trans p7) (fl.step (by omega) hlt (by simp)) c10
  obtain ⟨T9, B9, z9, X9, p9, f9, g9⟩ := loop len 0 (by omega) .unset (Or.inl rfl) s₁ B (by simpa [copyLocs] using X0) ⟨hB0.1, fun _ _ => rfl, rfl⟩ (Laid.zero _ _ _) c2
  have c11 : Steps p.tables e below (s₁.setTop (entryFrame m #[.ref b, .int (Int32.ofNat o), .ref d, .int (Int32.ofNat q), .int (Int32.ofNat len)] 7)) (T9.setTop (mkF m 46 #[.val (.ref b), .val (.int (Int32.ofNat (o + len))), .val (.ref d), .val (.int (Int32.ofNat (q + len))), .val (.int (Int32.ofNat len)), .val (.int (Int32.ofNat len)), z9] [.int (Int32.ofNat len)])) := g9.trans (by
    refine XS.iload X9.here hexec rfl (hb hbytes d3) rfl ?_
    refine XS.iload X9.here hexec rfl (hb hbytes d5) rfl ?_
    refine XS.icmpYes X9.here hexec rfl (pc0 := 7) rfl (hb hbytes d7) rfl (ii_ge_t (nlt32 (by omega) (Nat.le_refl _))) (by decide) rfl ?_
    refine XS.iload X9.here hexec rfl (hb hbytes d44) rfl ?_
    exact Steps.refl _)
  exact ⟨T9, some (.int (Int32.ofNat len)), _, _, _, X9, by simp, rfl, rfl, (fun h => by cases h), ⟨rfl, B9, p9.from hh0, f9⟩, fun fs hl => c11.trans (X9.ireturnOut hexec hret rfl (Or.inl rfl) (hb hbytes d46) hl)⟩
end Cmp5
namespace Cmp3
def yN : MethodName := ⟨"java/lang/StringUTF16", "compress", "([CII)[B"⟩
abbrev yB : ByteArray := jdk_52_method_16_code
theorem d0 : decode yB 0 = .ok (.iload_n 2, 1) := by decide +kernel
theorem d1 : decode yB 1 = .ok (.newarray .byte, 2) := by decide +kernel
theorem d3 : decode yB 3 = .ok (.astore_n 3, 1) := by decide +kernel
theorem d4 : decode yB 4 = .ok (.aload_n 0, 1) := by decide +kernel
theorem d5 : decode yB 5 = .ok (.iload_n 1, 1) := by decide +kernel
theorem d6 : decode yB 6 = .ok (.aload_n 3, 1) := by decide +kernel
theorem d7 : decode yB 7 = .ok (.iconst 0, 1) := by decide +kernel
theorem d8 : decode yB 8 = .ok (.iload_n 2, 1) := by decide +kernel
theorem d9 : decode yB 9 = .ok (.invokestatic 115, 3) := by decide +kernel
theorem d12 : decode yB 12 = .ok (.istore 4, 2) := by decide +kernel
theorem d14 : decode yB 14 = .ok (.iload 4, 2) := by decide +kernel
theorem d16 : decode yB 16 = .ok (.iload_n 2, 1) := by decide +kernel
theorem d17 : decode yB 17 = .ok (.if_icmp (.eq) 40, 3) := by decide +kernel
theorem d57 : decode yB 57 = .ok (.aload_n 3, 1) := by decide +kernel
theorem d58 : decode yB 58 = .ok (.areturn, 1) := by decide +kernel
def site : List Cond := [.arrayClass .byte, Cmp5.tab] ++ staticW U16 115 Cmp5.yN
def tab : Cond := tabOf yN yB 6 (some (.array .byte)) site
def P (b : Addr) (A : Cell) (o len : Nat) (args : Array Value) (s : State) : Prop := args = #[.ref b, .int (Int32.ofNat o), .int (Int32.ofNat len)] ∧ Ch b A s ∧ o + len ≤ A.slots.size ∧ len ≤ 536870912 ∧ ∀ i, i < len → ¬ 255 < cv A (o + i)
def E (b : Addr) (A : Cell) (o len : Nat) (r : Option Value) (s u : State) : Prop := NewArr .byte "[B" len (fun j => .int (lo8 (cv A (o + j)))) r s u ∧ u.heap.size = s.heap.size + 1
/-- no char of the range above 255: a new byte[] of their low bytes -/
theorem law (l : Launch) (b : Addr) (A : Cell) (o len : Nat) : Law l yN 3 3 1 18 yB 6 (some (.array .byte)) site (P b A o len) (E b A o len) [] 1 len := by
  refine Law.of_walk (plainFor_of_name (by decide +kernel)) (by decide +kernel) (by decide +kernel) (by decide) (fun _ _ h => by rw [h.1]; rfl) (fun _ U U' hal hh h => ⟨h.1, h.2.1.mv hal hh, h.2.2⟩) (fun r U U' V V' h1 hal h2 h => ⟨NewArr.mv r U U' V V' h1 hal h2 h.1, by rw [h1, h2]; exact h.2⟩) ?_
  intro p e s m args below meth c s₁ X0 hexec hbytes hml hret hlk hnm hown hh0 W hP
  obtain ⟨rfl, hA, l1, l2, hp⟩ := hP
  have a31 := hA.1.2.2.2
  have c1 : Steps p.tables e below (s₁.setTop (entryFrame m #[.ref b, .int (Int32.ofNat o), .int (Int32.ofNat len)] 6)) (s₁.setTop (mkF m 0 #[.val (.ref b), .val (.int (Int32.ofNat o)), .val (.int (Int32.ofNat len)), .unset, .unset, .unset] [])) := entry rfl
  have c2 : Steps p.tables e below (s₁.setTop (entryFrame m #[.ref b, .int (Int32.ofNat o), .int (Int32.ofNat len)] 6)) (s₁.setTop (mkF m 1 #[.val (.ref b), .val (.int (Int32.ofNat o)), .val (.int (Int32.ofNat len)), .unset, .unset, .unset] [.int (Int32.ofNat len)])) := c1.trans (by
    refine XS.iloadN X0.here hexec rfl (hb hbytes d0) rfl ?_
    exact Steps.refl _)
  obtain ⟨T3, B3, X3, ba3, bs3, bv3, bh3, bf3, st3⟩ := X0.anew hexec (atype := .byte) (wk W (.arrayClass .byte)) rfl (by show len * 1 ≤ _; omega) (by omega) (g := (mkF m 1 #[.val (.ref b), .val (.int (Int32.ofNat o)), .val (.int (Int32.ofNat len)), .unset, .unset, .unset] [.int (Int32.ofNat len)])) rfl (hb hbytes d1) (rest := []) rfl (Nat.le_refl _) (by show 0 + len ≤ len; omega)
  rw [hh0] at ba3 st3
  have kp3 : XT.Kept s T3 := (XT.Kept.of_eq hh0).push bh3
  have hA3 := hA.keep X3.warmed.alike (kp3 _ _ hA.1.1)
  have hne : b ≠ s.heap.size := hA.1.ne
  have c4 : Steps p.tables e below (s₁.setTop (entryFrame m #[.ref b, .int (Int32.ofNat o), .int (Int32.ofNat len)] 6)) (T3.setTop (mkF m 3 #[.val (.ref b), .val (.int (Int32.ofNat o)), .val (.int (Int32.ofNat len)), .unset, .unset, .unset] [.ref s.heap.size])) := c2.trans (st3 _ (Steps.refl _))
  have c5 : Steps p.tables e below (s₁.setTop (entryFrame m #[.ref b, .int (Int32.ofNat o), .int (Int32.ofNat len)] 6)) (T3.setTop (mkF m 9 #[.val (.ref b), .val (.int (Int32.ofNat o)), .val (.int (Int32.ofNat len)), .val (.ref s.heap.size), .unset, .unset] [.int (Int32.ofNat len), .int 0, .ref s.heap.size, .int (Int32.ofNat o), .ref b])) := c4.trans (by
    refine XS.astoreN X3.here hexec rfl (hb hbytes d3) rfl rfl rfl ?_
    refine XS.aloadN X3.here hexec rfl (hb hbytes d4) rfl rfl ?_
    refine XS.iloadN X3.here hexec rfl (hb hbytes d5) rfl ?_
    refine XS.aloadN X3.here hexec rfl (hb hbytes d6) rfl rfl ?_
    refine iconstV X3.here hexec rfl 0 (hb hbytes d7) (by decide) ?_
    refine XS.iloadN X3.here hexec rfl (hb hbytes d8) rfl ?_
    exact Steps.refl _)
  obtain ⟨v6, T6, X6, E6, g6⟩ := X3.callS hexec (Cmp5.law l b A s.heap.size B3 o 0 len) hown (wks W (staticW U16 115 Cmp5.yN)) (wk W Cmp5.tab) (W := 0) (Nat.le_of_ble_eq_true rfl) (Nat.le_of_ble_eq_true rfl) (Nat.le_refl _) (by show 0 + len + 0 ≤ len; omega) (g := (mkF m 9 #[.val (.ref b), .val (.int (Int32.ofNat o)), .val (.int (Int32.ofNat len)), .val (.ref s.heap.size), .unset, .unset] [.int (Int32.ofNat len), .int (Int32.ofNat 0), .ref s.heap.size, .int (Int32.ofNat o), .ref b])) rfl (by rw [hml]; rfl) c5 (argsL := [.ref b, .int (Int32.ofNat o), .ref s.heap.size, .int (Int32.ofNat 0), .int (Int32.ofNat len)]) (rest := []) rfl rfl (by show 2 * 0 + 0 ≤ _; decide) (hb hbytes d9) (⟨rfl, hA3, ba3, hne, l1, by rw [bs3]; simp, hp⟩)
  obtain ⟨rfl, B6, p6, f6⟩ := E6
  have c7 : Steps p.tables e below (s₁.setTop (entryFrame m #[.ref b, .int (Int32.ofNat o), .int (Int32.ofNat len)] 6)) (T6.setTop (mkF m 12 #[.val (.ref b), .val (.int (Int32.ofNat o)), .val (.int (Int32.ofNat len)), .val (.ref s.heap.size), .unset, .unset] [.int (Int32.ofNat len)])) := g6
  have c8 : Steps p.tables e below (s₁.setTop (entryFrame m #[.ref b, .int (Int32.ofNat o), .int (Int32.ofNat len)] 6)) (T6.setTop (mkF m 58 #[.val (.ref b), .val (.int (Int32.ofNat o)), .val (.int (Int32.ofNat len)), .val (.ref s.heap.size), .val (.int (Int32.ofNat len)), .unset] [.ref s.heap.size])) := c7.trans (by
    refine XS.istore X6.here hexec rfl (hb hbytes d12) rfl rfl ?_
    refine XS.iload X6.here hexec rfl (hb hbytes d14) rfl ?_
    refine XS.iloadN X6.here hexec rfl (hb hbytes d16) rfl ?_
    refine XS.icmpYes X6.here hexec rfl (pc0 := 17) rfl (hb hbytes d17) rfl (ii_eq_t rfl) (by decide) rfl ?_
    refine XS.aloadN X6.here hexec rfl (hb hbytes d57) rfl rfl ?_
    exact Steps.refl _)
  have X8 := X6.wide (L' := []) (cells' := 1) (slots' := len) (fun x hx hlt => by
    simp only [List.nil_append, copyLocs, List.mem_map, List.mem_range] at hx
    obtain ⟨i, -, rfl⟩ := hx
    exact absurd hlt (Nat.lt_irrefl _)) (Nat.le_refl _) (by omega)
  exact ⟨T6, some (.ref s.heap.size), _, _, _, X8, rfl, rfl, rfl, (fun h => by cases h), ⟨⟨rfl, B6, ba3.like (X3.warmed.alike.symm.trans X6.warmed.alike) p6.1 f6.1 f6.2.1 f6.2.2.1, f6.2.1.trans bv3, by rw [X6.warmed.alike.findClass, f6.1]; exact bf3, by rw [f6.2.2.1, bs3]; simp, fun j hj => by rw [f6.2.2.2 j, if_pos (by omega)]; rfl, kp3.put p6 (Nat.le_refl _)⟩, by rw [p6.2.2, bh3, hh0]; simp⟩, fun fs hl => c8.trans (X8.areturnOut hexec rfl hret rfl (hb hbytes d58) hl)⟩
end Cmp3
namespace CodL
def yN : MethodName := ⟨"java/lang/StringUTF16", "coderFromArrayLen", "([BI)B"⟩
abbrev yB : ByteArray := jdk_52_method_15_code
theorem d0 : decode yB 0 = .ok (.iload_n 1, 1) := by decide +kernel
theorem d1 : decode yB 1 = .ok (.aload_n 0, 1) := by decide +kernel
theorem d2 : decode yB 2 = .ok (.arraylength, 1) := by decide +kernel
theorem d3 : decode yB 3 = .ok (.isub, 1) := by decide +kernel
theorem d4 : decode yB 4 = .ok (.bipush 31, 2) := by decide +kernel
theorem d6 : decode yB 6 = .ok (.iushr, 1) := by decide +kernel
theorem d7 : decode yB 7 = .ok (.i2b, 1) := by decide +kernel
theorem d8 : decode yB 8 = .ok (.ireturn, 1) := by decide +kernel
def site : List Cond := []
def tab : Cond := tabOf yN yB 2 (some .byte) site
def P (d : Addr) (B : Cell) (args : Array Value) (s : State) : Prop := args = #[.ref d, .int (Int32.ofNat B.slots.size)] ∧ Arr .byte d B s
def E (r : Option Value) (s u : State) : Prop := XT.PureE (some (.int 0)) r s u
/-- an array as long as the number of chars: LATIN1 -/
theorem law (l : Launch) (d : Addr) (B : Cell) : Law l yN 2 2 0 0 yB 2 (some .byte) site (P d B) E [] 0 0 := by
  refine Law.of_walk (plainFor_of_name (by decide +kernel)) (by decide +kernel) (by decide +kernel) (by decide) (fun _ _ h => by rw [h.1]; rfl) (fun _ U U' hal hh h => ⟨h.1, h.2.mv hal hh⟩) (fun r U U' V V' h1 hal h2 h => XT.PureE.mv r U U' V V' h1 hal h2 h) ?_
  intro p e s m args below meth c s₁ X0 hexec hbytes hml hret hlk hnm hown hh0 W hP
  obtain ⟨rfl, hB⟩ := hP
  have hB0 := hB.mv X0.warmed.alike hh0
  have c1 : Steps p.tables e below (s₁.setTop (entryFrame m #[.ref d, .int (Int32.ofNat B.slots.size)] 2)) (s₁.setTop (mkF m 0 #[.val (.ref d), .val (.int (Int32.ofNat B.slots.size))] [])) := entry rfl
  have c2 : Steps p.tables e below (s₁.setTop (entryFrame m #[.ref d, .int (Int32.ofNat B.slots.size)] 2)) (s₁.setTop (mkF m 2 #[.val (.ref d), .val (.int (Int32.ofNat B.slots.size))] [.ref d, .int (Int32.ofNat B.slots.size)])) := c1.trans (by
    refine XS.iloadN X0.here hexec rfl (hb hbytes d0) rfl ?_
    refine XS.aloadN X0.here hexec rfl (hb hbytes d1) rfl rfl ?_
    exact Steps.refl _)
  have c3 : Steps p.tables e below (s₁.setTop (entryFrame m #[.ref d, .int (Int32.ofNat B.slots.size)] 2)) (s₁.setTop (mkF m 8 #[.val (.ref d), .val (.int (Int32.ofNat B.slots.size))] [.int (lo8 (ushr (Int32.ofNat B.slots.size - Int32.ofNat B.slots.size) 31))])) := c2.trans (by
    refine X0.alen hexec hB0 rfl rfl (hb hbytes d2) ?_
    refine XS.isub X0.here hexec rfl (hb hbytes d3) rfl ?_
    refine bipushV X0.here hexec rfl 31 (hb hbytes d4) (by decide) ?_
    refine iushr X0.here hexec rfl (hb hbytes d6) rfl ?_
    refine i2b X0.here hexec rfl (hb hbytes d7) rfl ?_
    exact Steps.refl _)
  have e0 : lo8 (ushr (Int32.ofNat B.slots.size - Int32.ofNat B.slots.size) 31) = 0 := by rw [Int32.sub_self]; decide
  rw [e0] at c3
  exact ⟨s₁, some (.int 0), _, _, _, X0, rfl, rfl, rfl, (fun h => by cases h), ⟨rfl, hh0⟩, fun fs hl => c3.trans (X0.ireturnOut hexec hret rfl (Or.inr (Or.inr (Or.inl rfl))) (hb hbytes d8) hl)⟩
end CodL
/-- the String at a is Latin-1 over a new byte[] (the heap's one new cell): the low bytes of the len chars of A from o on; every cell but a is kept -/
def Got (a : Addr) (D : Cell) (fV fC : Field) (A : Cell) (o len : Nat) (r : Option Value) (s u : State) : Prop := r = none ∧ ∃ D' V : Cell, Blank "java/lang/String" a D' u ∧ Same D D' [fV.slot, fC.slot] ∧ D'.slots[fV.slot]? = some (.ref s.heap.size) ∧ D'.slots[fC.slot]? = some (.int 0) ∧ Arr .byte s.heap.size V u ∧ V.vm = .none ∧ u.vm.findClass "[B" = some V.cls ∧ V.slots.size = len ∧ (∀ j, j < len → V.slots[j]? = some (.int (lo8 (cv A (o + j))))) ∧ (∀ (y : Addr) (c : Cell), y ≠ a → s.heap[y]? = some c → u.heap[y]? = some c) ∧ u.heap.size = s.heap.size + 1
theorem Got.mv {a : Addr} {D A : Cell} {fV fC : Field} {o len : Nat} : ∀ r (U U' V V' : State), U'.heap = U.heap → V.vm.Alike V'.vm → V'.heap = V.heap → Got a D fV fC A o len r U V → Got a D fV fC A o len r U' V' :=
  fun r U U' V V' h1 hal h2 ⟨e0, D', X, a1, a2, a3, a4, a5, a6, a7, a8, a9, a10, a11⟩ => ⟨e0, D', X, a1.mv hal h2, a2, by rw [h1]; exact a3, a4, by rw [h1]; exact a5.mv hal h2, a6, by rw [hal.findClass]; exact a7, a8, a9, by rw [h1, h2]; exact a10, by rw [h1, h2]; exact a11⟩
namespace New4
def yN : MethodName := ⟨"java/lang/String", "<init>", "([CIILjava/lang/Void;)V"⟩
abbrev yB : ByteArray := jdk_42_method_149_code
theorem d0 : decode yB 0 = .ok (.aload_n 0, 1) := by decide +kernel
theorem d1 : decode yB 1 = .ok (.invokespecial 1, 3) := by decide +kernel
theorem d4 : decode yB 4 = .ok (.iload_n 3, 1) := by decide +kernel
theorem d5 : decode yB 5 = .ok (.ifCond (.ne) 22, 3) := by decide +kernel
theorem d27 : decode yB 27 = .ok (.getstatic 38, 3) := by decide +kernel
theorem d30 : decode yB 30 = .ok (.ifCond (.eq) 28, 3) := by decide +kernel
theorem d33 : decode yB 33 = .ok (.aload_n 1, 1) := by decide +kernel
theorem d34 : decode yB 34 = .ok (.iload_n 2, 1) := by decide +kernel
theorem d35 : decode yB 35 = .ok (.iload_n 3, 1) := by decide +kernel
theorem d36 : decode yB 36 = .ok (.invokestatic 177, 3) := by decide +kernel
theorem d39 : decode yB 39 = .ok (.astore 5, 2) := by decide +kernel
theorem d41 : decode yB 41 = .ok (.aload_n 0, 1) := by decide +kernel
theorem d42 : decode yB 42 = .ok (.aload 5, 2) := by decide +kernel
theorem d44 : decode yB 44 = .ok (.iload_n 3, 1) := by decide +kernel
theorem d45 : decode yB 45 = .ok (.invokestatic 47, 3) := by decide +kernel
theorem d48 : decode yB 48 = .ok (.putfield 15, 3) := by decide +kernel
theorem d51 : decode yB 51 = .ok (.aload_n 0, 1) := by decide +kernel
theorem d52 : decode yB 52 = .ok (.aload 5, 2) := by decide +kernel
theorem d54 : decode yB 54 = .ok (.putfield 9, 3) := by decide +kernel
theorem d57 : decode yB 57 = .ok (.return_, 1) := by decide +kernel
def site : List Cond := [.fieldLink "java/lang/String" 38 "java/lang/String" "COMPACT_STRINGS" "Z", Cmp3.tab, CodL.tab, .laysFinal "java/lang/String" "java/lang/String" "value" "[B", .fieldLink "java/lang/String" 9 "java/lang/String" "value" "[B", .laysFinal "java/lang/String" "java/lang/String" "coder" "B", .fieldLink "java/lang/String" 15 "java/lang/String" "coder" "B"] ++ objW "java/lang/String" 1 ++ staticW "java/lang/String" 177 Cmp3.yN ++ staticW "java/lang/String" 47 CodL.yN
def tab : Cond := tabOf yN yB 6 none site
def P (a : Addr) (D : Cell) (fV fC : Field) (b : Addr) (A : Cell) (z : Int32) (o len : Nat) (args : Array Value) (s : State) : Prop := args = #[.ref a, .ref b, .int (Int32.ofNat o), .int (Int32.ofNat len), .null] ∧ Blank "java/lang/String" a D s ∧ Found "java/lang/String" "value" "[B" fV s ∧ Found "java/lang/String" "coder" "B" fC s ∧ Ch b A s ∧ StaticIs s "java/lang/String" "COMPACT_STRINGS" "Z" (.int z) ∧ ¬ z = 0 ∧ 0 < len ∧ o + len ≤ A.slots.size ∧ len ≤ 536870912 ∧ ∀ i, i < len → ¬ 255 < cv A (o + i)
def E (a : Addr) (D : Cell) (fV fC : Field) (A : Cell) (o len : Nat) (r : Option Value) (s u : State) : Prop := Got a D fV fC A o len r s u
/-- len > 0, no char of the range above 255: a Latin-1 String of their low bytes -/
theorem law (l : Launch) (a : Addr) (D : Cell) (fV fC : Field) (b : Addr) (A : Cell) (z : Int32) (o len : Nat) : Law l yN 5 4 2 35 yB 6 none site (P a D fV fC b A z o len) (E a D fV fC A o len) [⟨a, fC.slot⟩, ⟨a, fV.slot⟩] 1 len := by
  refine Law.of_walk (plainFor_of_name (by decide +kernel)) (by decide +kernel) (by decide +kernel) (by decide) (fun _ _ h => by rw [h.1]; rfl) (fun _ U U' hal hh h => ⟨h.1, h.2.1.mv hal hh, h.2.2.1.al hal, h.2.2.2.1.al hal, h.2.2.2.2.1.mv hal hh, h.2.2.2.2.2.1.there hal hh, h.2.2.2.2.2.2⟩) (fun r U U' V V' h1 hal h2 h => Got.mv r U U' V V' h1 hal h2 h) ?_
  intro p e s m args below meth c s₁ X0 hexec hbytes hml hret hlk hnm hown hh0 W hP
  obtain ⟨rfl, hB, f1, f2, hA, s1, hz, l0, l1, l2, hp⟩ := hP
  have a31 := hA.1.2.2.2
  have c1 : Steps p.tables e below (s₁.setTop (entryFrame m #[.ref a, .ref b, .int (Int32.ofNat o), .int (Int32.ofNat len), .null] 6)) (s₁.setTop (mkF m 0 #[.val (.ref a), .val (.ref b), .val (.int (Int32.ofNat o)), .val (.int (Int32.ofNat len)), .val .null, .unset] [])) := entry rfl
  have c2 : Steps p.tables e below (s₁.setTop (entryFrame m #[.ref a, .ref b, .int (Int32.ofNat o), .int (Int32.ofNat len), .null] 6)) (s₁.setTop (mkF m 1 #[.val (.ref a), .val (.ref b), .val (.int (Int32.ofNat o)), .val (.int (Int32.ofNat len)), .val .null, .unset] [.ref a])) := c1.trans (by
    refine XS.aloadN X0.here hexec rfl (hb hbytes d0) rfl rfl ?_
    exact Steps.refl _)
  obtain ⟨T3, X3, q3, st3⟩ := X0.oinit hexec hown (wks W (objW "java/lang/String" 1)) (g := (mkF m 1 #[.val (.ref a), .val (.ref b), .val (.int (Int32.ofNat o)), .val (.int (Int32.ofNat len)), .val .null, .unset] [.ref a])) rfl (by rw [hml]; rfl) (rest := []) rfl (hb hbytes d1) (W := 0) (by show 2 * 0 + 0 ≤ _; decide) (Nat.le_of_ble_eq_true rfl) (Nat.le_of_ble_eq_true rfl)
  have hh3 := q3.trans hh0
  have c4 : Steps p.tables e below (s₁.setTop (entryFrame m #[.ref a, .ref b, .int (Int32.ofNat o), .int (Int32.ofNat len), .null] 6)) (T3.setTop (mkF m 27 #[.val (.ref a), .val (.ref b), .val (.int (Int32.ofNat o)), .val (.int (Int32.ofNat len)), .val .null, .unset] [])) := (c2.trans (st3 _ (Steps.refl _))).trans (by
    refine XS.iloadN X3.here hexec rfl (hb hbytes d4) rfl ?_
    refine XS.ifYes X3.here hexec rfl (pc0 := 5) rfl (hb hbytes d5) rfl (i0_ne_t (nz32 (by omega) l0)) (by decide) rfl ?_
    exact Steps.refl _)
  obtain ⟨T5, X5, q5, st5⟩ := X3.sget hexec hown (wk W (.fieldLink "java/lang/String" 38 "java/lang/String" "COMPACT_STRINGS" "Z")) s1 (fun _ _ h => by rw [hh3]; exact h) (g := (mkF m 27 #[.val (.ref a), .val (.ref b), .val (.int (Int32.ofNat o)), .val (.int (Int32.ofNat len)), .val .null, .unset] [])) rfl (hb hbytes d27)
  have hh5 := q5.trans hh3
  have c6 : Steps p.tables e below (s₁.setTop (entryFrame m #[.ref a, .ref b, .int (Int32.ofNat o), .int (Int32.ofNat len), .null] 6)) (T5.setTop (mkF m 30 #[.val (.ref a), .val (.ref b), .val (.int (Int32.ofNat o)), .val (.int (Int32.ofNat len)), .val .null, .unset] [.int z])) := c4.trans (st5 _ (Steps.refl _))
  have c7 : Steps p.tables e below (s₁.setTop (entryFrame m #[.ref a, .ref b, .int (Int32.ofNat o), .int (Int32.ofNat len), .null] 6)) (T5.setTop (mkF m 36 #[.val (.ref a), .val (.ref b), .val (.int (Int32.ofNat o)), .val (.int (Int32.ofNat len)), .val .null, .unset] [.int (Int32.ofNat len), .int (Int32.ofNat o), .ref b])) := c6.trans (by
    refine XS.ifNo X5.here hexec rfl (hb hbytes d30) rfl (i0_eq_f hz) ?_
    refine XS.aloadN X5.here hexec rfl (hb hbytes d33) rfl rfl ?_
    refine XS.iloadN X5.here hexec rfl (hb hbytes d34) rfl ?_
    refine XS.iloadN X5.here hexec rfl (hb hbytes d35) rfl ?_
    exact Steps.refl _)
  obtain ⟨v8, T8, X8, E8, g8⟩ := X5.callS hexec (Cmp3.law l b A o len) hown (wks W (staticW "java/lang/String" 177 Cmp3.yN)) (wk W Cmp3.tab) (W := 0) (Nat.le_of_ble_eq_true rfl) (Nat.le_of_ble_eq_true rfl) (Nat.le_refl _) (by show 0 + len ≤ len; omega) (g := (mkF m 36 #[.val (.ref a), .val (.ref b), .val (.int (Int32.ofNat o)), .val (.int (Int32.ofNat len)), .val .null, .unset] [.int (Int32.ofNat len), .int (Int32.ofNat o), .ref b])) rfl (by rw [hml]; rfl) c7 (argsL := [.ref b, .int (Int32.ofNat o), .int (Int32.ofNat len)]) (rest := []) rfl rfl (by show 2 * 0 + 0 ≤ _; decide) (hb hbytes d36) (⟨rfl, hA.mv X5.warmed.alike hh5, l1, l2, hp⟩)
  obtain ⟨e8, z8⟩ := E8
  obtain ⟨rfl, N, n1, n2, n3, n4, n5, n6⟩ := NewArr.mv _ T5 s _ _ hh5.symm (Vm.Alike.refl _) rfl e8
  rw [hh5] at z8
  have hB1 := hB.keep X8.warmed.alike (n6 _ _ hB.1)
  have hne : s.heap.size ≠ a := (Nat.ne_of_lt (Array.getElem?_eq_some_iff.mp hB.1).1).symm
  have c9 : Steps p.tables e below (s₁.setTop (entryFrame m #[.ref a, .ref b, .int (Int32.ofNat o), .int (Int32.ofNat len), .null] 6)) (T8.setTop (mkF m 39 #[.val (.ref a), .val (.ref b), .val (.int (Int32.ofNat o)), .val (.int (Int32.ofNat len)), .val .null, .unset] [.ref s.heap.size])) := g8
  have c10 : Steps p.tables e below (s₁.setTop (entryFrame m #[.ref a, .ref b, .int (Int32.ofNat o), .int (Int32.ofNat len), .null] 6)) (T8.setTop (mkF m 45 #[.val (.ref a), .val (.ref b), .val (.int (Int32.ofNat o)), .val (.int (Int32.ofNat len)), .val .null, .val (.ref s.heap.size)] [.int (Int32.ofNat N.slots.size), .ref s.heap.size, .ref a])) := by
    have hc : Steps p.tables e below (s₁.setTop (entryFrame m #[.ref a, .ref b, .int (Int32.ofNat o), .int (Int32.ofNat len), .null] 6)) (T8.setTop (mkF m 45 #[.val (.ref a), .val (.ref b), .val (.int (Int32.ofNat o)), .val (.int (Int32.ofNat len)), .val .null, .val (.ref s.heap.size)] [.int (Int32.ofNat len), .ref s.heap.size, .ref a])) := c9.trans (by
      refine XS.astore X8.here hexec rfl (hb hbytes d39) rfl rfl rfl ?_
      refine XS.aloadN X8.here hexec rfl (hb hbytes d41) rfl rfl ?_
      refine XS.aload X8.here hexec rfl (hb hbytes d42) rfl rfl ?_
      refine XS.iloadN X8.here hexec rfl (hb hbytes d44) rfl ?_
      exact Steps.refl _)
    rw [n4]; exact hc
  obtain ⟨v11, T11, X11, E11, g11⟩ := X8.callS hexec (CodL.law l s.heap.size N) hown (wks W (staticW "java/lang/String" 47 CodL.yN)) (wk W CodL.tab) (W := 1) (Nat.le_of_ble_eq_true rfl) (Nat.le_of_ble_eq_true rfl) (Nat.le_refl _) (by show 0 + len + 0 ≤ len; omega) (g := (mkF m 45 #[.val (.ref a), .val (.ref b), .val (.int (Int32.ofNat o)), .val (.int (Int32.ofNat len)), .val .null, .val (.ref s.heap.size)] [.int (Int32.ofNat N.slots.size), .ref s.heap.size, .ref a])) rfl (by rw [hml]; rfl) c10 (argsL := [.ref s.heap.size, .int (Int32.ofNat N.slots.size)]) (rest := [.ref a]) rfl rfl (by show 2 * 0 + (1 + 0) ≤ _; decide) (hb hbytes d45) (⟨rfl, n1⟩)
  obtain ⟨rfl, q11⟩ := E11
  have hB11 := hB1.mv (X8.warmed.alike.symm.trans X11.warmed.alike) q11
  have c12 : Steps p.tables e below (s₁.setTop (entryFrame m #[.ref a, .ref b, .int (Int32.ofNat o), .int (Int32.ofNat len), .null] 6)) (T11.setTop (mkF m 48 #[.val (.ref a), .val (.ref b), .val (.int (Int32.ofNat o)), .val (.int (Int32.ofNat len)), .val .null, .val (.ref s.heap.size)] [.int 0, .ref a])) := g11
  obtain ⟨T13, X13, p13, bl13, sl13, st13⟩ := X11.finit hexec hown (wk W (.fieldLink "java/lang/String" 15 "java/lang/String" "coder" "B")) (Or.inr ⟨_, (wk W (.laysFinal "java/lang/String" "java/lang/String" "coder" "B"))⟩) (Or.inl ⟨rfl, hnm⟩) f2 (Or.inl rfl) hB11 (t := .byte) (by decide +kernel) rfl (g := (mkF m 48 #[.val (.ref a), .val (.ref b), .val (.int (Int32.ofNat o)), .val (.int (Int32.ofNat len)), .val .null, .val (.ref s.heap.size)] [.int 0, .ref a])) rfl (rest := []) rfl (hb hbytes d48)
  have c14 : Steps p.tables e below (s₁.setTop (entryFrame m #[.ref a, .ref b, .int (Int32.ofNat o), .int (Int32.ofNat len), .null] 6)) (T13.setTop (mkF m 54 #[.val (.ref a), .val (.ref b), .val (.int (Int32.ofNat o)), .val (.int (Int32.ofNat len)), .val .null, .val (.ref s.heap.size)] [.ref s.heap.size, .ref a])) := (c12.trans (st13 _ (Steps.refl _))).trans (by
    refine XS.aloadN X13.here hexec rfl (hb hbytes d51) rfl rfl ?_
    refine XS.aload X13.here hexec rfl (hb hbytes d52) rfl rfl ?_
    exact Steps.refl _)
  obtain ⟨T15, X15, p15, bl15, sl15, st15⟩ := X13.finit hexec hown (wk W (.fieldLink "java/lang/String" 9 "java/lang/String" "value" "[B")) (Or.inr ⟨_, (wk W (.laysFinal "java/lang/String" "java/lang/String" "value" "[B"))⟩) (Or.inl ⟨rfl, hnm⟩) f1 (Or.inl rfl) bl13 (t := (.array .byte)) (by decide +kernel) rfl (g := (mkF m 54 #[.val (.ref a), .val (.ref b), .val (.int (Int32.ofNat o)), .val (.int (Int32.ofNat len)), .val .null, .val (.ref s.heap.size)] [.ref s.heap.size, .ref a])) rfl (rest := []) rfl (hb hbytes d54)
  have c16 : Steps p.tables e below (s₁.setTop (entryFrame m #[.ref a, .ref b, .int (Int32.ofNat o), .int (Int32.ofNat len), .null] 6)) (T15.setTop (mkF m 57 #[.val (.ref a), .val (.ref b), .val (.int (Int32.ofNat o)), .val (.int (Int32.ofNat len)), .val .null, .val (.ref s.heap.size)] [])) := c14.trans (st15 _ (Steps.refl _))
  have ap := apart (Or.inr ⟨_, (wk W (.laysFinal "java/lang/String" "java/lang/String" "value" "[B"))⟩) (Or.inr ⟨_, (wk W (.laysFinal "java/lang/String" "java/lang/String" "coder" "B"))⟩) f1 f2 (t₁ := .array .byte) (t₂ := .byte) (by decide +kernel) (by decide +kernel) (by decide)
  have al := X8.warmed.alike.symm.trans X15.warmed.alike
  have n7 : T11.heap[s.heap.size]? = some N := by rw [q11]; exact n1.1
  exact ⟨T15, none, _, _, _, X15, by simp, rfl, by omega, (fun _ => rfl), ⟨rfl, _, N, bl15, ((Same.refl D _).set _ (by simp)).set _ (by simp), sl15, (Cell.slots_setSlot_ne _ ap).trans sl13, n1.keep al (p15.other hne (p13.other hne n7)), n2, by rw [al.findClass]; exact n3, n4, n5, fun y c h1 h2 => p15.other h1 (p13.other h1 (by rw [q11]; exact n6 y c h2)), by rw [p15.2.2, p13.2.2, q11]; exact z8⟩, fun fs hl => c16.trans (X15.returnOut hexec hret (hb hbytes d57) hl)⟩
end New4
namespace New1
def yN : MethodName := ⟨"java/lang/String", "<init>", "([C)V"⟩
abbrev yB : ByteArray := jdk_42_method_3_code
theorem d0 : decode yB 0 = .ok (.aload_n 0, 1) := by decide +kernel
theorem d1 : decode yB 1 = .ok (.aload_n 1, 1) := by decide +kernel
theorem d2 : decode yB 2 = .ok (.iconst 0, 1) := by decide +kernel
theorem d3 : decode yB 3 = .ok (.aload_n 1, 1) := by decide +kernel
theorem d4 : decode yB 4 = .ok (.arraylength, 1) := by decide +kernel
theorem d5 : decode yB 5 = .ok (.aconst_null, 1) := by decide +kernel
theorem d6 : decode yB 6 = .ok (.invokespecial 27, 3) := by decide +kernel
theorem d9 : decode yB 9 = .ok (.return_, 1) := by decide +kernel
def site : List Cond := [New4.tab] ++ initW "java/lang/String" 27 New4.yN
def tab : Cond := tabOf yN yB 2 none site
def P (a : Addr) (D : Cell) (fV fC : Field) (b : Addr) (A : Cell) (z : Int32) (args : Array Value) (s : State) : Prop := args = #[.ref a, .ref b] ∧ Blank "java/lang/String" a D s ∧ Found "java/lang/String" "value" "[B" fV s ∧ Found "java/lang/String" "coder" "B" fC s ∧ Ch b A s ∧ StaticIs s "java/lang/String" "COMPACT_STRINGS" "Z" (.int z) ∧ ¬ z = 0 ∧ 0 < A.slots.size ∧ A.slots.size ≤ 536870912 ∧ ∀ i, i < A.slots.size → ¬ 255 < cv A i
def E (a : Addr) (D : Cell) (fV fC : Field) (A : Cell) (r : Option Value) (s u : State) : Prop := Got a D fV fC A 0 A.slots.size r s u
/-- new String(chars), not empty, no char above 255: a Latin-1 String of their low bytes -/
theorem law (l : Launch) (a : Addr) (D : Cell) (fV fC : Field) (b : Addr) (A : Cell) (z : Int32) : Law l yN 2 1 3 52 yB 2 none site (P a D fV fC b A z) (E a D fV fC A) [⟨a, fC.slot⟩, ⟨a, fV.slot⟩] 1 A.slots.size := by
  refine Law.of_walk (plainFor_of_name (by decide +kernel)) (by decide +kernel) (by decide +kernel) (by decide) (fun _ _ h => by rw [h.1]; rfl) (fun _ U U' hal hh h => ⟨h.1, h.2.1.mv hal hh, h.2.2.1.al hal, h.2.2.2.1.al hal, h.2.2.2.2.1.mv hal hh, h.2.2.2.2.2.1.there hal hh, h.2.2.2.2.2.2⟩) (fun r U U' V V' h1 hal h2 h => Got.mv r U U' V V' h1 hal h2 h) ?_
  intro p e s m args below meth c s₁ X0 hexec hbytes hml hret hlk hnm hown hh0 W hP
  obtain ⟨rfl, hB, f1, f2, hA, s1, hz, l0, l2, hp⟩ := hP
  have c1 : Steps p.tables e below (s₁.setTop (entryFrame m #[.ref a, .ref b] 2)) (s₁.setTop (mkF m 0 #[.val (.ref a), .val (.ref b)] [])) := entry rfl
  have c2 : Steps p.tables e below (s₁.setTop (entryFrame m #[.ref a, .ref b] 2)) (s₁.setTop (mkF m 6 #[.val (.ref a), .val (.ref b)] [.null, .int (Int32.ofNat A.slots.size), .int 0, .ref b, .ref a])) := c1.trans (by
    refine XS.aloadN X0.here hexec rfl (hb hbytes d0) rfl rfl ?_
    refine XS.aloadN X0.here hexec rfl (hb hbytes d1) rfl rfl ?_
    refine iconstV X0.here hexec rfl 0 (hb hbytes d2) (by decide) ?_
    refine XS.aloadN X0.here hexec rfl (hb hbytes d3) rfl rfl ?_
    refine X0.alen hexec (hA.1.mv X0.warmed.alike hh0) rfl rfl (hb hbytes d4) ?_
    refine XS.aconstNull X0.here hexec rfl (hb hbytes d5) ?_
    exact Steps.refl _)
  obtain ⟨v3, T3, X3, E3, g3⟩ := X0.callN hexec (New4.law l a D fV fC b A z 0 A.slots.size) rfl hown (wks W (initW "java/lang/String" 27 New4.yN)) (W New4.tab (by simp only [site, List.mem_cons, List.mem_append, true_or, or_true])) (W := 0) (Nat.le_of_ble_eq_true rfl) (Nat.le_of_ble_eq_true rfl) (Nat.le_refl _) (by show 0 + A.slots.size ≤ A.slots.size; omega) (g := (mkF m 6 #[.val (.ref a), .val (.ref b)] [.null, .int (Int32.ofNat A.slots.size), .int (Int32.ofNat 0), .ref b, .ref a])) rfl (by rw [hml]; rfl) c2 (argsL := [.ref b, .int (Int32.ofNat 0), .int (Int32.ofNat A.slots.size), .null]) (rest := []) rfl rfl (by show 2 * 0 + 0 ≤ _; decide) (hb hbytes d6) (⟨rfl, hB.mv X0.warmed.alike hh0, f1.al X0.warmed.alike, f2.al X0.warmed.alike, hA.mv X0.warmed.alike hh0, s1.there X0.warmed.alike hh0, hz, l0, by omega, l2, fun i hi => by rw [Nat.zero_add]; exact hp i hi⟩)
  have e0 := Got.mv _ s₁ s _ _ hh0.symm (Vm.Alike.refl _) rfl E3
  obtain rfl := e0.1
  have c4 : Steps p.tables e below (s₁.setTop (entryFrame m #[.ref a, .ref b] 2)) (T3.setTop (mkF m 9 #[.val (.ref a), .val (.ref b)] [])) := g3
  exact ⟨T3, none, _, _, _, X3, by simp, rfl, by omega, (fun _ => rfl), e0, fun fs hl => c4.trans (X3.returnOut hexec hret (hb hbytes d9) hl)⟩
theorem pays {l : Launch} {R : Room} {p : Program} {e : Env} {below : List Frame} {s : State} {sargs : Array Value} {len W : Nat} (a : Addr) (D : Cell) (fV fC : Field) (b : Addr) (A : Cell) (z : Int32) (htab : tab.before sargs s = true) (hfr : 4 ≤ R.frames) (hlo : W + 65 ≤ R.locals) :
    Back l R p e below s sargs yN len W (fun A₁ a₁ => A₁.cells + 1 ≤ R.cells ∧ A₁.slots + A.slots.size ≤ R.slots ∧ P a D fV fC b A z a₁ A₁.U) (fun A₁ _ v₁ B₁ => E a D fV fC A v₁ A₁.U B₁.U ∧ B₁.locs = A₁.locs ++ [⟨a, fC.slot⟩, ⟨a, fV.slot⟩] ∧ B₁.cells = A₁.cells + 1 ∧ B₁.slots = A₁.slots + A.slots.size) :=
  (law l a D fV fC b A z).pays htab hfr (by omega)
end New1
end StrChars
namespace StrChars.Road
open Jvm Sem ClassFile Op Lib Jvm.Stand Jvm.Free Jvm.Free.XT
open Jvm.Lib.Cold (StaticIs)
abbrev ST : String := "java/lang/String"
/-- every table word that New1's law asks, flat -/
abbrev words : List Jvm.Cond := [.code New1.yN New1.yB 2 none, .initialized ST, .methodLink ST 27 New4.yN, .instanceMethod New4.yN,
  .code New4.yN New4.yB 6 none, .fieldLink ST 38 ST "COMPACT_STRINGS" "Z", .laysFinal ST ST "value" "[B", .fieldLink ST 9 ST "value" "[B", .laysFinal ST ST "coder" "B", .fieldLink ST 15 ST "coder" "B",
  .methodLink ST 1 Lib.objectInit, .instanceMethod Lib.objectInit, .code Lib.objectInit ⟨#[0xb1]⟩ 1 none, .methodLink ST 177 Cmp3.yN, .static Cmp3.yN, .methodLink ST 47 CodL.yN, .static CodL.yN,
  .code Cmp3.yN Cmp3.yB 6 (some (.array .byte)), .initialized U16, .arrayClass .byte, .methodLink U16 115 Cmp5.yN, .static Cmp5.yN, .code Cmp5.yN Cmp5.yB 7 (some .int), .code CodL.yN CodL.yB 2 (some .byte)]
theorem tab_of {a : Array Value} {s : State} (h : ∀ w ∈ words, w.before a s = true) : New1.tab.before a s = true := by
  have h5 : Cmp5.tab.before a s = true := unparts (wk h (.code Cmp5.yN Cmp5.yB 7 (some .int))) (wks h (.initialized Cmp5.yN.cls :: Cmp5.site))
  have hc : CodL.tab.before a s = true := unparts (wk h (.code CodL.yN CodL.yB 2 (some .byte))) (wks h (.initialized CodL.yN.cls :: CodL.site))
  have q5 : ∀ w ∈ Cmp5.tab :: words, w.before a s = true := fun w hw => (List.mem_cons.mp hw).elim (fun e => e ▸ h5) (h w)
  have h3 : Cmp3.tab.before a s = true := unparts (wk q5 (.code Cmp3.yN Cmp3.yB 6 (some (.array .byte)))) (wks q5 (.initialized Cmp3.yN.cls :: Cmp3.site))
  have q3 : ∀ w ∈ Cmp3.tab :: CodL.tab :: words, w.before a s = true := fun w hw => (List.mem_cons.mp hw).elim (fun e => e ▸ h3) fun hw => (List.mem_cons.mp hw).elim (fun e => e ▸ hc) (h w)
  have h4 : New4.tab.before a s = true := unparts (wk q3 (.code New4.yN New4.yB 6 none)) (wks q3 (.initialized New4.yN.cls :: New4.site))
  have q4 : ∀ w ∈ New4.tab :: words, w.before a s = true := fun w hw => (List.mem_cons.mp hw).elim (fun e => e ▸ h4) (h w)
  exact unparts (wk q4 (.code New1.yN New1.yB 2 none)) (wks q4 (.initialized New1.yN.cls :: New1.site))
/-- the words ride from the start Z to the walk's own state -/
theorem moved {Z s : State} {a0 args : Array Value} (hZ : Z.Warmed39 s.vm) (hw : ∀ d ∈ words, d.before a0 Z = true) : ∀ d ∈ words, d.before args s = true := fun d hd => by
  have q := hw d hd
  have t : ∀ d ∈ words, d = .arrayClass .byte ∨ (d.onTables && d.keepsFace) = true := by decide +kernel
  rcases t d hd with rfl | t
  · exact RoadKit.mvA hZ q
  · exact RoadKit.mv hZ q t
/-- WHAT COMES BACK, over the tables of the start Z: h the heap at the call, h' behind it -/
def Q (Z : State) (x : Addr) (A : Cell) (h : Heap) (v : Option Value) (h' : Heap) (L : List Loc) : Prop := v = none ∧ (∀ y ∈ L, y.base = x) ∧ RoadKit.Keep h h' [x] ∧ h'.size = h.size + 1 ∧ RoadKit.Exa Z h' x ST ∧ RoadKit.Fld Z h' x ST "value" "[B" (.ref h.size) ∧ RoadKit.Fld Z h' x ST "coder" "B" (.int 0) ∧
  (∃ V : Cell, RoadKit.Arr Z h' h.size V .byte ∧ V.vm = .none ∧ Z.vm.findClass "[B" = some V.cls ∧ V.slots.size = A.slots.size ∧ ∀ j, j < A.slots.size → V.slots[j]? = some (.int (lo8 (cv A j)))) ∧
  ∀ (O n d : String) (w : Value), RoadKit.Fld Z h x O n d w → RoadKit.slotOf Z O n d ≠ RoadKit.slotOf Z ST "value" "[B" → RoadKit.slotOf Z O n d ≠ RoadKit.slotOf Z ST "coder" "B" → RoadKit.Fld Z h' x O n d w
/-- **new String(chars) AT A CALL, IN THE ROAD'S FORM**: for specialBack behind newO: x the fresh String, b the char[] with the cell A -/
theorem back {p : Program} {l : Launch} {e : Env} {R : Room} {s : State} {args : Array Value} {below : List Frame} {len W : Nat} {Z : State} {a0 : Array Value} {h : Heap} (hZ : Z.Warmed39 s.vm) (hw : ∀ d ∈ words, d.before a0 Z = true) {kI : Nat} (wi : (Jvm.Cond.instantiable ST kI).before a0 Z = true)
    {x b : Addr} {A : Cell} {z : Int32} {v0 c0 : Value} (E : RoadKit.Exa Z h x ST) (V : RoadKit.Fld Z h x ST "value" "[B" v0) (C : RoadKit.Fld Z h x ST "coder" "B" c0) (K : RoadKit.Arr Z h b A .char) (hty : Typed .char A) (S : RoadKit.Sta Z h ST "COMPACT_STRINGS" "Z" (.int z)) (hz : ¬ z = 0)
    (l0 : 0 < A.slots.size) (l2 : A.slots.size ≤ 536870912) (hp : ∀ i, i < A.slots.size → ¬ 255 < cv A i) (hfr : 4 ≤ R.frames) (hlo : W + 65 ≤ R.locals) :
    Back l R p e below s args New1.yN len W (fun P a => a = #[.ref x, .ref b] ∧ P.U.heap = h ∧ P.cells + 1 ≤ R.cells ∧ P.slots + A.slots.size ≤ R.slots)
      (fun P _ v B => ∃ L, Q Z x A h v B.U.heap L ∧ B.locs = P.locs ++ L ∧ B.cells = P.cells + 1 ∧ B.slots = P.slots + A.slots.size) := by
  intro m meth c P g ig mk a X hg hsize hdg hW hn hp'
  obtain ⟨rfl, rfl, r1, r2⟩ := hp'
  have al : Z.vm.Alike P.U.vm := hZ.alike.trans X.warmed.alike
  obtain ⟨D, cfV, kV, iV, fV, hD, gV, stV, knV, obV, asV, slV⟩ := id V
  obtain ⟨D', cfC, kC, iC, fC, hD', gC, stC, -, -, asC, slC⟩ := id C
  cases hD.symm.trans hD'
  obtain ⟨D2, kD, e1, e2, e3, e4, e5⟩ := id E
  cases hD.symm.trans e1
  obtain ⟨c2, k2, i1, i2, i3, -⟩ := Cond.instantiable_spec wi
  cases e2.symm.trans i1
  cases e3.symm.trans i2
  obtain ⟨kU, u1, u2⟩ := al.2.2 _ _ e3
  have hB : Blank ST x D P.U := ⟨hD, ⟨knV, fun q hq => by rw [hq] at obV; cases obV⟩, by rw [al.findClass]; exact e2, kU, u1, by rw [u2]; exact i3, by rw [u2]; exact e5 i3⟩
  have F1 : Found ST "value" "[B" fV P.U := ⟨SBG.found_only al ⟨cfV, kV, iV, gV⟩, stV⟩
  have F2 : Found ST "coder" "B" fC P.U := ⟨SBG.found_only al ⟨cfC, kC, iC, gC⟩, stC⟩
  have hA : Ch b A P.U := ⟨⟨K.1, State.isArrayOf_alike al K.2.1, K.2.2, by omega⟩, hty⟩
  have hS : StaticIs P.U ST "COMPACT_STRINGS" "Z" (.int z) := by
    obtain ⟨cfS, iS, kS, fS, st, cS, t1, t2, t3, t4, t5, t6, t7⟩ := S
    exact StaticIs.there (s := { Z with heap := P.U.heap }) ⟨cfS, iS, kS, fS, st, cS, t1, t2, t3, t4, t5, (fun q => by rw [q] at t6; cases t6), t7⟩ al rfl
  obtain ⟨v, B, X', ⟨⟨hv, E', V', q1, q2, q3, q4, q5, q6, q7, q8, q9, q10, q11⟩, hl, hc, hs⟩, st⟩ := New1.pays x D fV fC b A z (tab_of (moved hZ hw)) hfr hlo m meth c P g ig mk _ X hg hsize hdg hW hn ⟨r1, r2, rfl, hB, F1, F2, hA, hS, hz, l0, l2, hp⟩
  have al' : Z.vm.Alike B.U.vm := hZ.alike.trans X'.warmed.alike
  have hsz : E'.slots.size = D.slots.size := by
    obtain ⟨-, -, -, kB, w1, w2, w3⟩ := q1
    obtain ⟨kB', y1, y2⟩ := al'.2.2 _ _ e3
    rw [q2.2.1] at w1
    cases w1.symm.trans y1
    rw [w3, e5 i3, y2]
  refine ⟨v, B, X', ⟨_, ⟨hv, ?_, ⟨by omega, fun y cy hy hn' => q10 y cy (by simpa using hn') hy, fun y cy hy => ?_⟩, q11, ⟨E', _, q1.1, by rw [q2.2.1]; exact e2, by rw [q2.2.1]; exact e3, by rw [q2.1]; exact obV, fun _ => by rw [hsz]; exact e5 i3⟩,
    ⟨E', cfV, kV, iV, fV, q1.1, gV, stV, by rw [q2.1]; exact knV, by rw [q2.1]; exact obV, by rw [q2.2.1]; exact asV, q3⟩, ⟨E', cfC, kC, iC, fC, q1.1, gC, stC, by rw [q2.1]; exact knV, by rw [q2.1]; exact obV, by rw [q2.2.1]; exact asC, q4⟩,
    ⟨V', ⟨q5.1, State.isArrayOf_alike al'.symm q5.2.1, q5.2.2.1⟩, q6, by rw [← al'.findClass]; exact q7, q8, fun j hj => by have := q9 j hj; rwa [Nat.zero_add] at this⟩, fun O n d w F n1 n2 => ?_⟩, hl, hc, hs⟩, st⟩
  · intro y hy
    simp only [List.mem_cons, List.not_mem_nil, or_false] at hy
    rcases hy with rfl | rfl <;> rfl
  · by_cases q : y = x
    · subst q
      cases hD.symm.trans hy
      exact ⟨E', q1.1, q2.2.1, q2.1, hsz⟩
    · exact ⟨cy, q10 y cy q hy, rfl, rfl, rfl⟩
  · obtain ⟨D3, cf, k, i, f, g1, g2, g3, g4, g5, g6, g7⟩ := F
    cases hD.symm.trans g1
    simp only [RoadKit.slotOf, g2, gV, gC, Option.map_some, Option.getD_some] at n1 n2
    exact ⟨E', cf, k, i, f, q1.1, g2, g3, by rw [q2.1]; exact g4, by rw [q2.1]; exact g5, by rw [q2.2.1]; exact g6, by rw [q2.2.2 f.slot (by simp [n1, n2])]; exact g7⟩
end StrChars.Road
namespace StrChars.Road
open Jvm Sem ClassFile Op Lib Jvm.Stand Jvm.Free Jvm.Free.XT
/-- WHAT COMES BACK, the byte[] as a list of values -/
def QA (Z : State) (x : Addr) (zn : Int32) (cs : List Int32) (h : Heap) (v : Option Value) (h' : Heap) (L : List Loc) : Prop := v = none ∧ (∀ y ∈ L, y.base = x) ∧ RoadKit.Keep h h' [x] ∧ h'.size = h.size + 1 ∧ RoadKit.Exa Z h' x ST ∧ RoadKit.Fld Z h' x ST "value" "[B" (.ref h.size) ∧ RoadKit.Fld Z h' x ST "coder" "B" (.int 0) ∧
  (∃ kb, Z.vm.findClass "[B" = some kb ∧ RoadKit.Arv Z h' h.size kb .byte zn (cs.map fun c => .int (lo8 c)) (.int 0)) ∧
  ∀ (O n d : String) (w : Value), RoadKit.Fld Z h x O n d w → RoadKit.slotOf Z O n d ≠ RoadKit.slotOf Z ST "value" "[B" → RoadKit.slotOf Z O n d ≠ RoadKit.slotOf Z ST "coder" "B" → RoadKit.Fld Z h' x O n d w
/-- **new String(chars) AT A CALL, THE ARRAYS AS LISTS**: the char[] at b holds cs, not empty, no char above 255 -/
theorem backArv {p : Program} {l : Launch} {e : Env} {R : Room} {s : State} {args : Array Value} {below : List Frame} {len W : Nat} {Z : State} {a0 : Array Value} {h : Heap} (hZ : Z.Warmed39 s.vm) (hw : ∀ d ∈ words, d.before a0 Z = true) {kI : Nat} (wi : (Jvm.Cond.instantiable ST kI).before a0 Z = true)
    {x b : Addr} {k : ClassId} {zn z : Int32} {cs : List Int32} {dv v0 c0 : Value} (E : RoadKit.Exa Z h x ST) (V : RoadKit.Fld Z h x ST "value" "[B" v0) (C : RoadKit.Fld Z h x ST "coder" "B" c0) (K : RoadKit.Arv Z h b k .char zn (cs.map Value.int) dv) (S : RoadKit.Sta Z h ST "COMPACT_STRINGS" "Z" (.int z)) (hz : ¬ z = 0)
    (hlen : zn.toNatClampNeg = cs.length) (h0 : 0 < cs.length) (hbig : cs.length ≤ 536870912) (hall : ∀ c ∈ cs, ¬ 255 < c) (hfr : 4 ≤ R.frames) (hlo : W + 65 ≤ R.locals) :
    Back l R p e below s args New1.yN len W (fun P a => a = #[.ref x, .ref b] ∧ P.U.heap = h ∧ P.cells + 1 ≤ R.cells ∧ P.slots + cs.length ≤ R.slots)
      (fun P _ v B => ∃ L, QA Z x zn cs h v B.U.heap L ∧ B.locs = P.locs ++ L ∧ B.cells = P.cells + 1 ∧ B.slots = P.slots + cs.length) := by
  obtain ⟨A, K1, K2, K3, K4, K5, K6⟩ := K
  have e : A.slots.size = cs.length := K3.trans hlen
  have hat : ∀ (i : Nat) (hi : i < cs.length), A.slots[i]? = some (.int cs[i]) := fun i hi => by rw [K5 i (by omega)]; simp [List.getD_eq_getElem?_getD, hi]
  have hcv : ∀ (i : Nat) (hi : i < cs.length), cv A i = cs[i] := fun i hi => by unfold cv; rw [hat i hi]
  have hty : Typed .char A := fun i v hv => by
    have hi : i < A.slots.size := (Array.getElem?_eq_some_iff.mp hv).1
    have q := K5 i hi
    rw [hv] at q
    rw [Option.some.inj q]
    exact K6 i hi
  refine Back.mono (back hZ hw wi E V C K1 hty S hz (by omega) (by omega) (fun i hi => by rw [hcv i (by omega)]; exact hall _ (List.getElem_mem _)) hfr hlo) (fun P a hp => ⟨hp.1, hp.2.1, hp.2.2.1, by rw [e]; exact hp.2.2.2⟩) (fun P a v B hp hq => ?_)
  obtain ⟨L, ⟨q1, q2, q3, q4, q5, q6, q7, ⟨V', v1, v2, v3, v4, v5⟩, q9⟩, hl, hc, hs⟩ := hq
  refine ⟨L, ⟨q1, q2, q3, q4, q5, q6, q7, ⟨V'.cls, v3, V', v1, rfl, by rw [v4, e, hlen], K4, fun i hi => ?_, fun i hi => ?_⟩, q9⟩, hl, hc, by rw [hs, e]⟩
  · have hi' : i < cs.length := by omega
    rw [v5 i (by omega), hcv i hi']; simp [List.getD_eq_getElem?_getD, hi']
  · have hi' : i < cs.length := by omega
    simp only [List.getD_eq_getElem?_getD, List.getElem?_map, List.getElem?_eq_getElem hi', Option.map_some, Option.getD_some]
    exact fits_lo8 _
end StrChars.Road
namespace StrChars.Road
open Jvm Sem ClassFile Op Lib Jvm.Stand Jvm.Free Jvm.Free.XT
/-- WHAT COMES BACK, in the writer's own shape -/
def QV (Z : State) (x : Addr) (N : Int32) (bs : List Int32) (h : Heap) (n0 : Nat) (v : Option Value) (h' : Heap) (L : List Loc) : Prop := v = none ∧ RoadKit.Fr n0 L ∧ RoadKit.Keep h h' [x] ∧ RoadKit.Exa Z h' x ST ∧ RoadKit.Fld Z h' x ST "coder" "B" (.int 0) ∧
  ∃ (t : Addr) (kb : ClassId), n0 ≤ t ∧ h.size ≤ t ∧ ¬ t = x ∧ RoadKit.Fld Z h' x ST "value" "[B" (.ref t) ∧ RoadKit.Arv Z h' t kb .byte N (bs.map Value.int) (.int 0)
/-- **new String(chars) AT A CALL, FOR THE WRITER**: a char[] of n known ints, each 0 to 255 -/
theorem backV {p : Program} {l : Launch} {e : Env} {R : Room} {s : State} {args : Array Value} {below : List Frame} {len W : Nat} {Z : State} {a0 : Array Value} {h : Heap} (hZ : Z.Warmed39 s.vm) (hw : ∀ d ∈ words, d.before a0 Z = true) {kI : Nat} (wi : (Jvm.Cond.instantiable ST kI).before a0 Z = true)
    {x b : Addr} {kC : ClassId} {cs bs : List Int32} {d v0 c0 : Value} {z N : Int32} {n n0 : Nat} (hx0 : n0 ≤ x) (hh0 : n0 ≤ h.size) (E : RoadKit.Exa Z h x ST) (V : RoadKit.Fld Z h x ST "value" "[B" v0) (C : RoadKit.Fld Z h x ST "coder" "B" c0) (K : RoadKit.Arv Z h b kC .char N (cs.map Value.int) d) (S : RoadKit.Sta Z h ST "COMPACT_STRINGS" "Z" (.int z)) (hz : ¬ z = 0)
    (hn : cs.length = n) (hN : N = Int32.ofNat n) (l0 : 0 < n) (l2 : n ≤ 4000) (hp : ∀ c ∈ cs, ¬ c < 0 ∧ ¬ (255 : Int32) < c) (hb : bs = cs.map (fun c => c.toInt8.toInt32)) (hfr : 4 ≤ R.frames) (hlo : W + 65 ≤ R.locals) :
    Back l R p e below s args (⟨"java/lang/String", "<init>", "([C)V"⟩ : MethodName) len W (fun P a => a = #[.ref x, .ref b] ∧ P.U.heap = h ∧ P.cells + 1 ≤ R.cells ∧ P.slots + n ≤ R.slots)
      (fun P _ v B => ∃ L, QV Z x N bs h n0 v B.U.heap L ∧ B.locs = P.locs ++ L ∧ B.cells = P.cells + 1 ∧ B.slots = P.slots + n) := by
  subst hn hN hb
  refine Back.mono (backArv hZ hw wi E V C K S hz (n32 (by omega)) l0 (by omega) (fun c hc => (hp c hc).2) hfr hlo) (fun P a hp => hp) (fun P a v B hp hq => ?_)
  obtain ⟨L, ⟨q1, q2, q3, q4, q5, q6, q7, ⟨kb, v1, v2⟩, q9⟩, hl, hc, hs⟩ := hq
  exact ⟨L, ⟨q1, fun y hy => by rw [q2 y hy]; exact hx0, q3, q5, q7, h.size, kb, hh0, Nat.le_refl _, Nat.ne_of_gt E.lt, q6, by rw [List.map_map]; exact v2⟩, hl, hc, hs⟩
end StrChars.Road
end Jvm.Pilot.@@N@@
namespace Jvm.Pilot.@@N@@
open Jvm Jvm.ClassFile Sem Op Lib Jvm.Free Jvm.Stand Jvm.LawKit Jvm.RoadKit Bundle Jvm.Pilot.@@N@@.Jvm.D
def own_Go (tb : Tables) (e : Env) (below : List Frame) (P : State → Prop) (A : State) : Prop := ∃ t, Steps tb e below A t ∧ P t
theorem own_go {tb : Tables} {e : Env} {below : List Frame} {P : State → Prop} {A B : State} (h : ∀ t, Steps tb e below B t → Steps tb e below A t) (g : own_Go tb e below P B) : own_Go tb e below P A := by
  obtain ⟨t, h1, h2⟩ := g
  exact ⟨t, h t h1, h2⟩
theorem own_fin {tb : Tables} {e : Env} {below : List Frame} {A : State} {Qq : Outcome → State → Prop} (g : own_Go tb e below (fun t => ∃ o, t.status = .running ∧ Ended t below o ∧ Qq o t) A) : ∃ t o, Steps tb e below A t ∧ t.status = .running ∧ Ended t below o ∧ Qq o t := by
  obtain ⟨t, h1, o, h2, h3, h4⟩ := g
  exact ⟨t, o, h1, h2, h3, h4⟩
theorem own_ret {tb : Tables} {e : Env} {below : List Frame} {P : State → Prop} {A t : State} (h : Steps tb e below A t) (q : P t) : own_Go tb e below P A := ⟨t, h, q⟩
def own_M (l : Launch) (y : MethodName) (bytes : ByteArray) (maxL : Nat) (ret : Option FieldType) (ws : List Jvm.Cond) (rm : Room) (Z : State) (as : Array Value) (h0 : Heap) (Q : Option Value → Heap → List Loc → Prop) : Prop := MetFree l y (head1 (Jvm.Cond.code y bytes maxL ret :: ws) rm) (fun aR UR => aR = as ∧ Z.Warmed39 UR.vm ∧ UR.heap = h0) (fun _ _ _ _ _ => True) (fun _ UR oR UR' => ∃ vR LR, oR = .returned vR ∧ Q vR UR'.heap LR ∧ FrameEnd UR oR UR' LR rm.cells rm.slots)
theorem own_body {l : Launch} {y : MethodName} {bytes : ByteArray} {maxL : Nat} {ret : Option FieldType} {ws : List Jvm.Cond} {rm : Room} {Z : State} {as : Array Value} {h0 : Heap} {Q : Option Value → Heap → List Loc → Prop} {own : String} {f : MethodId → JFrame} (ho : y.cls = own) (hx : plainFor y = true) (ef : ∀ m, entryFrame m as maxL = f m) (k : ∀ (p : Program) (e : Env) (s : State) (m : MethodId) (below : List Frame) (meth : Method) (c : Code) (s₁ : State), BodyLoose p l y (head1 (Jvm.Cond.code y bytes maxL ret :: ws) rm) bytes maxL ret e s m as below meth c s₁ → c.maxLocals = maxL → Z.Warmed39 s.vm → s.heap = h0 → p.tables.exec = Jvm.exec → c.code = bytes → s.vm.findClass own = some m.cls → Stand p l e rm s m as below meth c s₁ [] 0 0 → s₁.heap = h0 → own_Go p.tables e below (fun t => ∃ o, t.status = .running ∧ Ended t below o ∧ ∃ vR LR, o = .returned vR ∧ Q vR t.heap LR ∧ FrameEnd s o t LR rm.cells rm.slots) (s₁.setTop (f m))) : own_M l y bytes maxL ret ws rm Z as h0 Q := by
  subst ho
  refine MetFree.of_bodySF hx hisR ?_
  intro p e s m args below meth c s₁ Bd hml hP hK
  obtain ⟨rfl, hZ, hh⟩ := hP
  exact own_fin (own_go (fun tT kK => castTop (ef m) kK) (k p e s m below meth c s₁ Bd hml hZ hh Bd.exec Bd.bytes (findClass_of_methodNamed Bd.named) (Stand.of_body Bd) (by rw [← hh, Bd.state]; rfl)))
theorem own_sh {tb : Tables} {e : Env} {below : List Frame} {P : State → Prop} {T : State} {m : MethodId} (pc : Nat) (Ls : Array Slot) (st : List Value) (g : own_Go tb e below P (T.setTop (mkF m pc Ls st))) : own_Go tb e below P (T.setTop (mkF m pc Ls st)) := g
theorem own_nn {a b : Nat} (h : ¬ a = b) : a ≠ b := h
theorem own_w {Z : State} {a0 : Array Value} {tab : List Jvm.Cond} (hw : ∀ d ∈ tab, d.before a0 Z = true) (i : Nat) {d : Jvm.Cond} (h : tab[i]? = some d) : d.before a0 Z = true := hw d (List.mem_of_getElem? h)
theorem own_iloadN {tb : Tables} [Ours tb] {e : Env} {below : List Frame} {T : State} {m : MethodId} {c : Code} {P : State → Prop} {pc : Nat} {Ls : Array Slot} {st : List Value} {bc : ByteArray} (h : At T m c below) (hx : tb.exec = Jvm.exec) (hby : c.code = bc) {k : Fin 4} {v : Int32} (hd : decode bc pc = .ok (.iload_n k, 1)) (hl : Ls[k.val]? = some (.val (.int v))) (g : own_Go tb e below P (T.setTop (mkF m (pc + 1) Ls ((.int v) :: st)))) : own_Go tb e below P (T.setTop (mkF m pc Ls (st))) := own_go (fun t k => XS.iloadN h hx rfl (hb hby hd) hl k) g
theorem own_iload {tb : Tables} [Ours tb] {e : Env} {below : List Frame} {T : State} {m : MethodId} {c : Code} {P : State → Prop} {pc : Nat} {Ls : Array Slot} {st : List Value} {bc : ByteArray} (h : At T m c below) (hx : tb.exec = Jvm.exec) (hby : c.code = bc) {k : Nat} {v : Int32} (hd : decode bc pc = .ok (.iload k, 2)) (hl : Ls[k]? = some (.val (.int v))) (g : own_Go tb e below P (T.setTop (mkF m (pc + 2) Ls ((.int v) :: st)))) : own_Go tb e below P (T.setTop (mkF m pc Ls (st))) := own_go (fun t k => XS.iload h hx rfl (hb hby hd) hl k) g
theorem own_aloadN {tb : Tables} [Ours tb] {e : Env} {below : List Frame} {T : State} {m : MethodId} {c : Code} {P : State → Prop} {pc : Nat} {Ls : Array Slot} {st : List Value} {bc : ByteArray} (h : At T m c below) (hx : tb.exec = Jvm.exec) (hby : c.code = bc) {k : Fin 4} {v : Value} (hd : decode bc pc = .ok (.aload_n k, 1)) (hl : Ls[k.val]? = some (.val v)) (hv : v.isRef = true) (g : own_Go tb e below P (T.setTop (mkF m (pc + 1) Ls (v :: st)))) : own_Go tb e below P (T.setTop (mkF m pc Ls (st))) := own_go (fun t k => XS.aloadN h hx rfl (hb hby hd) hl hv k) g
theorem own_aload {tb : Tables} [Ours tb] {e : Env} {below : List Frame} {T : State} {m : MethodId} {c : Code} {P : State → Prop} {pc : Nat} {Ls : Array Slot} {st : List Value} {bc : ByteArray} (h : At T m c below) (hx : tb.exec = Jvm.exec) (hby : c.code = bc) {k : Nat} {v : Value} (hd : decode bc pc = .ok (.aload k, 2)) (hl : Ls[k]? = some (.val v)) (hv : v.isRef = true) (g : own_Go tb e below P (T.setTop (mkF m (pc + 2) Ls (v :: st)))) : own_Go tb e below P (T.setTop (mkF m pc Ls (st))) := own_go (fun t k => XS.aload h hx rfl (hb hby hd) hl hv k) g
theorem own_istore {tb : Tables} [Ours tb] {e : Env} {below : List Frame} {T : State} {m : MethodId} {c : Code} {P : State → Prop} {pc : Nat} {Ls : Array Slot} {st : List Value} {bc : ByteArray} (h : At T m c below) (hx : tb.exec = Jvm.exec) (hby : c.code = bc) {k : Nat} {x : Int32} {l' : Array Slot} (hd : decode bc pc = .ok (.istore k, 2)) (hl : storeLocals Ls k (.int x) = some l') (g : own_Go tb e below P (T.setTop (mkF m (pc + 2) l' (st)))) : own_Go tb e below P (T.setTop (mkF m pc Ls ((.int x) :: st))) := own_go (fun t k => XS.istore h hx rfl (hb hby hd) rfl hl k) g
theorem own_astore {tb : Tables} [Ours tb] {e : Env} {below : List Frame} {T : State} {m : MethodId} {c : Code} {P : State → Prop} {pc : Nat} {Ls : Array Slot} {st : List Value} {bc : ByteArray} (h : At T m c below) (hx : tb.exec = Jvm.exec) (hby : c.code = bc) {k : Nat} {x : Value} {l' : Array Slot} (hd : decode bc pc = .ok (.astore k, 2)) (hv : x.isRef = true) (hl : storeLocals Ls k x = some l') (g : own_Go tb e below P (T.setTop (mkF m (pc + 2) l' (st)))) : own_Go tb e below P (T.setTop (mkF m pc Ls (x :: st))) := own_go (fun t k => XS.astore h hx rfl (hb hby hd) rfl hv hl k) g
theorem own_iconst {tb : Tables} [Ours tb] {e : Env} {below : List Frame} {T : State} {m : MethodId} {c : Code} {P : State → Prop} {pc : Nat} {Ls : Array Slot} {st : List Value} {bc : ByteArray} (h : At T m c below) (hx : tb.exec = Jvm.exec) (hby : c.code = bc) {i : Int} {v : Int32} (hd : decode bc pc = .ok (.iconst i, 1)) (hv : Int32.ofInt i = v) (g : own_Go tb e below P (T.setTop (mkF m (pc + 1) Ls ((.int v) :: st)))) : own_Go tb e below P (T.setTop (mkF m pc Ls st)) := by
  subst hv
  exact own_go (fun t k => XS.iconst h hx rfl (hb hby hd) k) g
theorem own_bipush {tb : Tables} [Ours tb] {e : Env} {below : List Frame} {T : State} {m : MethodId} {c : Code} {P : State → Prop} {pc : Nat} {Ls : Array Slot} {st : List Value} {bc : ByteArray} (h : At T m c below) (hx : tb.exec = Jvm.exec) (hby : c.code = bc) {i : Int} {v : Int32} (hd : decode bc pc = .ok (.bipush i, 2)) (hv : (Int8.ofInt i).toInt32 = v) (g : own_Go tb e below P (T.setTop (mkF m (pc + 2) Ls ((.int v) :: st)))) : own_Go tb e below P (T.setTop (mkF m pc Ls st)) := by
  subst hv
  exact own_go (fun t k => XS.bipush h hx rfl (hb hby hd) k) g
theorem own_sipush {tb : Tables} [Ours tb] {e : Env} {below : List Frame} {T : State} {m : MethodId} {c : Code} {P : State → Prop} {pc : Nat} {Ls : Array Slot} {st : List Value} {bc : ByteArray} (h : At T m c below) (hx : tb.exec = Jvm.exec) (hby : c.code = bc) {i : Int} {v : Int32} (hd : decode bc pc = .ok (.sipush i, 3)) (hv : (Int16.ofInt i).toInt32 = v) (g : own_Go tb e below P (T.setTop (mkF m (pc + 3) Ls ((.int v) :: st)))) : own_Go tb e below P (T.setTop (mkF m pc Ls st)) := by
  subst hv
  exact own_go (fun t k => XS.sipush h hx rfl (hb hby hd) k) g
theorem own_aconstNull {tb : Tables} [Ours tb] {e : Env} {below : List Frame} {T : State} {m : MethodId} {c : Code} {P : State → Prop} {pc : Nat} {Ls : Array Slot} {st : List Value} {bc : ByteArray} (h : At T m c below) (hx : tb.exec = Jvm.exec) (hby : c.code = bc)  (hd : decode bc pc = .ok (.aconst_null, 1)) (g : own_Go tb e below P (T.setTop (mkF m (pc + 1) Ls (.null :: st)))) : own_Go tb e below P (T.setTop (mkF m pc Ls (st))) := own_go (fun t k => XS.aconstNull h hx rfl (hb hby hd)  k) g
theorem own_iadd {tb : Tables} [Ours tb] {e : Env} {below : List Frame} {T : State} {m : MethodId} {c : Code} {P : State → Prop} {pc : Nat} {Ls : Array Slot} {st : List Value} {bc : ByteArray} (h : At T m c below) (hx : tb.exec = Jvm.exec) (hby : c.code = bc) {x y v : Int32} (hd : decode bc pc = .ok (.iadd, 1)) (hv : (x + y) = v) (g : own_Go tb e below P (T.setTop (mkF m (pc + 1) Ls ((.int v) :: st)))) : own_Go tb e below P (T.setTop (mkF m pc Ls ((.int y) :: (.int x) :: st))) := by
  subst hv
  exact own_go (fun t k => XS.iadd h hx rfl (hb hby hd) rfl k) g
theorem own_imul {tb : Tables} [Ours tb] {e : Env} {below : List Frame} {T : State} {m : MethodId} {c : Code} {P : State → Prop} {pc : Nat} {Ls : Array Slot} {st : List Value} {bc : ByteArray} (h : At T m c below) (hx : tb.exec = Jvm.exec) (hby : c.code = bc) {x y v : Int32} (hd : decode bc pc = .ok (.imul, 1)) (hv : (x * y) = v) (g : own_Go tb e below P (T.setTop (mkF m (pc + 1) Ls ((.int v) :: st)))) : own_Go tb e below P (T.setTop (mkF m pc Ls ((.int y) :: (.int x) :: st))) := by
  subst hv
  exact own_go (fun t k => XS.imul h hx rfl (hb hby hd) rfl k) g
theorem own_iand {tb : Tables} [Ours tb] {e : Env} {below : List Frame} {T : State} {m : MethodId} {c : Code} {P : State → Prop} {pc : Nat} {Ls : Array Slot} {st : List Value} {bc : ByteArray} (h : At T m c below) (hx : tb.exec = Jvm.exec) (hby : c.code = bc) {x y v : Int32} (hd : decode bc pc = .ok (.iand, 1)) (hv : (x &&& y) = v) (g : own_Go tb e below P (T.setTop (mkF m (pc + 1) Ls ((.int v) :: st)))) : own_Go tb e below P (T.setTop (mkF m pc Ls ((.int y) :: (.int x) :: st))) := by
  subst hv
  exact own_go (fun t k => XS.iand h hx rfl (hb hby hd) rfl k) g
theorem own_iushr {tb : Tables} [Ours tb] {e : Env} {below : List Frame} {T : State} {m : MethodId} {c : Code} {P : State → Prop} {pc : Nat} {Ls : Array Slot} {st : List Value} {bc : ByteArray} (h : At T m c below) (hx : tb.exec = Jvm.exec) (hby : c.code = bc) {x y v : Int32} (hd : decode bc pc = .ok (.iushr, 1)) (hv : ((x.toUInt32 >>> (y &&& 31).toUInt32).toInt32) = v) (g : own_Go tb e below P (T.setTop (mkF m (pc + 1) Ls ((.int v) :: st)))) : own_Go tb e below P (T.setTop (mkF m pc Ls ((.int y) :: (.int x) :: st))) := by
  subst hv
  exact own_go (fun t k => XS.iushr h hx rfl (hb hby hd) rfl k) g
theorem own_i2b {tb : Tables} [Ours tb] {e : Env} {below : List Frame} {T : State} {m : MethodId} {c : Code} {P : State → Prop} {pc : Nat} {Ls : Array Slot} {st : List Value} {bc : ByteArray} (h : At T m c below) (hx : tb.exec = Jvm.exec) (hby : c.code = bc) {x : Int32} {v : Int32} (hd : decode bc pc = .ok (.i2b, 1)) (hv : (x.toInt8.toInt32) = v) (g : own_Go tb e below P (T.setTop (mkF m (pc + 1) Ls ((.int v) :: st)))) : own_Go tb e below P (T.setTop (mkF m pc Ls ((.int x) :: st))) := by
  subst hv
  exact own_go (fun t k => XS.i2b h hx rfl (hb hby hd) rfl k) g
theorem own_i2c {tb : Tables} [Ours tb] {e : Env} {below : List Frame} {T : State} {m : MethodId} {c : Code} {P : State → Prop} {pc : Nat} {Ls : Array Slot} {st : List Value} {bc : ByteArray} (h : At T m c below) (hx : tb.exec = Jvm.exec) (hby : c.code = bc) {x : Int32} {v : Int32} (hd : decode bc pc = .ok (.i2c, 1)) (hv : (x.toUInt32.toUInt16.toUInt32.toInt32) = v) (g : own_Go tb e below P (T.setTop (mkF m (pc + 1) Ls ((.int v) :: st)))) : own_Go tb e below P (T.setTop (mkF m pc Ls ((.int x) :: st))) := by
  subst hv
  exact own_go (fun t k => XS.i2c h hx rfl (hb hby hd) rfl k) g
theorem own_dup {tb : Tables} [Ours tb] {e : Env} {below : List Frame} {T : State} {m : MethodId} {c : Code} {P : State → Prop} {pc : Nat} {Ls : Array Slot} {st : List Value} {bc : ByteArray} (h : At T m c below) (hx : tb.exec = Jvm.exec) (hby : c.code = bc) {x : Value} (hd : decode bc pc = .ok (.dup, 1)) (hc : x.category = 1) (g : own_Go tb e below P (T.setTop (mkF m (pc + 1) Ls (x :: x :: st)))) : own_Go tb e below P (T.setTop (mkF m pc Ls (x :: st))) := own_go (fun t k => XS.dup h hx rfl (hb hby hd) rfl hc k) g
theorem own_pop {tb : Tables} [Ours tb] {e : Env} {below : List Frame} {T : State} {m : MethodId} {c : Code} {P : State → Prop} {pc : Nat} {Ls : Array Slot} {st : List Value} {bc : ByteArray} (h : At T m c below) (hx : tb.exec = Jvm.exec) (hby : c.code = bc) {x : Value} (hd : decode bc pc = .ok (.pop, 1)) (hc : x.category = 1) (g : own_Go tb e below P (T.setTop (mkF m (pc + 1) Ls (st)))) : own_Go tb e below P (T.setTop (mkF m pc Ls (x :: st))) := own_go (fun t k => XS.pop h hx rfl (hb hby hd) rfl hc k) g
theorem own_dupX1 {tb : Tables} [Ours tb] {e : Env} {below : List Frame} {T : State} {m : MethodId} {c : Code} {P : State → Prop} {pc : Nat} {Ls : Array Slot} {st : List Value} {bc : ByteArray} (h : At T m c below) (hx : tb.exec = Jvm.exec) (hby : c.code = bc) {x y : Value} (hd : decode bc pc = .ok (.dup_x1, 1)) (hc : x.category = 1) (hc' : y.category = 1) (g : own_Go tb e below P (T.setTop (mkF m (pc + 1) Ls (x :: y :: x :: st)))) : own_Go tb e below P (T.setTop (mkF m pc Ls (x :: y :: st))) := own_go (fun t k => XS.dupX1 h hx rfl (hb hby hd) rfl hc hc' k) g
theorem own_goto {tb : Tables} [Ours tb] {e : Env} {below : List Frame} {T : State} {m : MethodId} {c : Code} {P : State → Prop} {pc : Nat} {Ls : Array Slot} {st : List Value} {bc : ByteArray} (h : At T m c below) (hx : tb.exec = Jvm.exec) (hby : c.code = bc) {o : Int} {pc' : Nat} (hd : decode bc pc = .ok (.goto o, 3)) (ho : 0 ≤ (pc : Int) + o) (hp : ((pc : Int) + o).toNat = pc') (g : own_Go tb e below P (T.setTop (mkF m pc' Ls st))) : own_Go tb e below P (T.setTop (mkF m pc Ls st)) := own_go (fun t k => XS.goto h hx rfl (pc0 := pc) rfl (hb hby hd) ho hp k) g
theorem own_ifYes {tb : Tables} [Ours tb] {e : Env} {below : List Frame} {T : State} {m : MethodId} {c : Code} {P : State → Prop} {pc : Nat} {Ls : Array Slot} {st : List Value} {bc : ByteArray} (h : At T m c below) (hx : tb.exec = Jvm.exec) (hby : c.code = bc) {cd : ClassFile.Cond} {o : Int} {pc' : Nat} {x : Int32} (hd : decode bc pc = .ok (.ifCond cd o, 3)) (hc : ifCond.holds cd x = true) (ho : 0 ≤ (pc : Int) + o) (hp : ((pc : Int) + o).toNat = pc') (g : own_Go tb e below P (T.setTop (mkF m pc' Ls st))) : own_Go tb e below P (T.setTop (mkF m pc Ls ((.int x) :: st))) := own_go (fun t k => XS.ifYes h hx rfl (pc0 := pc) rfl (hb hby hd) rfl hc ho hp k) g
theorem own_ifNo {tb : Tables} [Ours tb] {e : Env} {below : List Frame} {T : State} {m : MethodId} {c : Code} {P : State → Prop} {pc : Nat} {Ls : Array Slot} {st : List Value} {bc : ByteArray} (h : At T m c below) (hx : tb.exec = Jvm.exec) (hby : c.code = bc) {cd : ClassFile.Cond} {o : Int} {x : Int32} (hd : decode bc pc = .ok (.ifCond cd o, 3)) (hc : ifCond.holds cd x = false) (g : own_Go tb e below P (T.setTop (mkF m (pc + 3) Ls st))) : own_Go tb e below P (T.setTop (mkF m pc Ls ((.int x) :: st))) := own_go (fun t k => XS.ifNo h hx rfl (hb hby hd) rfl hc k) g
theorem own_icmpYes {tb : Tables} [Ours tb] {e : Env} {below : List Frame} {T : State} {m : MethodId} {c : Code} {P : State → Prop} {pc : Nat} {Ls : Array Slot} {st : List Value} {bc : ByteArray} (h : At T m c below) (hx : tb.exec = Jvm.exec) (hby : c.code = bc) {cd : ClassFile.Cond} {o : Int} {pc' : Nat} {x y : Int32} (hd : decode bc pc = .ok (.if_icmp cd o, 3)) (hc : if_icmp.holds cd x y = true) (ho : 0 ≤ (pc : Int) + o) (hp : ((pc : Int) + o).toNat = pc') (g : own_Go tb e below P (T.setTop (mkF m pc' Ls st))) : own_Go tb e below P (T.setTop (mkF m pc Ls ((.int y) :: (.int x) :: st))) := own_go (fun t k => XS.icmpYes h hx rfl (pc0 := pc) rfl (hb hby hd) rfl hc ho hp k) g
theorem own_icmpNo {tb : Tables} [Ours tb] {e : Env} {below : List Frame} {T : State} {m : MethodId} {c : Code} {P : State → Prop} {pc : Nat} {Ls : Array Slot} {st : List Value} {bc : ByteArray} (h : At T m c below) (hx : tb.exec = Jvm.exec) (hby : c.code = bc) {cd : ClassFile.Cond} {o : Int} {x y : Int32} (hd : decode bc pc = .ok (.if_icmp cd o, 3)) (hc : if_icmp.holds cd x y = false) (g : own_Go tb e below P (T.setTop (mkF m (pc + 3) Ls st))) : own_Go tb e below P (T.setTop (mkF m pc Ls ((.int y) :: (.int x) :: st))) := own_go (fun t k => XS.icmpNo h hx rfl (hb hby hd) rfl hc k) g
section OwnGo
variable {p : Program} {l : Launch} {e : Env} {R : Room} {s : State} {m : MethodId} {args : Array Value} {below : List Frame} {meth : Method} {c : Code} {T : State} {locs : List Loc} {cells slots : Nat} {Z : State} {a0 : Array Value} {h : Heap} {P : State → Prop} {pc : Nat} {Ls : Array Slot} {st : List Value} {bc : ByteArray} {n0 : Nat}
theorem own_acmp (X : Stand p l e R s m args below meth c T locs cells slots) (hx : p.tables.exec = Jvm.exec) {cd : ACond} {x y : Value} {o : Int} {pc' : Nat} {same : Bool} (hby : c.code = bc) (hd : decode bc pc = .ok (.if_acmp cd o, 3)) (h1 : x.isRef = true) (h2 : y.isRef = true) (hq : decide (x = y) = same) (ho : 0 ≤ (pc : Int) + o) (hp : pc' = if acV cd same = true then ((pc : Int) + o).toNat else pc + 3) (k : own_Go p.tables e below P (T.setTop (mkF m pc' Ls st))) : own_Go p.tables e below P (T.setTop (mkF m pc Ls (y :: x :: st))) := by
  exact own_go (fun t k => Jvm.RoadKit.acmp (g := mkF m pc Ls (y :: x :: st)) X hx rfl h1 h2 rfl (hb hby hd) rfl hq ho hp k) k
theorem own_getF (X : Stand p l e R s m args below meth c T locs cells slots) (hx : p.tables.exec = Jvm.exec) (hZ : Z.Warmed39 s.vm) {own R0 O n d host : String} {index : Nat} (hown : s.vm.findClass own = some m.cls) (w : (Cond.fieldLink own index R0 n d).before a0 Z = true ∨ (Cond.fieldLinkNest own index R0 n d host).before a0 Z = true) (via : Via Z R0 O n d) (eT : T.heap = h) {a : Addr} {v : Value} (F : Fld Z h a O n d v) (hby : c.code = bc) (hd : decode bc pc = .ok (.getfield index, 3)) (k : ∀ T', Stand p l e R s m args below meth c T' locs cells slots → T'.heap = h → own_Go p.tables e below P (T'.setTop (mkF m (pc + 3) Ls (v :: st)))) : own_Go p.tables e below P (T.setTop (mkF m pc Ls ((.ref a) :: st))) := by
  obtain ⟨T', X', e', sp⟩ := getF X hx hZ hown w via eT F (g := mkF m pc Ls ((.ref a) :: st)) rfl rfl (hb hby hd)
  exact own_go sp (k T' X' e')
theorem own_getS (X : Stand p l e R s m args below meth c T locs cells slots) (hx : p.tables.exec = Jvm.exec) (hZ : Z.Warmed39 s.vm) {own R0 O n d host : String} {index : Nat} (hown : s.vm.findClass own = some m.cls) (w : (Cond.fieldLink own index R0 n d).before a0 Z = true ∨ (Cond.fieldLinkNest own index R0 n d host).before a0 Z = true) (via : Via Z R0 O n d) (eT : T.heap = h) {v : Value} (F : Sta Z h O n d v) (hby : c.code = bc) (hd : decode bc pc = .ok (.getstatic index, 3)) (k : ∀ T', Stand p l e R s m args below meth c T' locs cells slots → T'.heap = h → own_Go p.tables e below P (T'.setTop (mkF m (pc + 3) Ls (v :: st)))) : own_Go p.tables e below P (T.setTop (mkF m pc Ls st)) := by
  obtain ⟨T', X', e', sp⟩ := getS2 X hx hZ hown w via eT F (g := mkF m pc Ls st) rfl (hb hby hd)
  exact own_go sp (k T' X' e')
theorem own_putF (X : Stand p l e R s m args below meth c T locs cells slots) (hx : p.tables.exec = Jvm.exec) (hZ : Z.Warmed39 s.vm) {C : String} {kk : Nat} {ty : FieldType} {own R0 O n d host : String} {index : Nat} (hown : s.vm.findClass own = some m.cls) (w : (Cond.fieldLink own index R0 n d).before a0 Z = true ∨ (Cond.fieldLinkNest own index R0 n d host).before a0 Z = true) (via : Via Z R0 O n d) (eT : T.heap = h) {a : Addr} {v old : Value} (F : Fld Z h a O n d old) (E : Exa Z h a C) (L : (Cond.lays C O n d).before a0 Z = true ∨ ((Cond.laysFinal C O n d).before a0 Z = true ∧ own = O ∧ meth.name = "<init>")) (wi : (Cond.instantiable C kk).before a0 Z = true) (hty : parseFieldDescriptor d = some ty) (hn : narrow ty v = v) (hf : fits ty v = true) (hby : c.code = bc) (hd : decode bc pc = .ok (.putfield index, 3)) (N : Fr n0 locs) (ge : n0 ≤ a) (k : ∀ T' h' locs', Stand p l e R s m args below meth c T' locs' cells slots → T'.heap = h' → Fr n0 locs' → Wr h h' a (Jvm.RoadKit.slotOf Z O n d) v → Fld Z h' a O n d v → h.size ≤ h'.size → own_Go p.tables e below P (T'.setTop (mkF m (pc + 3) Ls st))) : own_Go p.tables e below P (T.setTop (mkF m pc Ls (v :: (.ref a) :: st))) := by
  obtain ⟨T', h', X', e', W, sp⟩ := putF X hx hZ hown w via eT F E L wi hty hn hf (g := mkF m pc Ls (v :: (.ref a) :: st)) rfl rfl (hb hby hd)
  exact own_go sp (k T' h' _ X' e' (Fr.snoc X' N ge) W (F.same W) (Keep.of_wr W).1)
theorem own_putFN (X : Stand p l e R s m args below meth c T locs cells slots) (hx : p.tables.exec = Jvm.exec) (hZ : Z.Warmed39 s.vm) {own R0 O n d C : String} {index kk : Nat} {ty : FieldType} (hown : s.vm.findClass own = some m.cls) (w : (Cond.fieldLink own index R0 n d).before a0 Z = true) (via : Via Z R0 O n d) (eT : T.heap = h) {a : Addr} {v v' old : Value} (F : Fld Z h a O n d old) (E : Exa Z h a C) (L : (Cond.lays C O n d).before a0 Z = true ∨ ((Cond.laysFinal C O n d).before a0 Z = true ∧ own = O ∧ meth.name = "<init>")) (wi : (Cond.instantiable C kk).before a0 Z = true) (hty : parseFieldDescriptor d = some ty) (hn : narrow ty v = v') (hf : fits ty v' = true) (hby : c.code = bc) (hd : decode bc pc = .ok (.putfield index, 3)) (N : Fr n0 locs) (ge : n0 ≤ a) (k : ∀ T' h' locs', Stand p l e R s m args below meth c T' locs' cells slots → T'.heap = h' → Fr n0 locs' → Wr h h' a (Jvm.RoadKit.slotOf Z O n d) v' → Fld Z h' a O n d v' → h.size ≤ h'.size → own_Go p.tables e below P (T'.setTop (mkF m (pc + 3) Ls st))) : own_Go p.tables e below P (T.setTop (mkF m pc Ls (v :: (.ref a) :: st))) := by
  obtain ⟨T', h', X', e', W, sp⟩ := putFN X hx hZ hown w via eT F E L wi hty hn hf (g := mkF m pc Ls (v :: (.ref a) :: st)) rfl rfl (hb hby hd)
  exact own_go sp (k T' h' _ X' e' (Fr.snoc X' N ge) W (F.same W) (Keep.of_wr W).1)
theorem own_newO (X : Stand p l e R s m args below meth c T locs cells slots) (hx : p.tables.exec = Jvm.exec) (hZ : Z.Warmed39 s.vm) {own C : String} {index n : Nat} (hown : s.vm.findClass own = some m.cls) (w : (Cond.classLink own index C).before a0 Z = true) (wi : (Cond.instantiable C n).before a0 Z = true) (wz : (Cond.initialized C).before a0 Z = true) (eT : T.heap = h) (hby : c.code = bc) (hd : decode bc pc = .ok (.new index, 3)) (hc : cells + 1 ≤ R.cells) (hl : slots + n ≤ R.slots) (k : ∀ T' h' b, Stand p l e R s m args below meth c T' locs (cells + 1) (slots + n) → T'.heap = h' → Ext h h' → b = h.size → Exa Z h' b C → (∀ {O nm d : String} {ty : FieldType}, Laid Z a0 C O nm d → parseFieldDescriptor d = some ty → Fld Z h' b O nm d (defaultValue ty)) → b < h'.size → own_Go p.tables e below P (T'.setTop (mkF m (pc + 3) Ls ((.ref b) :: st)))) : own_Go p.tables e below P (T.setTop (mkF m pc Ls st)) := by
  obtain ⟨T', h', X', e', E, A, D, -, sp⟩ := newO X hx hZ hown w wi wz eT (g := mkF m pc Ls st) rfl (hb hby hd) hc hl
  exact own_go sp (k T' h' _ X' e' E rfl A D A.lt)
theorem own_newP (X : Stand p l e R s m args below meth c T locs cells slots) (hx : p.tables.exec = Jvm.exec) (hZ : Z.Warmed39 s.vm) {aty : ArrayType} (w : (Cond.arrayClass (newarray.typeOf aty)).before a0 Z = true) (eT : T.heap = h) (hby : c.code = bc) (hd : decode bc pc = .ok (.newarray aty, 2)) {n : Int32} (hn : ¬ n < 0) (cap : Nat) (hcap : n.toNatClampNeg ≤ cap) (hb8 : cap * 8 ≤ 536870912) (hc : cells + 1 ≤ R.cells) (hl : slots + cap ≤ R.slots) {ad : String} (had : "[" ++ (newarray.typeOf aty).toString = ad) (k : ∀ T' h' cA b, Stand p l e R s m args below meth c T' locs (cells + 1) (slots + cap) → T'.heap = h' → Ext h h' → b = h.size → Arv Z h' b cA (newarray.typeOf aty) n [] (defaultValue (newarray.typeOf aty)) → Exa Z h' b ad → b < h'.size → own_Go p.tables e below P (T'.setTop (mkF m (pc + 2) Ls ((.ref b) :: st)))) : own_Go p.tables e below P (T.setTop (mkF m pc Ls ((.int n) :: st))) := by
  obtain ⟨T', h', cA, X', e', E, A, C, sp⟩ := newPE X hx hZ w eT (g := mkF m pc Ls ((.int n) :: st)) rfl (hb hby hd) rfl hn (cap := cap) hcap hb8 hc hl had
  exact own_go sp (k T' h' cA _ X' e' E rfl (Arv.new A hn) C C.lt)
theorem own_newR (X : Stand p l e R s m args below meth c T locs cells slots) (hx : p.tables.exec = Jvm.exec) (hZ : Z.Warmed39 s.vm) {own C : String} {index : Nat} (hown : s.vm.findClass own = some m.cls) (w1 : (Cond.classLink own index C).before a0 Z = true) (w2 : (Cond.arrayOver (.object C)).before a0 Z = true) (eT : T.heap = h) (hby : c.code = bc) (hd : decode bc pc = .ok (.anewarray index, 3)) {n : Int32} (hn : ¬ n < 0) (cap : Nat) (hcap : n.toNatClampNeg ≤ cap) (hb8 : cap * 8 ≤ 536870912) (hc : cells + 1 ≤ R.cells) (hl : slots + cap ≤ R.slots) {ad : String} (had : "[" ++ (FieldType.object C).toString = ad) (k : ∀ T' h' cA b, Stand p l e R s m args below meth c T' locs (cells + 1) (slots + cap) → T'.heap = h' → Ext h h' → b = h.size → Arv Z h' b cA (.object C) n [] .null → Exa Z h' b ad → Ovr Z cA C → b < h'.size → own_Go p.tables e below P (T'.setTop (mkF m (pc + 3) Ls ((.ref b) :: st)))) : own_Go p.tables e below P (T.setTop (mkF m pc Ls ((.int n) :: st))) := by
  obtain ⟨T', h', cA, X', e', E, A, C, O, sp⟩ := newRE X hx hZ hown w1 w2 eT (g := mkF m pc Ls ((.int n) :: st)) rfl (hb hby hd) rfl hn (cap := cap) hcap hb8 hc hl had
  exact own_go sp (k T' h' cA _ X' e' E rfl (Arv.new A hn) C O C.lt)
theorem own_newRA (X : Stand p l e R s m args below meth c T locs cells slots) (hx : p.tables.exec = Jvm.exec) (hZ : Z.Warmed39 s.vm) {own C : String} {ty : FieldType} {index : Nat} (hown : s.vm.findClass own = some m.cls) (hC : (FieldType.array ty).toString = C) (w1 : (Cond.classLink own index C).before a0 Z = true) (w2 : (Cond.arrayOver (.array ty)).before a0 Z = true) (eT : T.heap = h) (hby : c.code = bc) (hd : decode bc pc = .ok (.anewarray index, 3)) {n : Int32} (hn : ¬ n < 0) (cap : Nat) (hcap : n.toNatClampNeg ≤ cap) (hb8 : cap * 8 ≤ 536870912) (hc : cells + 1 ≤ R.cells) (hl : slots + cap ≤ R.slots) {ad : String} (had : "[" ++ C = ad) (k : ∀ T' h' cA b, Stand p l e R s m args below meth c T' locs (cells + 1) (slots + cap) → T'.heap = h' → Ext h h' → b = h.size → Arv Z h' b cA (.array ty) n [] .null → Exa Z h' b ad → OvrA Z cA ty C → b < h'.size → own_Go p.tables e below P (T'.setTop (mkF m (pc + 3) Ls ((.ref b) :: st)))) : own_Go p.tables e below P (T.setTop (mkF m pc Ls ((.int n) :: st))) := by
  obtain ⟨T', h', cA, X', e', E, A, C, O, sp⟩ := newRA X hx hZ hown hC w1 w2 eT (g := mkF m pc Ls ((.int n) :: st)) rfl (hb hby hd) rfl hn (cap := cap) hcap hb8 hc hl had
  exact own_go sp (k T' h' cA _ X' e' E rfl (Arv.new A hn) C O C.lt)
theorem own_iastore (X : Stand p l e R s m args below meth c T locs cells slots) (hx : p.tables.exec = Jvm.exec) (hZ : Z.Warmed39 s.vm) (eT : T.heap = h) {a : Addr} {kc : ClassId} {z j : Int32} {x : Int32} {w : Value} {vs : List Value} {dv : Value} (V : Arv Z h a kc .int z vs dv) (hj : ¬ j < 0 ∧ j < z) (i : Nat) (hi : j.toNatClampNeg = i) (hl : i < vs.length) (hv : (.int x) = w) (hby : c.code = bc) (hd : decode bc pc = .ok (.iastore, 1)) (N : Fr n0 locs) (ge : n0 ≤ a) (k : ∀ T' h' locs', Stand p l e R s m args below meth c T' locs' cells slots → T'.heap = h' → Fr n0 locs' → Wr h h' a i w → Arv Z h' a kc .int z (vs.set i w) dv → h.size ≤ h'.size → own_Go p.tables e below P (T'.setTop (mkF m (pc + 1) Ls st))) : own_Go p.tables e below P (T.setTop (mkF m pc Ls ((.int x) :: (.int j) :: (.ref a) :: st))) := by
  subst hv hi
  obtain ⟨cl, A, q, S, M, H, G⟩ := V
  obtain ⟨T', h', X', e', W, sp⟩ := stI X hx hZ eT A (j := j) (inb_of S hj) (g := mkF m pc Ls ((.int x) :: (.int j) :: (.ref a) :: st)) rfl rfl (hb hby hd)
  exact own_go sp (k T' h' _ X' e' (Fr.snoc X' N ge) W (Arv.set A q S M H G rfl W _ rfl hl) (Keep.of_wr W).1)
theorem own_castore (X : Stand p l e R s m args below meth c T locs cells slots) (hx : p.tables.exec = Jvm.exec) (hZ : Z.Warmed39 s.vm) (eT : T.heap = h) {a : Addr} {kc : ClassId} {z j : Int32} {x : Int32} {w : Value} {vs : List Value} {dv : Value} (V : Arv Z h a kc .char z vs dv) (hj : ¬ j < 0 ∧ j < z) (i : Nat) (hi : j.toNatClampNeg = i) (hl : i < vs.length) (hv : (.int (nar .char x)) = w) (hby : c.code = bc) (hd : decode bc pc = .ok (.castore, 1)) (N : Fr n0 locs) (ge : n0 ≤ a) (k : ∀ T' h' locs', Stand p l e R s m args below meth c T' locs' cells slots → T'.heap = h' → Fr n0 locs' → Wr h h' a i w → Arv Z h' a kc .char z (vs.set i w) dv → h.size ≤ h'.size → own_Go p.tables e below P (T'.setTop (mkF m (pc + 1) Ls st))) : own_Go p.tables e below P (T.setTop (mkF m pc Ls ((.int x) :: (.int j) :: (.ref a) :: st))) := by
  subst hv hi
  obtain ⟨cl, A, q, S, M, H, G⟩ := V
  obtain ⟨T', h', X', e', W, sp⟩ := stC X hx hZ eT A (j := j) (inb_of S hj) (g := mkF m pc Ls ((.int x) :: (.int j) :: (.ref a) :: st)) rfl rfl (hb hby hd)
  exact own_go sp (k T' h' _ X' e' (Fr.snoc X' N ge) W (Arv.set A q S M H G (fits_nar_char _) W _ rfl hl) (Keep.of_wr W).1)
theorem own_bastore (X : Stand p l e R s m args below meth c T locs cells slots) (hx : p.tables.exec = Jvm.exec) (hZ : Z.Warmed39 s.vm) (eT : T.heap = h) {a : Addr} {kc : ClassId} {z j : Int32} {x : Int32} {w : Value} {vs : List Value} {dv : Value} (V : Arv Z h a kc .byte z vs dv) (hj : ¬ j < 0 ∧ j < z) (i : Nat) (hi : j.toNatClampNeg = i) (hl : i < vs.length) (hv : (.int (nar .byte x)) = w) (hby : c.code = bc) (hd : decode bc pc = .ok (.bastore, 1)) (N : Fr n0 locs) (ge : n0 ≤ a) (k : ∀ T' h' locs', Stand p l e R s m args below meth c T' locs' cells slots → T'.heap = h' → Fr n0 locs' → Wr h h' a i w → Arv Z h' a kc .byte z (vs.set i w) dv → h.size ≤ h'.size → own_Go p.tables e below P (T'.setTop (mkF m (pc + 1) Ls st))) : own_Go p.tables e below P (T.setTop (mkF m pc Ls ((.int x) :: (.int j) :: (.ref a) :: st))) := by
  subst hv hi
  obtain ⟨cl, A, q, S, M, H, G⟩ := V
  obtain ⟨T', h', X', e', W, sp⟩ := stB X hx hZ eT A (j := j) (inb_of S hj) (g := mkF m pc Ls ((.int x) :: (.int j) :: (.ref a) :: st)) rfl rfl (hb hby hd)
  exact own_go sp (k T' h' _ X' e' (Fr.snoc X' N ge) W (Arv.set A q S M H G (fits_nar_byte _) W _ rfl hl) (Keep.of_wr W).1)
theorem own_aastore (X : Stand p l e R s m args below meth c T locs cells slots) (hx : p.tables.exec = Jvm.exec) (hZ : Z.Warmed39 s.vm) (eT : T.heap = h) {a : Addr} {kc : ClassId} {ty : FieldType} {z j : Int32} {v : Value} {vs : List Value} {dv : Value} (V : Arv Z h a kc ty z vs dv) (hty : ty.isReference = true) (hfit : fits ty v = true) (F : Sto Z h a v) (hj : ¬ j < 0 ∧ j < z) (i : Nat) (hi : j.toNatClampNeg = i) (hl : i < vs.length) (hby : c.code = bc) (hd : decode bc pc = .ok (.aastore, 1)) (N : Fr n0 locs) (ge : n0 ≤ a) (k : ∀ T' h' locs', Stand p l e R s m args below meth c T' locs' cells slots → T'.heap = h' → Fr n0 locs' → Wr h h' a i v → Arv Z h' a kc ty z (vs.set i v) dv → h.size ≤ h'.size → own_Go p.tables e below P (T'.setTop (mkF m (pc + 1) Ls st))) : own_Go p.tables e below P (T.setTop (mkF m pc Ls (v :: (.int j) :: (.ref a) :: st))) := by
  subst hi
  obtain ⟨cl, A, q, S, M, H, G⟩ := V
  obtain ⟨T', h', X', e', W, sp⟩ := stR X hx hZ eT A (j := j) (inb_of S hj) hty F (g := mkF m pc Ls (v :: (.int j) :: (.ref a) :: st)) rfl rfl (hb hby hd)
  exact own_go sp (k T' h' _ X' e' (Fr.snoc X' N ge) W (Arv.set A q S M H G hfit W _ rfl hl) (Keep.of_wr W).1)
theorem own_stoV {a y : Addr} {kc : ClassId} {ty : FieldType} {z : Int32} {vs : List Value} {dv : Value} {C : String} (V : Arv Z h a kc ty z vs dv) (O : Ovr Z kc C) (I : Ins Z h y C true) : Sto Z h a (.ref y) := by
  obtain ⟨cl, A, q, -⟩ := V
  exact Sto.ofV A q O I
theorem own_stoVA {a y : Addr} {kc : ClassId} {ty t2 : FieldType} {z : Int32} {vs : List Value} {dv : Value} {C : String} (V : Arv Z h a kc ty z vs dv) (O : OvrA Z kc t2 C) (I : Ins Z h y C true) : Sto Z h a (.ref y) := by
  obtain ⟨cl, A, q, -⟩ := V
  exact Sto.ofVA A q O I
theorem own_aaload (X : Stand p l e R s m args below meth c T locs cells slots) (hx : p.tables.exec = Jvm.exec) (hZ : Z.Warmed39 s.vm) (eT : T.heap = h) {a : Addr} {kc : ClassId} {ty : FieldType} {z j : Int32} {v : Value} {vs : List Value} {dv : Value} (V : Arv Z h a kc ty z vs dv) (hty : ty.isReference = true) (hj : ¬ j < 0 ∧ j < z) (hv : vs.getD j.toNatClampNeg dv = v) (hby : c.code = bc) (hd : decode bc pc = .ok (.aaload, 1)) (k : own_Go p.tables e below P (T.setTop (mkF m (pc + 1) Ls (v :: st)))) : own_Go p.tables e below P (T.setTop (mkF m pc Ls ((.int j) :: (.ref a) :: st))) := by
  obtain ⟨cl, A, q, S, M, H, G⟩ := V
  exact own_go (fun t q => X.aaload hx (by rw [eT]; exact A.1) (State.isArrayOf_alike hZ.alike A.2.1) hty A.2.2 (inb_of S hj) (Has.at H (inb_of S hj) hv) (g := mkF m pc Ls ((.int j) :: (.ref a) :: st)) rfl rfl (hb hby hd) t q) k
theorem own_alen (X : Stand p l e R s m args below meth c T locs cells slots) (hx : p.tables.exec = Jvm.exec) (hZ : Z.Warmed39 s.vm) (eT : T.heap = h) {a : Addr} {kc : ClassId} {ty : FieldType} {z : Int32} {vs : List Value} {dv : Value} (V : Arv Z h a kc ty z vs dv) (hby : c.code = bc) (hd : decode bc pc = .ok (.arraylength, 1)) (k : own_Go p.tables e below P (T.setTop (mkF m (pc + 1) Ls ((.int z) :: st)))) : own_Go p.tables e below P (T.setTop (mkF m pc Ls ((.ref a) :: st))) := by
  obtain ⟨cl, A, q, S, M, H, G⟩ := V
  refine own_go (fun t q => X.arraylength hx (by rw [eT]; exact A.1) (State.isArrayOf_alike hZ.alike A.2.1) (g := mkF m pc Ls ((.ref a) :: st)) rfl rfl (hb hby hd) t q) ?_
  rw [len_of S M]; exact k
theorem own_castNull (X : Stand p l e R s m args below meth c T locs cells slots) (hx : p.tables.exec = Jvm.exec) {index : Nat} (hby : c.code = bc) (hd : decode bc pc = .ok (.checkcast index, 3)) (k : own_Go p.tables e below P (T.setTop (mkF m (pc + 3) Ls (.null :: st)))) : own_Go p.tables e below P (T.setTop (mkF m pc Ls (.null :: st))) := by
  exact own_go (fun t q => X.checkcastNull hx (g := mkF m pc Ls (.null :: st)) rfl rfl (hb hby hd) t q) k
theorem own_initO (X : Stand p l e R s m args below meth c T locs cells slots) (hx : p.tables.exec = Jvm.exec) (hZ : Z.Warmed39 s.vm) {own : String} {idx : Nat} (hown : s.vm.findClass own = some m.cls) (w1 : (Cond.methodLink own idx Lib.objectInit).before a0 Z = true) (w2 : (Cond.instanceMethod Lib.objectInit).before a0 Z = true) (w3 : (Cond.code Lib.objectInit ⟨#[0xb1]⟩ 1 none).before a0 Z = true) (eT : T.heap = h) (hsize : Ls.size = c.maxLocals) {a : Addr} (hby : c.code = bc) (hd : decode bc pc = .ok (.invokespecial idx, 3)) (hf : 1 ≤ R.frames) (W : Nat) (hW : 2 * 0 + (st.map fun v => v.category).sum ≤ W) (hl : W + 12 ≤ R.locals) (k : ∀ T', Stand p l e R s m args below meth c T' locs cells slots → T'.heap = h → own_Go p.tables e below P (T'.setTop (mkF m (pc + 3) Ls st))) : own_Go p.tables e below P (T.setTop (mkF m pc Ls ((.ref a) :: st))) := by
  obtain ⟨T', X', e', sp⟩ := initO X hx hZ hown w1 w2 w3 eT (g := mkF m pc Ls ((.ref a) :: st)) rfl hsize rfl (hb hby hd) hf (W := W) hW hl
  exact own_go sp (k T' X' e')
theorem own_callS (X : Stand p l e R s m args below meth c T locs cells slots) (hx : p.tables.exec = Jvm.exec) (hZ : Z.Warmed39 s.vm) {own : String} {index : Nat} {y : MethodName} {bytes : ByteArray} {maxL : Nat} {ret : Option FieldType} {rm : Room} {Qc : Option Value → Heap → List Loc → Prop} {as' : Array Value} (hown : s.vm.findClass own = some m.cls) (w1 : (Cond.methodLink own index y).before a0 Z = true) (w2 : (Cond.static y).before a0 Z = true) (w3 : (Cond.initialized y.cls).before a0 Z = true) (w4 : (Cond.code y bytes maxL ret).before a0 Z = true) (hy : y.cls ≠ "java/lang/invoke/MethodHandle" ∧ y.cls ≠ "java/lang/invoke/VarHandle") (hM : MetFree l y (head1 [Cond.code y bytes maxL ret] rm) (fun a U => a = as' ∧ Z.Warmed39 U.vm ∧ U.heap = h) (fun _ _ _ _ _ => True) (fun _ U o U' => ∃ v L, o = .returned v ∧ Qc v U'.heap L ∧ FrameEnd U o U' L rm.cells rm.slots)) (W : Nat) (hW : 2 * 0 + (st.map fun v => v.category).sum ≤ W) (hf : rm.frames + 1 ≤ R.frames) (hl : W + (maxL + 11) + rm.locals ≤ R.locals) (hsize : Ls.size = c.maxLocals) {argsL stk : List Value} (hlen : ∀ sig, parseMethodDescriptor y.desc = some sig → argsL.length = sig.parameters.length) (hstk : stk = argsL.reverse ++ st) (has : argsL.toArray = as') (hc : cells + rm.cells ≤ R.cells) (hs : slots + rm.slots ≤ R.slots) (eT : T.heap = h) (hby : c.code = bc) (hd : decode bc pc = .ok (.invokestatic index, 3)) (k : ∀ T' v L, Stand p l e R s m args below meth c T' (locs ++ L) (cells + rm.cells) (slots + rm.slots) → Qc v T'.heap L → own_Go p.tables e below P (T'.setTop (mkF m (pc + 3) Ls (v.toList ++ st)))) : own_Go p.tables e below P (T.setTop (mkF m pc Ls stk)) := by
  subst hstk
  obtain ⟨v, _, ⟨T', L', k', n'⟩, -, X', ⟨L, hQ, hl', hy', hz'⟩, sp⟩ := Jvm.LawKit.callS X hx hown (mvT hZ w1) (mvT hZ w2) (mvT hZ w3) (mvT hZ w4) hy (backOf (W := W) hM hZ w4 w3 hf hl) (g := mkF m pc Ls (argsL.reverse ++ st)) rfl hsize (argsL := argsL) (rest := st) hlen rfl hW (hb hby hd) (fun _ _ => ⟨has, eT, hc, hs⟩)
  dsimp only [Pt.U, Pt.locs, Pt.cells, Pt.slots] at X' hl' hy' hz' sp hQ
  subst hl' hy' hz'
  exact own_go sp (k T' v L X' hQ)
theorem own_special (X : Stand p l e R s m args below meth c T locs cells slots) (hx : p.tables.exec = Jvm.exec) (hZ : Z.Warmed39 s.vm) {own : String} {index : Nat} {y : MethodName} {bytes : ByteArray} {maxL : Nat} {rm : Room} {Qc : Option Value → Heap → List Loc → Prop} {as' : Array Value} (hy1 : y.name = "<init>") (hown : s.vm.findClass own = some m.cls) (w1 : (Cond.methodLink own index y).before a0 Z = true) (w2 : (Cond.instanceMethod y).before a0 Z = true) (w3 : (Cond.initialized y.cls).before a0 Z = true) (w4 : (Cond.code y bytes maxL none).before a0 Z = true) (hy : y.cls ≠ "java/lang/invoke/MethodHandle" ∧ y.cls ≠ "java/lang/invoke/VarHandle") (hM : MetFree l y (head1 [Cond.code y bytes maxL none] rm) (fun a U => a = as' ∧ Z.Warmed39 U.vm ∧ U.heap = h) (fun _ _ _ _ _ => True) (fun _ U o U' => ∃ v L, o = .returned v ∧ Qc v U'.heap L ∧ FrameEnd U o U' L rm.cells rm.slots)) (W : Nat) (hW : 2 * 0 + (st.map fun v => v.category).sum ≤ W) (hf : rm.frames + 1 ≤ R.frames) (hl : W + (maxL + 11) + rm.locals ≤ R.locals) (hsize : Ls.size = c.maxLocals) {argsL stk : List Value} {a : Addr} (hlen : ∀ sig, parseMethodDescriptor y.desc = some sig → argsL.length = sig.parameters.length) (hstk : stk = argsL.reverse ++ (.ref a) :: st) (has : ((.ref a) :: argsL).toArray = as') (hc : cells + rm.cells ≤ R.cells) (hs : slots + rm.slots ≤ R.slots) (eT : T.heap = h) (hby : c.code = bc) (hd : decode bc pc = .ok (.invokespecial index, 3)) (k : ∀ T' v L, Stand p l e R s m args below meth c T' (locs ++ L) (cells + rm.cells) (slots + rm.slots) → Qc v T'.heap L → own_Go p.tables e below P (T'.setTop (mkF m (pc + 3) Ls (v.toList ++ st)))) : own_Go p.tables e below P (T.setTop (mkF m pc Ls stk)) := by
  subst hstk
  obtain ⟨v, _, ⟨T', L', k', n'⟩, -, X', ⟨L, hQ, hl', hy', hz'⟩, sp⟩ := X.specialBack hx hy1 hown (mvT hZ w1) (mvT hZ w2) (mvT hZ w4) hy (backOf (W := W) hM hZ w4 w3 hf hl) (g := mkF m pc Ls (argsL.reverse ++ (.ref a) :: st)) rfl hsize (Steps.refl _) (a := a) (argsL := argsL) (rest := st) hlen rfl hW (hb hby hd) (fun _ _ => ⟨has, eT, hc, hs⟩)
  dsimp only [Pt.U, Pt.locs, Pt.cells, Pt.slots] at X' hl' hy' hz' sp hQ
  subst hl' hy' hz'
  exact own_go (fun t q => sp.trans q) (k T' v L X' hQ)
theorem own_virtual (X : Stand p l e R s m args below meth c T locs cells slots) (hx : p.tables.exec = Jvm.exec) (hZ : Z.Warmed39 s.vm) {own C : String} {index : Nat} {y z : MethodName} {bytes : ByteArray} {maxL : Nat} {ret : Option FieldType} {rm : Room} {Qc : Option Value → Heap → List Loc → Prop} {as' : Array Value} (hown : s.vm.findClass own = some m.cls) (w1 : (Cond.methodLink own index y).before a0 Z = true) (w2 : (Cond.declares y).before a0 Z = true) (nf : NotFace s y) (w5 : (Cond.selects C y z).before a0 Z = true) (w6 : (Cond.instanceMethod z).before a0 Z = true) (w3 : (Cond.initialized z.cls).before a0 Z = true) (w4 : (Cond.code z bytes maxL ret).before a0 Z = true) (hy : y.cls ≠ "java/lang/invoke/MethodHandle" ∧ y.cls ≠ "java/lang/invoke/VarHandle") (hM : MetFree l z (head1 [Cond.code z bytes maxL ret] rm) (fun a U => a = as' ∧ Z.Warmed39 U.vm ∧ U.heap = h) (fun _ _ _ _ _ => True) (fun _ U o U' => ∃ v L, o = .returned v ∧ Qc v U'.heap L ∧ FrameEnd U o U' L rm.cells rm.slots)) (W : Nat) (hW : 2 * 0 + (st.map fun v => v.category).sum ≤ W) (hf : rm.frames + 1 ≤ R.frames) (hl : W + (maxL + 11) + rm.locals ≤ R.locals) (hsize : Ls.size = c.maxLocals) {argsL stk : List Value} {a : Addr} (E : Exa Z h a C) (hlen : ∀ sig, parseMethodDescriptor y.desc = some sig → argsL.length = sig.parameters.length) (hstk : stk = argsL.reverse ++ (.ref a) :: st) (has : ((.ref a) :: argsL).toArray = as') (hc : cells + rm.cells ≤ R.cells) (hs : slots + rm.slots ≤ R.slots) (eT : T.heap = h) (hby : c.code = bc) (hd : decode bc pc = .ok (.invokevirtual index, 3)) (k : ∀ T' v L, Stand p l e R s m args below meth c T' (locs ++ L) (cells + rm.cells) (slots + rm.slots) → Qc v T'.heap L → own_Go p.tables e below P (T'.setTop (mkF m (pc + 3) Ls (v.toList ++ st)))) : own_Go p.tables e below P (T.setTop (mkF m pc Ls stk)) := by
  subst hstk
  obtain ⟨cq, kq, qa, qb, qc⟩ := isOf hZ eT E
  obtain ⟨v, _, ⟨T', L', k', n'⟩, -, X', ⟨L, hQ, hl', hy', hz'⟩, sp⟩ := X.virtualBack hx hown (mvT hZ w1) (mvT hZ w2) nf (mvT hZ w5) (mvT hZ w6) hy (backOf (W := W) hM hZ w4 w3 hf hl) qa qc (g := mkF m pc Ls (argsL.reverse ++ (.ref a) :: st)) rfl hsize (Steps.refl _) (argsL := argsL) (rest := st) hlen rfl hW (hb hby hd) (fun _ _ => ⟨has, eT, hc, hs⟩)
  dsimp only [Pt.U, Pt.locs, Pt.cells, Pt.slots] at X' hl' hy' hz' sp hQ
  subst hl' hy' hz'
  exact own_go (fun t q => sp.trans q) (k T' v L X' hQ)
theorem own_private (X : Stand p l e R s m args below meth c T locs cells slots) (hx : p.tables.exec = Jvm.exec) (hZ : Z.Warmed39 s.vm) {own C : String} {index kk : Nat} {y : MethodName} {bytes : ByteArray} {maxL : Nat} {ret : Option FieldType} {rm : Room} {Qc : Option Value → Heap → List Loc → Prop} {as' : Array Value} (hown : s.vm.findClass own = some m.cls) (w1 : (Cond.methodLink own index y).before a0 Z = true) (w6 : (Cond.instanceMethod y).before a0 Z = true) (w5 : (Cond.instantiable y.cls kk).before a0 Z = true) (w7 : (Cond.privateMethod y).before a0 Z = true) (w3 : (Cond.initialized y.cls).before a0 Z = true) (w4 : (Cond.code y bytes maxL ret).before a0 Z = true) (hy : y.cls ≠ "java/lang/invoke/MethodHandle" ∧ y.cls ≠ "java/lang/invoke/VarHandle") (hM : MetFree l y (head1 [Cond.code y bytes maxL ret] rm) (fun a U => a = as' ∧ Z.Warmed39 U.vm ∧ U.heap = h) (fun _ _ _ _ _ => True) (fun _ U o U' => ∃ v L, o = .returned v ∧ Qc v U'.heap L ∧ FrameEnd U o U' L rm.cells rm.slots)) (W : Nat) (hW : 2 * 0 + (st.map fun v => v.category).sum ≤ W) (hf : rm.frames + 1 ≤ R.frames) (hl : W + (maxL + 11) + rm.locals ≤ R.locals) (hsize : Ls.size = c.maxLocals) {argsL stk : List Value} {a : Addr} (E : Exa Z h a C) (hlen : ∀ sig, parseMethodDescriptor y.desc = some sig → argsL.length = sig.parameters.length) (hstk : stk = argsL.reverse ++ (.ref a) :: st) (has : ((.ref a) :: argsL).toArray = as') (hc : cells + rm.cells ≤ R.cells) (hs : slots + rm.slots ≤ R.slots) (eT : T.heap = h) (hby : c.code = bc) (hd : decode bc pc = .ok (.invokevirtual index, 3)) (k : ∀ T' v L, Stand p l e R s m args below meth c T' (locs ++ L) (cells + rm.cells) (slots + rm.slots) → Qc v T'.heap L → own_Go p.tables e below P (T'.setTop (mkF m (pc + 3) Ls (v.toList ++ st)))) : own_Go p.tables e below P (T.setTop (mkF m pc Ls stk)) := by
  subst hstk
  obtain ⟨cq, q1, q2⟩ := E.cell
  have hp : s.PrivateAt y := Cond.privateMethod_at (mvP hZ w7 (args := #[]))
  obtain ⟨ci, ki, hci, hki, -, hni, -, -⟩ := Cond.instantiable_spec (mvT (args := args) hZ w5)
  obtain ⟨v, _, ⟨T', L', k', n'⟩, -, X', ⟨L, hQ, hl', hy', hz'⟩, sp⟩ := X.privateBack hx hown (mvT hZ w1) (mvT hZ w6) (selects_self_of_private hci hki (Bool.or_eq_false_iff.mp hni).1 hp (mvT hZ w6) hy) hp (mvT hZ w4) hy (backOf (W := W) hM hZ w4 w3 hf hl) (g := mkF m pc Ls (argsL.reverse ++ (.ref a) :: st)) rfl hsize (Steps.refl _) (a := a) (by rw [eT]; exact q1) q2 (argsL := argsL) (rest := st) hlen rfl hW (hb hby hd) (fun _ _ => ⟨has, eT, hc, hs⟩)
  dsimp only [Pt.U, Pt.locs, Pt.cells, Pt.slots] at X' hl' hy' hz' sp hQ
  subst hl' hy' hz'
  exact own_go (fun t q => sp.trans q) (k T' v L X' hQ)
theorem own_specialB (X : Stand p l e R s m args below meth c T locs cells slots) (hx : p.tables.exec = Jvm.exec) (hZ : Z.Warmed39 s.vm) {own : String} {index : Nat} {y : MethodName} {bytes : ByteArray} {maxL W : Nat} (hy1 : y.name = "<init>") (hown : s.vm.findClass own = some m.cls) (w1 : (Cond.methodLink own index y).before a0 Z = true) (w2 : (Cond.instanceMethod y).before a0 Z = true) (w4 : (Cond.code y bytes maxL none).before a0 Z = true) (hy : y.cls ≠ "java/lang/invoke/MethodHandle" ∧ y.cls ≠ "java/lang/invoke/VarHandle") {Qc : Option Value → Heap → List Loc → Prop} {as' : Array Value} {kc ks : Nat} (hK : Back l R p e below s args y 3 W (fun A a => a = as' ∧ A.U.heap = h ∧ A.cells + kc ≤ R.cells ∧ A.slots + ks ≤ R.slots) (fun A _ v B => ∃ L, Qc v B.U.heap L ∧ B.locs = A.locs ++ L ∧ B.cells = A.cells + kc ∧ B.slots = A.slots + ks)) (hW : 2 * 0 + (st.map fun v => v.category).sum ≤ W) (hsize : Ls.size = c.maxLocals) {argsL stk : List Value} {a : Addr} (hlen : ∀ sig, parseMethodDescriptor y.desc = some sig → argsL.length = sig.parameters.length) (hstk : stk = argsL.reverse ++ (.ref a) :: st) (has : ((.ref a) :: argsL).toArray = as') (hc : cells + kc ≤ R.cells) (hs : slots + ks ≤ R.slots) (eT : T.heap = h) (hby : c.code = bc) (hd : decode bc pc = .ok (.invokespecial index, 3)) (k : ∀ T' v L, Stand p l e R s m args below meth c T' (locs ++ L) (cells + kc) (slots + ks) → Qc v T'.heap L → own_Go p.tables e below P (T'.setTop (mkF m (pc + 3) Ls (v.toList ++ st)))) : own_Go p.tables e below P (T.setTop (mkF m pc Ls stk)) := by
  subst hstk
  obtain ⟨v, _, ⟨T', L', k', n'⟩, -, X', ⟨L, hQ, hl', hy', hz'⟩, sp⟩ := X.specialBack hx hy1 hown (mvT hZ w1) (mvT hZ w2) (mvT hZ w4) hy hK (g := mkF m pc Ls (argsL.reverse ++ (.ref a) :: st)) rfl hsize (Steps.refl _) (a := a) (argsL := argsL) (rest := st) hlen rfl hW (hb hby hd) (fun _ _ => ⟨has, eT, hc, hs⟩)
  dsimp only [Pt.U, Pt.locs, Pt.cells, Pt.slots] at X' hl' hy' hz' sp hQ
  subst hl' hy' hz'
  exact own_go (fun t q => sp.trans q) (k T' v L X' hQ)
end OwnGo
theorem own_sta_keep {Z : State} {h h' : Heap} {C n d : String} {v : Value} {ws : List Addr} (F : Sta Z h C n d v) (K : Keep h h' ws) (q : ∀ x ∈ ws, ∀ cell : Cell, h[x]? = some cell → cell.vm.isStatics = false) : Sta Z h' C n d v := by
  obtain ⟨cf, i, k, f, st, cell, h1, h2, h3, h4, h5, h6, h7⟩ := F
  refine ⟨cf, i, k, f, st, cell, h1, h2, h3, h4, K.2.1 st cell h5 fun hm => ?_, h6, h7⟩
  rw [q st hm cell h5] at h6; cases h6
theorem own_exa_plain {Z : State} {h : Heap} {a : Addr} {C : String} (F : Exa Z h a C) : ∀ cell : Cell, h[a]? = some cell → cell.vm.isStatics = false := fun cell hc => by
  obtain ⟨c', k, h1, h2, h3, h4, h5⟩ := F
  cases h1.symm.trans hc; exact h4
theorem own_ne_oa {Z : State} {h : Heap} {a b : Addr} {C : String} {a0 : Array Value} {kk : Nat} {k : ClassId} {ty : FieldType} {n : Int32} {vs : List Value} {d : Value} (F : Exa Z h a C) (wi : (Cond.instantiable C kk).before a0 Z = true) (G : Arv Z h b k ty n vs d) : a ≠ b := by
  obtain ⟨c, A, -⟩ := G
  exact ne_arr F wi A
theorem own_ne_aa {Z : State} {h : Heap} {a b : Addr} {k k' : ClassId} {ty ty' : FieldType} {n n' : Int32} {vs vs' : List Value} {d d' : Value} (F : Arv Z h a k ty n vs d) (G : Arv Z h b k' ty' n' vs' d') (q : ty ≠ ty') : a ≠ b := by
  intro e
  subst e
  obtain ⟨c, A, -⟩ := F
  obtain ⟨c', B, -⟩ := G
  cases A.1.symm.trans B.1
  obtain ⟨-, k1, e1, comp, e2⟩ := A.2.1
  obtain ⟨-, k2, f1, comp', f2⟩ := B.2.1
  cases e1.symm.trans f1
  rw [e2] at f2
  cases f2
  exact q rfl
theorem own_narc (y : Int32) : nar .char ((y &&& (255 : Int32)).toUInt32.toUInt16.toUInt32.toInt32) = (y &&& (255 : Int32)) := by
  rw [i2c_mask]
  exact i2c_mask y
theorem own_c255 (y : Int32) : ¬ (y &&& (255 : Int32)) < 0 ∧ ¬ (255 : Int32) < (y &&& (255 : Int32)) := by
  have h := c_and y (255 : Int32) (by decide)
  have a : (255 : Int32).toInt = 255 := by decide
  have b : (0 : Int32).toInt = 0 := by decide
  rw [Int32.lt_iff_toInt_lt, Int32.lt_iff_toInt_lt, b]
  omega
theorem own_l0 {P : Int32 → Prop} : ∀ c ∈ ([] : List Int32), P c := fun _ h => nomatch h
theorem own_lS {P : Int32 → Prop} {y : Int32} {L : List Int32} (q : P y) (r : ∀ c ∈ L, P c) : ∀ c ∈ y :: L, P c := fun c h => (List.mem_cons.mp h).elim (fun e => e ▸ q) (r c)
theorem own_i2bb (c : Int32) : nar .byte (c.toInt8.toInt32) = (c.toInt8.toInt32) := by
  show c.toInt8.toInt32.toInt8.toInt32 = c.toInt8.toInt32
  rw [Int8.toInt8_toInt32]
theorem own_low8 (c : Int32) (h0 : ¬ (c < (0 : Int32))) (h1 : ¬ ((255 : Int32) < c)) : ((c.toInt8.toInt32) &&& (255 : Int32)) = c := by
  have a : (255 : Int32).toInt = 255 := by decide
  have b : (0 : Int32).toInt = 0 := by decide
  rw [Int32.lt_iff_toInt_lt, b] at h0
  rw [Int32.lt_iff_toInt_lt, a] at h1
  have h2 := c_mask (c.toInt8.toInt32) 255 8 (by decide) (by decide)
  have h3 := c_i2b c
  have h4 : ((2 ^ 8 : Nat) : Int) = 256 := by decide
  rw [h4] at h2
  apply Int32.toInt_inj.mp
  omega
theorem own_nar8 (c : Int32) (h0 : ¬ (c < (0 : Int32))) (h1 : ¬ ((255 : Int32) < c)) : nar .char c = c := by
  have e := own_low8 c h0 h1
  have q := i2c_mask (c.toInt8.toInt32)
  rw [e] at q
  exact q
theorem own_chr8 (c : Int32) (h0 : ¬ (c < (0 : Int32))) (h1 : ¬ ((255 : Int32) < c)) : nar .char ((((c.toInt8.toInt32)) &&& (255 : Int32)).toUInt32.toUInt16.toUInt32.toInt32) = c := by
  rw [i2c_mask, own_low8 c h0 h1]
  exact own_nar8 c h0 h1
theorem ef_canEnc (m : MethodId) (x0 : Int32) : entryFrame m #[(.int x0)] 1 = mkF m 0 #[.val (.int x0)] [] := by first | (simp [entryFrame, mkF, argsToLocals, Value.category]; done) | rfl
theorem pn_16 : plainName "java/lang/StringLatin1" = true := by first | (simp [plainName, overriddenIn]; done) | decide +kernel
theorem d16_0 : decode jdk_43_method_3_code 0 = .ok (.iload_n 0, 1) := by decide +kernel
theorem d16_1 : decode jdk_43_method_3_code 1 = .ok (.sipush 255, 3) := by decide +kernel
theorem d16_4 : decode jdk_43_method_3_code 4 = .ok (.if_icmp .gt 7, 3) := by decide +kernel
theorem d16_7 : decode jdk_43_method_3_code 7 = .ok (.iconst 1, 1) := by decide +kernel
theorem d16_8 : decode jdk_43_method_3_code 8 = .ok (.goto 4, 3) := by decide +kernel
theorem d16_12 : decode jdk_43_method_3_code 12 = .ok (.ireturn, 1) := by decide +kernel
def Q_canEnc (Z : State) (ch : Int32) (h0 : Heap) (n0 : Nat) (vR : Option Value) (hR : Heap) (LR : List Loc) : Prop := vR = some (.int 1) ∧ Fr n0 LR ∧ hR = h0
set_option maxRecDepth 65536 in
set_option maxHeartbeats 40000000 in
theorem canEnc (l : Launch) (Z : State) (a0 : Array Value) (hw : ∀ d ∈ tables_1, d.before a0 Z = true) (ws : List Jvm.Cond) (ch : Int32) (h0 : Heap) (n0 : Nat) (Z0 : n0 ≤ h0.size) (hc : ¬ ((255 : Int32) < ch)) :
    own_M l (⟨"java/lang/StringLatin1", "canEncode", "(C)Z"⟩ : MethodName) jdk_43_method_3_code 1 (some .boolean) ws ({ frames := 0, cells := 0, slots := 0, locals := 0 } : Room) Z #[(.int ch)] h0 (Q_canEnc Z ch h0 n0) := by
  refine own_body (own := "java/lang/StringLatin1") rfl (plainFor_of_name pn_16) (fun m => ef_canEnc m ch) ?_
  intro p e s m below meth c s₁ Bd hml hZ hh hx hby hown X0 e0
  have N0 := Fr.nil n0
  refine own_iloadN X0.here hx hby d16_0 rfl ?_
  refine own_sipush X0.here hx hby d16_1 (v := (255 : Int32)) (by decide) ?_
  refine own_icmpNo X0.here hx hby d16_4 (flt hc).2.2.1 ?_
  refine own_iconst X0.here hx hby d16_7 (v := (1 : Int32)) (by decide) ?_
  refine own_goto X0.here hx hby (pc' := 12) d16_8 (by decide) (by decide) ?_
  obtain ⟨fs, hr, hrun, hended, hW, hsame⟩ := X0.leave (v := some (.int 1)) (fun h => by rw [Bd.returns] at h; cases h)
  refine own_ret (t := s₁.setFrames fs) ?_ ⟨_, hrun, hended, _, _, rfl, ?_, ⟨_, rfl⟩, hW, hsame.mono (by decide) (by decide)⟩
  · exact retN X0 hx (t := .boolean) Bd.returns (by simp) (hb hby d16_12) hr
  · show Q_canEnc Z ch h0 n0 _ s₁.heap _
    rw [e0]
    exact ⟨rfl, N0, rfl⟩
theorem ef_toBy1 (m : MethodId) (x0 : Int32) : entryFrame m #[(.int x0)] 1 = mkF m 0 #[.val (.int x0)] [] := by first | (simp [entryFrame, mkF, argsToLocals, Value.category]; done) | rfl
theorem pn_17 : plainName "java/lang/StringLatin1" = true := by first | (simp [plainName, overriddenIn]; done) | decide +kernel
theorem d17_0 : decode jdk_43_method_46_code 0 = .ok (.iconst 1, 1) := by decide +kernel
theorem d17_1 : decode jdk_43_method_46_code 1 = .ok (.newarray .byte, 2) := by decide +kernel
theorem d17_3 : decode jdk_43_method_46_code 3 = .ok (.dup, 1) := by decide +kernel
theorem d17_4 : decode jdk_43_method_46_code 4 = .ok (.iconst 0, 1) := by decide +kernel
theorem d17_5 : decode jdk_43_method_46_code 5 = .ok (.iload_n 0, 1) := by decide +kernel
theorem d17_6 : decode jdk_43_method_46_code 6 = .ok (.i2b, 1) := by decide +kernel
theorem d17_7 : decode jdk_43_method_46_code 7 = .ok (.bastore, 1) := by decide +kernel
theorem d17_8 : decode jdk_43_method_46_code 8 = .ok (.areturn, 1) := by decide +kernel
def Q_toBy1 (Z : State) (ch : Int32) (h0 : Heap) (n0 : Nat) (vR : Option Value) (hR : Heap) (LR : List Loc) : Prop := ∃ (t : Nat) (kb : ClassId), vR = some (.ref t) ∧ Fr n0 LR ∧ Keep h0 hR [] ∧ h0.size ≤ t ∧ (Arv Z hR t kb .byte (1 : Int32) [(.int (ch.toInt8.toInt32))] (.int 0))
set_option maxRecDepth 65536 in
set_option maxHeartbeats 40000000 in
theorem toBy1 (l : Launch) (Z : State) (a0 : Array Value) (hw : ∀ d ∈ tables_1, d.before a0 Z = true) (ws : List Jvm.Cond) (ch : Int32) (h0 : Heap) (n0 : Nat) (Z0 : n0 ≤ h0.size)  :
    own_M l (⟨"java/lang/StringLatin1", "toBytes", "(C)[B"⟩ : MethodName) jdk_43_method_46_code 1 (some (.array .byte)) ws ({ frames := 0, cells := 1, slots := 1, locals := 0 } : Room) Z #[(.int ch)] h0 (Q_toBy1 Z ch h0 n0) := by
  refine own_body (own := "java/lang/StringLatin1") rfl (plainFor_of_name pn_17) (fun m => ef_toBy1 m ch) ?_
  intro p e s m below meth c s₁ Bd hml hZ hh hx hby hown X0 e0
  have N0 := Fr.nil n0
  refine own_iconst X0.here hx hby d17_0 (v := (1 : Int32)) (by decide) ?_
  refine own_newP X0 hx hZ (aty := .byte) (own_w hw 19 rfl) e0 hby d17_1 (by decide) 1 (by decide) (by decide) (by decide) (by decide) (ad := "[B") (by decide) ?_
  intro T1 h1 k1 b1 X1 e1 E1 g1 V1 C1 lt1
  have z2 : h0.size ≤ h1.size := E1.1
  have V3 : Arv Z h1 b1 k1 .byte (1 : Int32) [(.int 0)] (.int 0) := V1.pad (pad_rep [] (.int 0) 1)
  refine own_dup X1.here hx hby d17_3 rfl ?_
  refine own_iconst X1.here hx hby d17_4 (v := (0 : Int32)) (by decide) ?_
  refine own_iloadN X1.here hx hby d17_5 rfl ?_
  refine own_i2b X1.here hx hby d17_6 rfl ?_
  refine own_bastore X1 hx hZ e1 V3 ⟨by decide, by decide⟩ 0 (by decide) (Nat.le_of_ble_eq_true rfl) (w := (.int (ch.toInt8.toInt32))) (congrArg Value.int (own_i2bb ch)) hby d17_7 N0 (by omega) ?_
  intro T4 h4 lo4 X4 e4 N4 W4 V4 z4
  have V5 : Arv Z h4 b1 k1 .byte (1 : Int32) [(.int (ch.toInt8.toInt32))] (.int 0) := V4
  have K6 : Keep h0 h4 [] := (((Keep.refl h0 []).ext E1).wr W4 (Or.inr (by omega)))
  obtain ⟨fs, hr, hrun, hended, hW, hsame⟩ := X4.leave (v := some (.ref b1)) (fun h => by rw [Bd.returns] at h; cases h)
  refine own_ret (t := T4.setFrames fs) ?_ ⟨_, hrun, hended, _, _, rfl, ?_, ⟨_, rfl⟩, hW, hsame.mono (by decide) (by decide)⟩
  · exact retOut X4 hx Bd.returns rfl (Or.inr (Or.inr (Or.inr (Or.inr ⟨rfl, rfl, rfl⟩)))) (hb hby d17_8) hr
  · show Q_toBy1 Z ch h0 n0 _ T4.heap _
    rw [e4]
    exact ⟨b1, k1, rfl, N4, K6, (by omega), V5⟩
theorem ef_bbInit (m : MethodId) (x0 : Nat) (x1 : Nat) (x2 : Int32) : entryFrame m #[(.ref x0), (.ref x1), (.int x2)] 3 = mkF m 0 #[.val (.ref x0), .val (.ref x1), .val (.int x2)] [] := by first | (simp [entryFrame, mkF, argsToLocals, Value.category]; done) | rfl
theorem pn_18 : plainName "java/lang/String" = true := by first | (simp [plainName, overriddenIn]; done) | decide +kernel
theorem d18_0 : decode jdk_42_method_151_code 0 = .ok (.aload_n 0, 1) := by decide +kernel
theorem d18_1 : decode jdk_42_method_151_code 1 = .ok (.invokespecial 1, 3) := by decide +kernel
theorem d18_4 : decode jdk_42_method_151_code 4 = .ok (.aload_n 0, 1) := by decide +kernel
theorem d18_5 : decode jdk_42_method_151_code 5 = .ok (.aload_n 1, 1) := by decide +kernel
theorem d18_6 : decode jdk_42_method_151_code 6 = .ok (.putfield 9, 3) := by decide +kernel
theorem d18_9 : decode jdk_42_method_151_code 9 = .ok (.aload_n 0, 1) := by decide +kernel
theorem d18_10 : decode jdk_42_method_151_code 10 = .ok (.iload_n 2, 1) := by decide +kernel
theorem d18_11 : decode jdk_42_method_151_code 11 = .ok (.putfield 15, 3) := by decide +kernel
theorem d18_14 : decode jdk_42_method_151_code 14 = .ok (.return_, 1) := by decide +kernel
def Q_bbInit (Z : State) (x : Nat) (t : Nat) (h0 : Heap) (n0 : Nat) (vR : Option Value) (hR : Heap) (LR : List Loc) : Prop := vR = none ∧ Fr n0 LR ∧ Keep h0 hR [x] ∧ (Exa Z hR x "java/lang/String") ∧ (Fld Z hR x "java/lang/String" "value" "[B" (.ref t)) ∧ (Fld Z hR x "java/lang/String" "coder" "B" (.int 0))
set_option maxRecDepth 65536 in
set_option maxHeartbeats 40000000 in
theorem bbInit (l : Launch) (Z : State) (a0 : Array Value) (hw : ∀ d ∈ tables_1, d.before a0 Z = true) (ws : List Jvm.Cond) (x : Nat) (t : Nat) (h0 : Heap) (n0 : Nat) (Z0 : n0 ≤ h0.size) (E_x : Exa Z h0 x "java/lang/String") (F_value_x : Fld Z h0 x "java/lang/String" "value" "[B" .null) (F_coder_x : Fld Z h0 x "java/lang/String" "coder" "B" (.int 0)) (g_x : n0 ≤ x) :
    own_M l (⟨"java/lang/String", "<init>", "([BB)V"⟩ : MethodName) jdk_42_method_151_code 3 none ws ({ frames := 1, cells := 0, slots := 0, locals := 12 } : Room) Z #[(.ref x), (.ref t), (.int 0)] h0 (Q_bbInit Z x t h0 n0) := by
  refine own_body (own := "java/lang/String") rfl (plainFor_of_name pn_18) (fun m => ef_bbInit m x t (0 : Int32)) ?_
  intro p e s m below meth c s₁ Bd hml hZ hh hx hby hown X0 e0
  have N0 := Fr.nil n0
  have lt1 : h0.size > x := E_x.lt
  refine own_aloadN X0.here hx hby d18_0 rfl rfl ?_
  refine own_initO X0 hx hZ hown (own_w hw 11 rfl) (own_w hw 12 rfl) (own_w hw 13 rfl) e0 (by rw [hml]; rfl) hby d18_1 (by decide) 0 (Nat.le_of_eq rfl) (by decide) ?_
  intro T2 X2 e2
  refine own_aloadN X2.here hx hby d18_4 rfl rfl ?_
  refine own_aloadN X2.here hx hby d18_5 rfl rfl ?_
  refine own_putF X2 hx hZ (ty := (.array .byte)) hown (host := "") (Or.inl (own_w hw 28 rfl)) Via.refl e2 F_value_x E_x (Or.inr ⟨(own_w hw 29 rfl), rfl, (name_of_methodNamed Bd.named Bd.method).1⟩) (own_w hw 2 rfl) (by decide) rfl rfl hby d18_6 N0 g_x ?_
  intro T3 h3 lo3 X3 e3 N3 W3 F3 z3
  refine own_aloadN X3.here hx hby d18_9 rfl rfl ?_
  refine own_iloadN X3.here hx hby d18_10 rfl ?_
  have f4 : Exa Z h3 x "java/lang/String" := (E_x.wr W3)
  have f5 : Fld Z h3 x "java/lang/String" "coder" "B" (.int 0) := (F_coder_x.other W3 (Or.inr (slot_ne (Or.inr (own_w hw 27 rfl)) (Or.inr (own_w hw 29 rfl)) (by decide) (t := .byte) (t' := (.array .byte)) (by decide) (by decide))))
  refine own_putFN X3 hx hZ (ty := .byte) (v' := (.int 0)) hown (own_w hw 26 rfl) Via.refl e3 f5 f4 (Or.inr ⟨(own_w hw 27 rfl), rfl, (name_of_methodNamed Bd.named Bd.method).1⟩) (own_w hw 2 rfl) (by decide) rfl rfl hby d18_11 N3 g_x ?_
  intro T6 h6 lo6 X6 e6 N6 W6 F6 z6
  have K7 : Keep h0 h6 [x] := (((Keep.refl h0 [x]).wr W3 (Or.inl (List.mem_of_getElem? (i := 0) rfl))).wr W6 (Or.inl (List.mem_of_getElem? (i := 0) rfl)))
  have f8 : Exa Z h6 x "java/lang/String" := (f4.wr W6)
  have f9 : Fld Z h6 x "java/lang/String" "value" "[B" (.ref t) := (F3.other W6 (Or.inr (slot_ne (Or.inr (own_w hw 29 rfl)) (Or.inr (own_w hw 27 rfl)) (by decide) (t := (.array .byte)) (t' := .byte) (by decide) (by decide))))
  obtain ⟨fs, hr, hrun, hended, hW, hsame⟩ := X6.leave (v := none) (fun _ => rfl)
  refine own_ret (t := T6.setFrames fs) ?_ ⟨_, hrun, hended, _, _, rfl, ?_, ⟨_, rfl⟩, hW, hsame.mono (by decide) (by decide)⟩
  · exact X6.returnOut hx Bd.returns (hb hby d18_14) hr
  · show Q_bbInit Z x t h0 n0 _ T6.heap _
    rw [e6]
    exact ⟨rfl, N6, K7, f8, f9, F6⟩
theorem ef_valOf (m : MethodId) (x0 : Int32) : entryFrame m #[(.int x0)] 1 = mkF m 0 #[.val (.int x0)] [] := by first | (simp [entryFrame, mkF, argsToLocals, Value.category]; done) | rfl
theorem pn_15 : plainName "java/lang/String" = true := by first | (simp [plainName, overriddenIn]; done) | decide +kernel
theorem d15_0 : decode jdk_42_method_139_code 0 = .ok (.getstatic 38, 3) := by decide +kernel
theorem d15_3 : decode jdk_42_method_139_code 3 = .ok (.ifCond .eq 23, 3) := by decide +kernel
theorem d15_6 : decode jdk_42_method_139_code 6 = .ok (.iload_n 0, 1) := by decide +kernel
theorem d15_7 : decode jdk_42_method_139_code 7 = .ok (.invokestatic 1015, 3) := by decide +kernel
theorem pd_0 : parseMethodDescriptor "(C)Z" = some ⟨[.char], some .boolean⟩ := by decide +kernel
theorem d15_10 : decode jdk_42_method_139_code 10 = .ok (.ifCond .eq 16, 3) := by decide +kernel
theorem d15_13 : decode jdk_42_method_139_code 13 = .ok (.new 10, 3) := by decide +kernel
theorem d15_16 : decode jdk_42_method_139_code 16 = .ok (.dup, 1) := by decide +kernel
theorem d15_17 : decode jdk_42_method_139_code 17 = .ok (.iload_n 0, 1) := by decide +kernel
theorem d15_18 : decode jdk_42_method_139_code 18 = .ok (.invokestatic 1018, 3) := by decide +kernel
theorem pd_1 : parseMethodDescriptor "(C)[B" = some ⟨[.char], some (.array .byte)⟩ := by decide +kernel
theorem d15_21 : decode jdk_42_method_139_code 21 = .ok (.iconst 0, 1) := by decide +kernel
theorem d15_22 : decode jdk_42_method_139_code 22 = .ok (.invokespecial 209, 3) := by decide +kernel
theorem pd_2 : parseMethodDescriptor "([BB)V" = some ⟨[(.array .byte), .byte], none⟩ := by decide +kernel
theorem d15_25 : decode jdk_42_method_139_code 25 = .ok (.areturn, 1) := by decide +kernel
def Q_valOf (Z : State) (ch : Int32) (zc : Int32) (h0 : Heap) (n0 : Nat) (vR : Option Value) (hR : Heap) (LR : List Loc) : Prop := ∃ (x : Nat) (t : Nat) (kb : ClassId), vR = some (.ref x) ∧ Fr n0 LR ∧ Keep h0 hR [] ∧ h0.size ≤ x ∧ h0.size ≤ t ∧ (x < t) ∧ (Exa Z hR x "java/lang/String") ∧ (Fld Z hR x "java/lang/String" "coder" "B" (.int 0)) ∧ (Fld Z hR x "java/lang/String" "value" "[B" (.ref t)) ∧ (Arv Z hR t kb .byte (1 : Int32) [(.int (ch.toInt8.toInt32))] (.int 0))
set_option maxRecDepth 65536 in
set_option maxHeartbeats 40000000 in
theorem valOf (l : Launch) (Z : State) (a0 : Array Value) (hw : ∀ d ∈ tables_1, d.before a0 Z = true) (ws : List Jvm.Cond) (ch : Int32) (zc : Int32) (h0 : Heap) (n0 : Nat) (Z0 : n0 ≤ h0.size) (S_COMPACT : Sta Z h0 "java/lang/String" "COMPACT_STRINGS" "Z" (.int zc)) (hz : ¬ (zc = (0 : Int32))) (hc : ¬ ((255 : Int32) < ch)) :
    own_M l (⟨"java/lang/String", "valueOf", "(C)Ljava/lang/String;"⟩ : MethodName) jdk_42_method_139_code 1 (some (.object "java/lang/String")) ws ({ frames := 2, cells := 2, slots := 5, locals := 27 } : Room) Z #[(.int ch)] h0 (Q_valOf Z ch zc h0 n0) := by
  refine own_body (own := "java/lang/String") rfl (plainFor_of_name pn_15) (fun m => ef_valOf m ch) ?_
  intro p e s m below meth c s₁ Bd hml hZ hh hx hby hown X0 e0
  have N0 := Fr.nil n0
  refine own_getS X0 hx hZ hown (host := "") (Or.inl (own_w hw 14 rfl)) Via.refl e0 S_COMPACT hby d15_0 ?_
  intro T1 X1 e1
  refine own_ifNo X1.here hx hby d15_3 ((if0 _ _).trans (feq hz).1) ?_
  refine own_iloadN X1.here hx hby d15_6 rfl ?_
  refine own_callS X1 hx hZ hown (own_w hw 102 rfl) (own_w hw 103 rfl) (own_w hw 104 rfl) (own_w hw 105 rfl) (by decide) (canEnc l Z a0 hw [] ch h0 n0 Z0 hc) 0 (Nat.le_of_eq rfl) (by decide) (by decide) (by rw [hml]; rfl) (argsL := [(.int ch)]) (st := []) (lenOf pd_0 rfl) rfl rfl (by decide) (by decide) e1 hby d15_7 ?_
  intro T2 v2 L2 X2 hQ2
  obtain ⟨rfl, Nq2, eh2⟩ := hQ2
  have N2 := Fr.app N0 Nq2
  refine own_sh (T := T2) 10 #[.val (.int ch)] [(.int 1)] ?_
  refine own_ifNo X2.here hx hby d15_10 ((if0 _ _).trans (feq (show ¬ ((1 : Int32) = (0 : Int32)) from (by decide))).1) ?_
  refine own_newO X2 hx hZ hown (own_w hw 106 rfl) (own_w hw 2 rfl) (own_w hw 3 rfl) eh2 hby d15_13 (by decide) (by decide) ?_
  intro T3 h3 b3 X3 e3 E3 g3 A3 D3 lt3
  have z4 : h0.size ≤ h3.size := E3.1
  have F5 : Fld Z h3 b3 "java/lang/String" "coder" "B" (.int 0) := D3 (Or.inr (own_w hw 27 rfl)) (ty := .byte) (by decide)
  have F6 : Fld Z h3 b3 "java/lang/String" "value" "[B" .null := D3 (Or.inr (own_w hw 29 rfl)) (ty := (.array .byte)) (by decide)
  refine own_dup X3.here hx hby d15_16 rfl ?_
  refine own_iloadN X3.here hx hby d15_17 rfl ?_
  have z8 : n0 ≤ h3.size := by omega
  refine own_callS X3 hx hZ hown (own_w hw 107 rfl) (own_w hw 108 rfl) (own_w hw 104 rfl) (own_w hw 109 rfl) (by decide) (toBy1 l Z a0 hw [] ch h3 n0 z8 ) 2 (Nat.le_of_eq rfl) (by decide) (by decide) (by rw [hml]; rfl) (argsL := [(.int ch)]) (st := [(.ref b3), (.ref b3)]) (lenOf pd_1 rfl) rfl rfl (by decide) (by decide) e3 hby d15_18 ?_
  intro T7 v7 L7 X7 hQ7
  obtain ⟨t_7, kb_7, rfl, Nq7, K7, P7_0, P7_1⟩ := hQ7
  have N7 := Fr.app N2 Nq7
  have z9 : h3.size ≤ T7.heap.size := K7.1
  have lt10 : T7.heap.size > t_7 := P7_1.lt
  refine own_sh (T := T7) 21 #[.val (.int ch)] [(.ref t_7), (.ref b3), (.ref b3)] ?_
  refine own_iconst X7.here hx hby d15_21 (v := (0 : Int32)) (by decide) ?_
  have f11 : Exa Z T7.heap b3 "java/lang/String" := (A3.keep K7)
  have f12 : Fld Z T7.heap b3 "java/lang/String" "value" "[B" .null := (F6.keep K7 nin0)
  have f13 : Fld Z T7.heap b3 "java/lang/String" "coder" "B" (.int 0) := (F5.keep K7 nin0)
  have z15 : n0 ≤ T7.heap.size := by omega
  refine own_special X7 hx hZ rfl hown (own_w hw 110 rfl) (own_w hw 111 rfl) (own_w hw 3 rfl) (own_w hw 112 rfl) (by decide) (bbInit l Z a0 hw [] b3 t_7 T7.heap n0 z15 f11 f12 f13 (by omega)) 1 (Nat.le_of_eq rfl) (by decide) (by decide) (by rw [hml]; rfl) (argsL := [(.ref t_7), (.int 0)]) (st := [(.ref b3)]) (a := b3) (lenOf pd_2 rfl) rfl rfl (by decide) (by decide) rfl hby d15_22 ?_
  intro T14 v14 L14 X14 hQ14
  obtain ⟨rfl, Nq14, K14, P14_0, P14_1, P14_2⟩ := hQ14
  have N14 := Fr.app N7 Nq14
  have z16 : T7.heap.size ≤ T14.heap.size := K14.1
  have lt17 : T14.heap.size > b3 := P14_0.lt
  refine own_sh (T := T14) 25 #[.val (.int ch)] [(.ref b3)] ?_
  have K18 : Keep h0 T14.heap [] := ((((Keep.refl h0 []).ext E3).trans K7 all0).trans K14 (allS (P := fun xq_ => xq_ ∈ [] ∨ h0.size ≤ xq_) (Or.inr (by omega)) all0))
  have f19 : Arv Z T14.heap t_7 kb_7 .byte (1 : Int32) [(.int (ch.toInt8.toInt32))] (.int 0) := (P7_1.keep K14 (ninS (own_nn (by omega)) nin0))
  obtain ⟨fs, hr, hrun, hended, hW, hsame⟩ := X14.leave (v := some (.ref b3)) (fun h => by rw [Bd.returns] at h; cases h)
  refine own_ret (t := T14.setFrames fs) ?_ ⟨_, hrun, hended, _, _, rfl, ?_, ⟨_, rfl⟩, hW, hsame.mono (by decide) (by decide)⟩
  · exact retOut X14 hx Bd.returns rfl (Or.inr (Or.inr (Or.inr (Or.inr ⟨rfl, rfl, rfl⟩)))) (hb hby d15_25) hr
  · show Q_valOf Z ch zc h0 n0 _ T14.heap _
    exact ⟨b3, t_7, kb_7, rfl, N14, K18, (by omega), (by omega), (by first | decide | omega | assumption), P14_0, P14_2, P14_1, f19⟩
theorem ef_tabInit (m : MethodId) (x0 : Nat) (x1 : Nat) : entryFrame m #[(.ref x0), (.ref x1)] 2 = mkF m 0 #[.val (.ref x0), .val (.ref x1)] [] := by first | (simp [entryFrame, mkF, argsToLocals, Value.category]; done) | rfl
theorem pn_7 : plainName "com/example/boxwood/boxwood/XmlNodeTable" = true := by first | (simp [plainName, overriddenIn]; done) | decide +kernel
theorem d7_0 : decode prog_60_method_1_code 0 = .ok (.aload_n 0, 1) := by decide +kernel
theorem d7_1 : decode prog_60_method_1_code 1 = .ok (.invokespecial 3, 3) := by decide +kernel
theorem d7_4 : decode prog_60_method_1_code 4 = .ok (.aload_n 0, 1) := by decide +kernel
theorem d7_5 : decode prog_60_method_1_code 5 = .ok (.iconst 1, 1) := by decide +kernel
theorem d7_6 : decode prog_60_method_1_code 6 = .ok (.anewarray 9, 3) := by decide +kernel
theorem d7_9 : decode prog_60_method_1_code 9 = .ok (.putfield 11, 3) := by decide +kernel
theorem d7_12 : decode prog_60_method_1_code 12 = .ok (.aload_n 0, 1) := by decide +kernel
theorem d7_13 : decode prog_60_method_1_code 13 = .ok (.iconst 1, 1) := by decide +kernel
theorem d7_14 : decode prog_60_method_1_code 14 = .ok (.anewarray 15, 3) := by decide +kernel
theorem d7_17 : decode prog_60_method_1_code 17 = .ok (.putfield 17, 3) := by decide +kernel
theorem d7_20 : decode prog_60_method_1_code 20 = .ok (.aload_n 0, 1) := by decide +kernel
theorem d7_21 : decode prog_60_method_1_code 21 = .ok (.iconst 1, 1) := by decide +kernel
theorem d7_22 : decode prog_60_method_1_code 22 = .ok (.anewarray 9, 3) := by decide +kernel
theorem d7_25 : decode prog_60_method_1_code 25 = .ok (.putfield 21, 3) := by decide +kernel
theorem d7_28 : decode prog_60_method_1_code 28 = .ok (.aload_n 0, 1) := by decide +kernel
theorem d7_29 : decode prog_60_method_1_code 29 = .ok (.iconst 1, 1) := by decide +kernel
theorem d7_30 : decode prog_60_method_1_code 30 = .ok (.anewarray 15, 3) := by decide +kernel
theorem d7_33 : decode prog_60_method_1_code 33 = .ok (.putfield 24, 3) := by decide +kernel
theorem d7_36 : decode prog_60_method_1_code 36 = .ok (.aload_n 0, 1) := by decide +kernel
theorem d7_37 : decode prog_60_method_1_code 37 = .ok (.iconst 1, 1) := by decide +kernel
theorem d7_38 : decode prog_60_method_1_code 38 = .ok (.anewarray 27, 3) := by decide +kernel
theorem d7_41 : decode prog_60_method_1_code 41 = .ok (.putfield 29, 3) := by decide +kernel
theorem d7_44 : decode prog_60_method_1_code 44 = .ok (.aload_n 0, 1) := by decide +kernel
theorem d7_45 : decode prog_60_method_1_code 45 = .ok (.aload_n 1, 1) := by decide +kernel
theorem d7_46 : decode prog_60_method_1_code 46 = .ok (.putfield 33, 3) := by decide +kernel
theorem d7_49 : decode prog_60_method_1_code 49 = .ok (.return_, 1) := by decide +kernel
def Q_tabInit (Z : State) (t : Nat) (ct : Nat) (h0 : Heap) (n0 : Nat) (vR : Option Value) (hR : Heap) (LR : List Loc) : Prop := ∃ (aN : Nat) (kaN : ClassId) (aS : Nat) (kaS : ClassId) (aA : Nat) (kaA : ClassId) (aM : Nat) (kaM : ClassId) (aW : Nat) (kaW : ClassId), vR = none ∧ Fr n0 LR ∧ Keep h0 hR [t] ∧ (Exa Z hR t "com/example/boxwood/boxwood/XmlNodeTable") ∧ (Fld Z hR t "com/example/boxwood/boxwood/XmlNodeTable" "size" "I" (.int 0)) ∧ (Fld Z hR t "com/example/boxwood/boxwood/XmlNodeTable" "attributeCount" "I" (.int 0)) ∧ h0.size ≤ aN ∧ (Fld Z hR t "com/example/boxwood/boxwood/XmlNodeTable" "numbers" "[[I" (.ref aN)) ∧ (Arv Z hR aN kaN (.array .int) (1 : Int32) [.null] .null) ∧ (OvrA Z kaN .int "[I") ∧ h0.size ≤ aS ∧ (Fld Z hR t "com/example/boxwood/boxwood/XmlNodeTable" "strings" "[[Ljava/lang/String;" (.ref aS)) ∧ (Arv Z hR aS kaS (.array (.object "java/lang/String")) (1 : Int32) [.null] .null) ∧ (OvrA Z kaS (.object "java/lang/String") "[Ljava/lang/String;") ∧ h0.size ≤ aA ∧ (Fld Z hR t "com/example/boxwood/boxwood/XmlNodeTable" "attributeNumbers" "[[I" (.ref aA)) ∧ (Arv Z hR aA kaA (.array .int) (1 : Int32) [.null] .null) ∧ (OvrA Z kaA .int "[I") ∧ h0.size ≤ aM ∧ (Fld Z hR t "com/example/boxwood/boxwood/XmlNodeTable" "attributeNames" "[[Ljava/lang/String;" (.ref aM)) ∧ (Arv Z hR aM kaM (.array (.object "java/lang/String")) (1 : Int32) [.null] .null) ∧ (OvrA Z kaM (.object "java/lang/String") "[Ljava/lang/String;") ∧ h0.size ≤ aW ∧ (Fld Z hR t "com/example/boxwood/boxwood/XmlNodeTable" "attributeValues" "[[Lcom/example/boxwood/boxwood/XmlValue;" (.ref aW)) ∧ (Arv Z hR aW kaW (.array (.object "com/example/boxwood/boxwood/XmlValue")) (1 : Int32) [.null] .null) ∧ (OvrA Z kaW (.object "com/example/boxwood/boxwood/XmlValue") "[Lcom/example/boxwood/boxwood/XmlValue;") ∧ (aN < aS) ∧ (aS < aA) ∧ (aA < aM) ∧ (aM < aW)
set_option maxRecDepth 65536 in
set_option maxHeartbeats 40000000 in
theorem tabInit (l : Launch) (Z : State) (a0 : Array Value) (hw : ∀ d ∈ tables_1, d.before a0 Z = true) (ws : List Jvm.Cond) (t : Nat) (ct : Nat) (h0 : Heap) (n0 : Nat) (Z0 : n0 ≤ h0.size) (E_t : Exa Z h0 t "com/example/boxwood/boxwood/XmlNodeTable") (F_content_t : Fld Z h0 t "com/example/boxwood/boxwood/XmlNodeTable" "content" "[B" .null) (g_t : n0 ≤ t) (F_numbers_t : Fld Z h0 t "com/example/boxwood/boxwood/XmlNodeTable" "numbers" "[[I" .null) (F_strings_t : Fld Z h0 t "com/example/boxwood/boxwood/XmlNodeTable" "strings" "[[Ljava/lang/String;" .null) (F_attributeNumbers_t : Fld Z h0 t "com/example/boxwood/boxwood/XmlNodeTable" "attributeNumbers" "[[I" .null) (F_attributeNames_t : Fld Z h0 t "com/example/boxwood/boxwood/XmlNodeTable" "attributeNames" "[[Ljava/lang/String;" .null) (F_attributeValues_t : Fld Z h0 t "com/example/boxwood/boxwood/XmlNodeTable" "attributeValues" "[[Lcom/example/boxwood/boxwood/XmlValue;" .null) (F_size_t : Fld Z h0 t "com/example/boxwood/boxwood/XmlNodeTable" "size" "I" (.int 0)) (F_attributeCount_t : Fld Z h0 t "com/example/boxwood/boxwood/XmlNodeTable" "attributeCount" "I" (.int 0)) :
    own_M l (⟨"com/example/boxwood/boxwood/XmlNodeTable", "<init>", "([B)V"⟩ : MethodName) prog_60_method_1_code 2 none ws ({ frames := 1, cells := 5, slots := 5, locals := 12 } : Room) Z #[(.ref t), (.ref ct)] h0 (Q_tabInit Z t ct h0 n0) := by
  refine own_body (own := "com/example/boxwood/boxwood/XmlNodeTable") rfl (plainFor_of_name pn_7) (fun m => ef_tabInit m t ct) ?_
  intro p e s m below meth c s₁ Bd hml hZ hh hx hby hown X0 e0
  have N0 := Fr.nil n0
  have lt1 : h0.size > t := E_t.lt
  refine own_aloadN X0.here hx hby d7_0 rfl rfl ?_
  refine own_initO X0 hx hZ hown (own_w hw 36 rfl) (own_w hw 12 rfl) (own_w hw 13 rfl) e0 (by rw [hml]; rfl) hby d7_1 (by decide) 0 (Nat.le_of_eq rfl) (by decide) ?_
  intro T2 X2 e2
  refine own_aloadN X2.here hx hby d7_4 rfl rfl ?_
  refine own_iconst X2.here hx hby d7_5 (v := (1 : Int32)) (by decide) ?_
  refine own_newRA X2 hx hZ (C := "[I") (ty := .int) hown (by decide) (own_w hw 37 rfl) (own_w hw 38 rfl) e2 hby d7_6 (by decide) 1 (by decide) (by decide) (by decide) (by decide) (ad := "[[I") (by decide) ?_
  intro T3 h3 k3 b3 X3 e3 E3 g3 V3 C3 O3 lt3
  have z4 : h0.size ≤ h3.size := E3.1
  have V5 : Arv Z h3 b3 k3 (.array .int) (1 : Int32) [.null] .null := V3.pad (pad_rep [] .null 1)
  have f6 : Exa Z h3 t "com/example/boxwood/boxwood/XmlNodeTable" := (E_t.ext E3)
  have f7 : Fld Z h3 t "com/example/boxwood/boxwood/XmlNodeTable" "numbers" "[[I" .null := (F_numbers_t.ext E3)
  refine own_putF X3 hx hZ (ty := (.array (.array .int))) hown (host := "") (Or.inl (own_w hw 39 rfl)) Via.refl e3 f7 f6 (Or.inl (own_w hw 40 rfl)) (own_w hw 31 rfl) (by decide) rfl rfl hby d7_9 N0 g_t ?_
  intro T8 h8 lo8 X8 e8 N8 W8 F8 z8
  refine own_aloadN X8.here hx hby d7_12 rfl rfl ?_
  refine own_iconst X8.here hx hby d7_13 (v := (1 : Int32)) (by decide) ?_
  refine own_newRA X8 hx hZ (C := "[Ljava/lang/String;") (ty := (.object "java/lang/String")) hown (by decide) (own_w hw 41 rfl) (own_w hw 42 rfl) e8 hby d7_14 (by decide) 1 (by decide) (by decide) (by decide) (by decide) (ad := "[[Ljava/lang/String;") (by decide) ?_
  intro T9 h9 k9 b9 X9 e9 E9 g9 V9 C9 O9 lt9
  have z10 : h8.size ≤ h9.size := E9.1
  have V11 : Arv Z h9 b9 k9 (.array (.object "java/lang/String")) (1 : Int32) [.null] .null := V9.pad (pad_rep [] .null 1)
  have f12 : Exa Z h9 t "com/example/boxwood/boxwood/XmlNodeTable" := ((f6.wr W8).ext E9)
  have f13 : Fld Z h9 t "com/example/boxwood/boxwood/XmlNodeTable" "strings" "[[Ljava/lang/String;" .null := (((F_strings_t.ext E3).other W8 (Or.inr (slot_ne (Or.inl (own_w hw 44 rfl)) (Or.inl (own_w hw 40 rfl)) (by decide) (t := (.array (.array (.object "java/lang/String")))) (t' := (.array (.array .int))) (by decide) (by decide)))).ext E9)
  refine own_putF X9 hx hZ (ty := (.array (.array (.object "java/lang/String")))) hown (host := "") (Or.inl (own_w hw 43 rfl)) Via.refl e9 f13 f12 (Or.inl (own_w hw 44 rfl)) (own_w hw 31 rfl) (by decide) rfl rfl hby d7_17 N8 g_t ?_
  intro T14 h14 lo14 X14 e14 N14 W14 F14 z14
  refine own_aloadN X14.here hx hby d7_20 rfl rfl ?_
  refine own_iconst X14.here hx hby d7_21 (v := (1 : Int32)) (by decide) ?_
  refine own_newRA X14 hx hZ (C := "[I") (ty := .int) hown (by decide) (own_w hw 37 rfl) (own_w hw 38 rfl) e14 hby d7_22 (by decide) 1 (by decide) (by decide) (by decide) (by decide) (ad := "[[I") (by decide) ?_
  intro T15 h15 k15 b15 X15 e15 E15 g15 V15 C15 O15 lt15
  have z16 : h14.size ≤ h15.size := E15.1
  have V17 : Arv Z h15 b15 k15 (.array .int) (1 : Int32) [.null] .null := V15.pad (pad_rep [] .null 1)
  have f18 : Exa Z h15 t "com/example/boxwood/boxwood/XmlNodeTable" := ((f12.wr W14).ext E15)
  have f19 : Fld Z h15 t "com/example/boxwood/boxwood/XmlNodeTable" "attributeNumbers" "[[I" .null := (((((F_attributeNumbers_t.ext E3).other W8 (Or.inr (slot_ne (Or.inl (own_w hw 46 rfl)) (Or.inl (own_w hw 40 rfl)) (by decide) (t := (.array (.array .int))) (t' := (.array (.array .int))) (by decide) (by decide)))).ext E9).other W14 (Or.inr (slot_ne (Or.inl (own_w hw 46 rfl)) (Or.inl (own_w hw 44 rfl)) (by decide) (t := (.array (.array .int))) (t' := (.array (.array (.object "java/lang/String")))) (by decide) (by decide)))).ext E15)
  refine own_putF X15 hx hZ (ty := (.array (.array .int))) hown (host := "") (Or.inl (own_w hw 45 rfl)) Via.refl e15 f19 f18 (Or.inl (own_w hw 46 rfl)) (own_w hw 31 rfl) (by decide) rfl rfl hby d7_25 N14 g_t ?_
  intro T20 h20 lo20 X20 e20 N20 W20 F20 z20
  refine own_aloadN X20.here hx hby d7_28 rfl rfl ?_
  refine own_iconst X20.here hx hby d7_29 (v := (1 : Int32)) (by decide) ?_
  refine own_newRA X20 hx hZ (C := "[Ljava/lang/String;") (ty := (.object "java/lang/String")) hown (by decide) (own_w hw 41 rfl) (own_w hw 42 rfl) e20 hby d7_30 (by decide) 1 (by decide) (by decide) (by decide) (by decide) (ad := "[[Ljava/lang/String;") (by decide) ?_
  intro T21 h21 k21 b21 X21 e21 E21 g21 V21 C21 O21 lt21
  have z22 : h20.size ≤ h21.size := E21.1
  have V23 : Arv Z h21 b21 k21 (.array (.object "java/lang/String")) (1 : Int32) [.null] .null := V21.pad (pad_rep [] .null 1)
  have f24 : Exa Z h21 t "com/example/boxwood/boxwood/XmlNodeTable" := ((f18.wr W20).ext E21)
  have f25 : Fld Z h21 t "com/example/boxwood/boxwood/XmlNodeTable" "attributeNames" "[[Ljava/lang/String;" .null := (((((((F_attributeNames_t.ext E3).other W8 (Or.inr (slot_ne (Or.inl (own_w hw 48 rfl)) (Or.inl (own_w hw 40 rfl)) (by decide) (t := (.array (.array (.object "java/lang/String")))) (t' := (.array (.array .int))) (by decide) (by decide)))).ext E9).other W14 (Or.inr (slot_ne (Or.inl (own_w hw 48 rfl)) (Or.inl (own_w hw 44 rfl)) (by decide) (t := (.array (.array (.object "java/lang/String")))) (t' := (.array (.array (.object "java/lang/String")))) (by decide) (by decide)))).ext E15).other W20 (Or.inr (slot_ne (Or.inl (own_w hw 48 rfl)) (Or.inl (own_w hw 46 rfl)) (by decide) (t := (.array (.array (.object "java/lang/String")))) (t' := (.array (.array .int))) (by decide) (by decide)))).ext E21)
  refine own_putF X21 hx hZ (ty := (.array (.array (.object "java/lang/String")))) hown (host := "") (Or.inl (own_w hw 47 rfl)) Via.refl e21 f25 f24 (Or.inl (own_w hw 48 rfl)) (own_w hw 31 rfl) (by decide) rfl rfl hby d7_33 N20 g_t ?_
  intro T26 h26 lo26 X26 e26 N26 W26 F26 z26
  refine own_aloadN X26.here hx hby d7_36 rfl rfl ?_
  refine own_iconst X26.here hx hby d7_37 (v := (1 : Int32)) (by decide) ?_
  refine own_newRA X26 hx hZ (C := "[Lcom/example/boxwood/boxwood/XmlValue;") (ty := (.object "com/example/boxwood/boxwood/XmlValue")) hown (by decide) (own_w hw 49 rfl) (own_w hw 50 rfl) e26 hby d7_38 (by decide) 1 (by decide) (by decide) (by decide) (by decide) (ad := "[[Lcom/example/boxwood/boxwood/XmlValue;") (by decide) ?_
  intro T27 h27 k27 b27 X27 e27 E27 g27 V27 C27 O27 lt27
  have z28 : h26.size ≤ h27.size := E27.1
  have V29 : Arv Z h27 b27 k27 (.array (.object "com/example/boxwood/boxwood/XmlValue")) (1 : Int32) [.null] .null := V27.pad (pad_rep [] .null 1)
  have f30 : Exa Z h27 t "com/example/boxwood/boxwood/XmlNodeTable" := ((f24.wr W26).ext E27)
  have f31 : Fld Z h27 t "com/example/boxwood/boxwood/XmlNodeTable" "attributeValues" "[[Lcom/example/boxwood/boxwood/XmlValue;" .null := (((((((((F_attributeValues_t.ext E3).other W8 (Or.inr (slot_ne (Or.inl (own_w hw 52 rfl)) (Or.inl (own_w hw 40 rfl)) (by decide) (t := (.array (.array (.object "com/example/boxwood/boxwood/XmlValue")))) (t' := (.array (.array .int))) (by decide) (by decide)))).ext E9).other W14 (Or.inr (slot_ne (Or.inl (own_w hw 52 rfl)) (Or.inl (own_w hw 44 rfl)) (by decide) (t := (.array (.array (.object "com/example/boxwood/boxwood/XmlValue")))) (t' := (.array (.array (.object "java/lang/String")))) (by decide) (by decide)))).ext E15).other W20 (Or.inr (slot_ne (Or.inl (own_w hw 52 rfl)) (Or.inl (own_w hw 46 rfl)) (by decide) (t := (.array (.array (.object "com/example/boxwood/boxwood/XmlValue")))) (t' := (.array (.array .int))) (by decide) (by decide)))).ext E21).other W26 (Or.inr (slot_ne (Or.inl (own_w hw 52 rfl)) (Or.inl (own_w hw 48 rfl)) (by decide) (t := (.array (.array (.object "com/example/boxwood/boxwood/XmlValue")))) (t' := (.array (.array (.object "java/lang/String")))) (by decide) (by decide)))).ext E27)
  refine own_putF X27 hx hZ (ty := (.array (.array (.object "com/example/boxwood/boxwood/XmlValue")))) hown (host := "") (Or.inl (own_w hw 51 rfl)) Via.refl e27 f31 f30 (Or.inl (own_w hw 52 rfl)) (own_w hw 31 rfl) (by decide) rfl rfl hby d7_41 N26 g_t ?_
  intro T32 h32 lo32 X32 e32 N32 W32 F32 z32
  refine own_aloadN X32.here hx hby d7_44 rfl rfl ?_
  refine own_aloadN X32.here hx hby d7_45 rfl rfl ?_
  have f33 : Exa Z h32 t "com/example/boxwood/boxwood/XmlNodeTable" := (f30.wr W32)
  have f34 : Fld Z h32 t "com/example/boxwood/boxwood/XmlNodeTable" "content" "[B" .null := ((((((((((F_content_t.ext E3).other W8 (Or.inr (slot_ne (Or.inr (own_w hw 54 rfl)) (Or.inl (own_w hw 40 rfl)) (by decide) (t := (.array .byte)) (t' := (.array (.array .int))) (by decide) (by decide)))).ext E9).other W14 (Or.inr (slot_ne (Or.inr (own_w hw 54 rfl)) (Or.inl (own_w hw 44 rfl)) (by decide) (t := (.array .byte)) (t' := (.array (.array (.object "java/lang/String")))) (by decide) (by decide)))).ext E15).other W20 (Or.inr (slot_ne (Or.inr (own_w hw 54 rfl)) (Or.inl (own_w hw 46 rfl)) (by decide) (t := (.array .byte)) (t' := (.array (.array .int))) (by decide) (by decide)))).ext E21).other W26 (Or.inr (slot_ne (Or.inr (own_w hw 54 rfl)) (Or.inl (own_w hw 48 rfl)) (by decide) (t := (.array .byte)) (t' := (.array (.array (.object "java/lang/String")))) (by decide) (by decide)))).ext E27).other W32 (Or.inr (slot_ne (Or.inr (own_w hw 54 rfl)) (Or.inl (own_w hw 52 rfl)) (by decide) (t := (.array .byte)) (t' := (.array (.array (.object "com/example/boxwood/boxwood/XmlValue")))) (by decide) (by decide))))
  refine own_putF X32 hx hZ (ty := (.array .byte)) hown (host := "") (Or.inl (own_w hw 53 rfl)) Via.refl e32 f34 f33 (Or.inr ⟨(own_w hw 54 rfl), rfl, (name_of_methodNamed Bd.named Bd.method).1⟩) (own_w hw 31 rfl) (by decide) rfl rfl hby d7_46 N32 g_t ?_
  intro T35 h35 lo35 X35 e35 N35 W35 F35 z35
  have K36 : Keep h0 h35 [t] := ((((((((((((Keep.refl h0 [t]).ext E3).wr W8 (Or.inl (List.mem_of_getElem? (i := 0) rfl))).ext E9).wr W14 (Or.inl (List.mem_of_getElem? (i := 0) rfl))).ext E15).wr W20 (Or.inl (List.mem_of_getElem? (i := 0) rfl))).ext E21).wr W26 (Or.inl (List.mem_of_getElem? (i := 0) rfl))).ext E27).wr W32 (Or.inl (List.mem_of_getElem? (i := 0) rfl))).wr W35 (Or.inl (List.mem_of_getElem? (i := 0) rfl)))
  have f37 : Exa Z h35 t "com/example/boxwood/boxwood/XmlNodeTable" := (f33.wr W35)
  have f38 : Fld Z h35 t "com/example/boxwood/boxwood/XmlNodeTable" "size" "I" (.int 0) := (((((((((((F_size_t.ext E3).other W8 (Or.inr (slot_ne (Or.inl (own_w hw 65 rfl)) (Or.inl (own_w hw 40 rfl)) (by decide) (t := .int) (t' := (.array (.array .int))) (by decide) (by decide)))).ext E9).other W14 (Or.inr (slot_ne (Or.inl (own_w hw 65 rfl)) (Or.inl (own_w hw 44 rfl)) (by decide) (t := .int) (t' := (.array (.array (.object "java/lang/String")))) (by decide) (by decide)))).ext E15).other W20 (Or.inr (slot_ne (Or.inl (own_w hw 65 rfl)) (Or.inl (own_w hw 46 rfl)) (by decide) (t := .int) (t' := (.array (.array .int))) (by decide) (by decide)))).ext E21).other W26 (Or.inr (slot_ne (Or.inl (own_w hw 65 rfl)) (Or.inl (own_w hw 48 rfl)) (by decide) (t := .int) (t' := (.array (.array (.object "java/lang/String")))) (by decide) (by decide)))).ext E27).other W32 (Or.inr (slot_ne (Or.inl (own_w hw 65 rfl)) (Or.inl (own_w hw 52 rfl)) (by decide) (t := .int) (t' := (.array (.array (.object "com/example/boxwood/boxwood/XmlValue")))) (by decide) (by decide)))).other W35 (Or.inr (slot_ne (Or.inl (own_w hw 65 rfl)) (Or.inr (own_w hw 54 rfl)) (by decide) (t := .int) (t' := (.array .byte)) (by decide) (by decide))))
  have f39 : Fld Z h35 t "com/example/boxwood/boxwood/XmlNodeTable" "attributeCount" "I" (.int 0) := (((((((((((F_attributeCount_t.ext E3).other W8 (Or.inr (slot_ne (Or.inl (own_w hw 72 rfl)) (Or.inl (own_w hw 40 rfl)) (by decide) (t := .int) (t' := (.array (.array .int))) (by decide) (by decide)))).ext E9).other W14 (Or.inr (slot_ne (Or.inl (own_w hw 72 rfl)) (Or.inl (own_w hw 44 rfl)) (by decide) (t := .int) (t' := (.array (.array (.object "java/lang/String")))) (by decide) (by decide)))).ext E15).other W20 (Or.inr (slot_ne (Or.inl (own_w hw 72 rfl)) (Or.inl (own_w hw 46 rfl)) (by decide) (t := .int) (t' := (.array (.array .int))) (by decide) (by decide)))).ext E21).other W26 (Or.inr (slot_ne (Or.inl (own_w hw 72 rfl)) (Or.inl (own_w hw 48 rfl)) (by decide) (t := .int) (t' := (.array (.array (.object "java/lang/String")))) (by decide) (by decide)))).ext E27).other W32 (Or.inr (slot_ne (Or.inl (own_w hw 72 rfl)) (Or.inl (own_w hw 52 rfl)) (by decide) (t := .int) (t' := (.array (.array (.object "com/example/boxwood/boxwood/XmlValue")))) (by decide) (by decide)))).other W35 (Or.inr (slot_ne (Or.inl (own_w hw 72 rfl)) (Or.inr (own_w hw 54 rfl)) (by decide) (t := .int) (t' := (.array .byte)) (by decide) (by decide))))
  have f40 : Fld Z h35 t "com/example/boxwood/boxwood/XmlNodeTable" "numbers" "[[I" (.ref b3) := (((((((((F8.ext E9).other W14 (Or.inr (slot_ne (Or.inl (own_w hw 40 rfl)) (Or.inl (own_w hw 44 rfl)) (by decide) (t := (.array (.array .int))) (t' := (.array (.array (.object "java/lang/String")))) (by decide) (by decide)))).ext E15).other W20 (Or.inr (slot_ne (Or.inl (own_w hw 40 rfl)) (Or.inl (own_w hw 46 rfl)) (by decide) (t := (.array (.array .int))) (t' := (.array (.array .int))) (by decide) (by decide)))).ext E21).other W26 (Or.inr (slot_ne (Or.inl (own_w hw 40 rfl)) (Or.inl (own_w hw 48 rfl)) (by decide) (t := (.array (.array .int))) (t' := (.array (.array (.object "java/lang/String")))) (by decide) (by decide)))).ext E27).other W32 (Or.inr (slot_ne (Or.inl (own_w hw 40 rfl)) (Or.inl (own_w hw 52 rfl)) (by decide) (t := (.array (.array .int))) (t' := (.array (.array (.object "com/example/boxwood/boxwood/XmlValue")))) (by decide) (by decide)))).other W35 (Or.inr (slot_ne (Or.inl (own_w hw 40 rfl)) (Or.inr (own_w hw 54 rfl)) (by decide) (t := (.array (.array .int))) (t' := (.array .byte)) (by decide) (by decide))))
  have f41 : Arv Z h35 b3 k3 (.array .int) (1 : Int32) [.null] .null := ((((((((((V5.other W8 (own_nn (by omega))).ext E9).other W14 (own_nn (by omega))).ext E15).other W20 (own_nn (by omega))).ext E21).other W26 (own_nn (by omega))).ext E27).other W32 (own_nn (by omega))).other W35 (own_nn (by omega)))
  have f42 : Fld Z h35 t "com/example/boxwood/boxwood/XmlNodeTable" "strings" "[[Ljava/lang/String;" (.ref b9) := (((((((F14.ext E15).other W20 (Or.inr (slot_ne (Or.inl (own_w hw 44 rfl)) (Or.inl (own_w hw 46 rfl)) (by decide) (t := (.array (.array (.object "java/lang/String")))) (t' := (.array (.array .int))) (by decide) (by decide)))).ext E21).other W26 (Or.inr (slot_ne (Or.inl (own_w hw 44 rfl)) (Or.inl (own_w hw 48 rfl)) (by decide) (t := (.array (.array (.object "java/lang/String")))) (t' := (.array (.array (.object "java/lang/String")))) (by decide) (by decide)))).ext E27).other W32 (Or.inr (slot_ne (Or.inl (own_w hw 44 rfl)) (Or.inl (own_w hw 52 rfl)) (by decide) (t := (.array (.array (.object "java/lang/String")))) (t' := (.array (.array (.object "com/example/boxwood/boxwood/XmlValue")))) (by decide) (by decide)))).other W35 (Or.inr (slot_ne (Or.inl (own_w hw 44 rfl)) (Or.inr (own_w hw 54 rfl)) (by decide) (t := (.array (.array (.object "java/lang/String")))) (t' := (.array .byte)) (by decide) (by decide))))
  have f43 : Arv Z h35 b9 k9 (.array (.object "java/lang/String")) (1 : Int32) [.null] .null := ((((((((V11.other W14 (own_nn (by omega))).ext E15).other W20 (own_nn (by omega))).ext E21).other W26 (own_nn (by omega))).ext E27).other W32 (own_nn (by omega))).other W35 (own_nn (by omega)))
  have f44 : Fld Z h35 t "com/example/boxwood/boxwood/XmlNodeTable" "attributeNumbers" "[[I" (.ref b15) := (((((F20.ext E21).other W26 (Or.inr (slot_ne (Or.inl (own_w hw 46 rfl)) (Or.inl (own_w hw 48 rfl)) (by decide) (t := (.array (.array .int))) (t' := (.array (.array (.object "java/lang/String")))) (by decide) (by decide)))).ext E27).other W32 (Or.inr (slot_ne (Or.inl (own_w hw 46 rfl)) (Or.inl (own_w hw 52 rfl)) (by decide) (t := (.array (.array .int))) (t' := (.array (.array (.object "com/example/boxwood/boxwood/XmlValue")))) (by decide) (by decide)))).other W35 (Or.inr (slot_ne (Or.inl (own_w hw 46 rfl)) (Or.inr (own_w hw 54 rfl)) (by decide) (t := (.array (.array .int))) (t' := (.array .byte)) (by decide) (by decide))))
  have f45 : Arv Z h35 b15 k15 (.array .int) (1 : Int32) [.null] .null := ((((((V17.other W20 (own_nn (by omega))).ext E21).other W26 (own_nn (by omega))).ext E27).other W32 (own_nn (by omega))).other W35 (own_nn (by omega)))
  have f46 : Fld Z h35 t "com/example/boxwood/boxwood/XmlNodeTable" "attributeNames" "[[Ljava/lang/String;" (.ref b21) := (((F26.ext E27).other W32 (Or.inr (slot_ne (Or.inl (own_w hw 48 rfl)) (Or.inl (own_w hw 52 rfl)) (by decide) (t := (.array (.array (.object "java/lang/String")))) (t' := (.array (.array (.object "com/example/boxwood/boxwood/XmlValue")))) (by decide) (by decide)))).other W35 (Or.inr (slot_ne (Or.inl (own_w hw 48 rfl)) (Or.inr (own_w hw 54 rfl)) (by decide) (t := (.array (.array (.object "java/lang/String")))) (t' := (.array .byte)) (by decide) (by decide))))
  have f47 : Arv Z h35 b21 k21 (.array (.object "java/lang/String")) (1 : Int32) [.null] .null := ((((V23.other W26 (own_nn (by omega))).ext E27).other W32 (own_nn (by omega))).other W35 (own_nn (by omega)))
  have f48 : Fld Z h35 t "com/example/boxwood/boxwood/XmlNodeTable" "attributeValues" "[[Lcom/example/boxwood/boxwood/XmlValue;" (.ref b27) := (F32.other W35 (Or.inr (slot_ne (Or.inl (own_w hw 52 rfl)) (Or.inr (own_w hw 54 rfl)) (by decide) (t := (.array (.array (.object "com/example/boxwood/boxwood/XmlValue")))) (t' := (.array .byte)) (by decide) (by decide))))
  have f49 : Arv Z h35 b27 k27 (.array (.object "com/example/boxwood/boxwood/XmlValue")) (1 : Int32) [.null] .null := ((V29.other W32 (own_nn (by omega))).other W35 (own_nn (by omega)))
  obtain ⟨fs, hr, hrun, hended, hW, hsame⟩ := X35.leave (v := none) (fun _ => rfl)
  refine own_ret (t := T35.setFrames fs) ?_ ⟨_, hrun, hended, _, _, rfl, ?_, ⟨_, rfl⟩, hW, hsame.mono (by decide) (by decide)⟩
  · exact X35.returnOut hx Bd.returns (hb hby d7_49) hr
  · show Q_tabInit Z t ct h0 n0 _ T35.heap _
    rw [e35]
    exact ⟨b3, k3, b9, k9, b15, k15, b21, k21, b27, k27, rfl, N35, K36, f37, f38, f39, (by omega), f40, f41, O3, (by omega), f42, f43, O9, (by omega), f44, f45, O15, (by omega), f46, f47, O21, (by omega), f48, f49, O27, (by first | decide | omega | assumption), (by first | decide | omega | assumption), (by first | decide | omega | assumption), (by first | decide | omega | assumption)⟩
theorem ef_add_0 (m : MethodId) (x0 : Nat) (x1 : Int32) (x2 : Int32) (x3 : Int32) : entryFrame m #[(.ref x0), (.int x1), (.int x2), (.int x3)] 7 = mkF m 0 #[.val (.ref x0), .val (.int x1), .val (.int x2), .val (.int x3), .unset, .unset, .unset] [] := by first | (simp [entryFrame, mkF, argsToLocals, Value.category]; done) | rfl
theorem pn_9 : plainName "com/example/boxwood/boxwood/XmlNodeTable" = true := by first | (simp [plainName, overriddenIn]; done) | decide +kernel
theorem d9_0 : decode prog_60_method_24_code 0 = .ok (.aload_n 0, 1) := by decide +kernel
theorem d9_1 : decode prog_60_method_24_code 1 = .ok (.dup, 1) := by decide +kernel
theorem d9_2 : decode prog_60_method_24_code 2 = .ok (.getfield 53, 3) := by decide +kernel
theorem d9_5 : decode prog_60_method_24_code 5 = .ok (.dup_x1, 1) := by decide +kernel
theorem d9_6 : decode prog_60_method_24_code 6 = .ok (.iconst 1, 1) := by decide +kernel
theorem d9_7 : decode prog_60_method_24_code 7 = .ok (.iadd, 1) := by decide +kernel
theorem d9_8 : decode prog_60_method_24_code 8 = .ok (.putfield 53, 3) := by decide +kernel
theorem d9_11 : decode prog_60_method_24_code 11 = .ok (.istore 4, 2) := by decide +kernel
theorem d9_13 : decode prog_60_method_24_code 13 = .ok (.iload 4, 2) := by decide +kernel
theorem d9_15 : decode prog_60_method_24_code 15 = .ok (.sipush 4095, 3) := by decide +kernel
theorem d9_18 : decode prog_60_method_24_code 18 = .ok (.iand, 1) := by decide +kernel
theorem d9_19 : decode prog_60_method_24_code 19 = .ok (.ifCond .ne 81, 3) := by decide +kernel
theorem d9_22 : decode prog_60_method_24_code 22 = .ok (.iload 4, 2) := by decide +kernel
theorem d9_24 : decode prog_60_method_24_code 24 = .ok (.bipush 12, 2) := by decide +kernel
theorem d9_26 : decode prog_60_method_24_code 26 = .ok (.iushr, 1) := by decide +kernel
theorem d9_27 : decode prog_60_method_24_code 27 = .ok (.istore 5, 2) := by decide +kernel
theorem d9_29 : decode prog_60_method_24_code 29 = .ok (.iload 5, 2) := by decide +kernel
theorem d9_31 : decode prog_60_method_24_code 31 = .ok (.aload_n 0, 1) := by decide +kernel
theorem d9_32 : decode prog_60_method_24_code 32 = .ok (.getfield 11, 3) := by decide +kernel
theorem d9_35 : decode prog_60_method_24_code 35 = .ok (.arraylength, 1) := by decide +kernel
theorem d9_36 : decode prog_60_method_24_code 36 = .ok (.if_icmp .ne 39, 3) := by decide +kernel
theorem d9_75 : decode prog_60_method_24_code 75 = .ok (.aload_n 0, 1) := by decide +kernel
theorem d9_76 : decode prog_60_method_24_code 76 = .ok (.getfield 11, 3) := by decide +kernel
theorem d9_79 : decode prog_60_method_24_code 79 = .ok (.iload 5, 2) := by decide +kernel
theorem d9_81 : decode prog_60_method_24_code 81 = .ok (.sipush 28672, 3) := by decide +kernel
theorem d9_84 : decode prog_60_method_24_code 84 = .ok (.newarray .int, 2) := by decide +kernel
theorem d9_86 : decode prog_60_method_24_code 86 = .ok (.aastore, 1) := by decide +kernel
theorem d9_87 : decode prog_60_method_24_code 87 = .ok (.aload_n 0, 1) := by decide +kernel
theorem d9_88 : decode prog_60_method_24_code 88 = .ok (.getfield 17, 3) := by decide +kernel
theorem d9_91 : decode prog_60_method_24_code 91 = .ok (.iload 5, 2) := by decide +kernel
theorem d9_93 : decode prog_60_method_24_code 93 = .ok (.sipush 4096, 3) := by decide +kernel
theorem d9_96 : decode prog_60_method_24_code 96 = .ok (.anewarray 60, 3) := by decide +kernel
theorem d9_99 : decode prog_60_method_24_code 99 = .ok (.aastore, 1) := by decide +kernel
theorem d9_100 : decode prog_60_method_24_code 100 = .ok (.aload_n 0, 1) := by decide +kernel
theorem d9_101 : decode prog_60_method_24_code 101 = .ok (.getfield 11, 3) := by decide +kernel
theorem d9_104 : decode prog_60_method_24_code 104 = .ok (.iload 4, 2) := by decide +kernel
theorem d9_106 : decode prog_60_method_24_code 106 = .ok (.bipush 12, 2) := by decide +kernel
theorem d9_108 : decode prog_60_method_24_code 108 = .ok (.iushr, 1) := by decide +kernel
theorem d9_109 : decode prog_60_method_24_code 109 = .ok (.aaload, 1) := by decide +kernel
theorem d9_110 : decode prog_60_method_24_code 110 = .ok (.astore 5, 2) := by decide +kernel
theorem d9_112 : decode prog_60_method_24_code 112 = .ok (.iload 4, 2) := by decide +kernel
theorem d9_114 : decode prog_60_method_24_code 114 = .ok (.sipush 4095, 3) := by decide +kernel
theorem d9_117 : decode prog_60_method_24_code 117 = .ok (.iand, 1) := by decide +kernel
theorem d9_118 : decode prog_60_method_24_code 118 = .ok (.bipush 7, 2) := by decide +kernel
theorem d9_120 : decode prog_60_method_24_code 120 = .ok (.imul, 1) := by decide +kernel
theorem d9_121 : decode prog_60_method_24_code 121 = .ok (.istore 6, 2) := by decide +kernel
theorem d9_123 : decode prog_60_method_24_code 123 = .ok (.aload 5, 2) := by decide +kernel
theorem d9_125 : decode prog_60_method_24_code 125 = .ok (.iload 6, 2) := by decide +kernel
theorem d9_127 : decode prog_60_method_24_code 127 = .ok (.iconst 0, 1) := by decide +kernel
theorem d9_128 : decode prog_60_method_24_code 128 = .ok (.iadd, 1) := by decide +kernel
theorem d9_129 : decode prog_60_method_24_code 129 = .ok (.iload_n 1, 1) := by decide +kernel
theorem d9_130 : decode prog_60_method_24_code 130 = .ok (.iastore, 1) := by decide +kernel
theorem d9_131 : decode prog_60_method_24_code 131 = .ok (.aload 5, 2) := by decide +kernel
theorem d9_133 : decode prog_60_method_24_code 133 = .ok (.iload 6, 2) := by decide +kernel
theorem d9_135 : decode prog_60_method_24_code 135 = .ok (.iconst 1, 1) := by decide +kernel
theorem d9_136 : decode prog_60_method_24_code 136 = .ok (.iadd, 1) := by decide +kernel
theorem d9_137 : decode prog_60_method_24_code 137 = .ok (.iload_n 2, 1) := by decide +kernel
theorem d9_138 : decode prog_60_method_24_code 138 = .ok (.iastore, 1) := by decide +kernel
theorem d9_139 : decode prog_60_method_24_code 139 = .ok (.aload 5, 2) := by decide +kernel
theorem d9_141 : decode prog_60_method_24_code 141 = .ok (.iload 6, 2) := by decide +kernel
theorem d9_143 : decode prog_60_method_24_code 143 = .ok (.iconst 2, 1) := by decide +kernel
theorem d9_144 : decode prog_60_method_24_code 144 = .ok (.iadd, 1) := by decide +kernel
theorem d9_145 : decode prog_60_method_24_code 145 = .ok (.iload_n 3, 1) := by decide +kernel
theorem d9_146 : decode prog_60_method_24_code 146 = .ok (.iastore, 1) := by decide +kernel
theorem d9_147 : decode prog_60_method_24_code 147 = .ok (.aload 5, 2) := by decide +kernel
theorem d9_149 : decode prog_60_method_24_code 149 = .ok (.iload 6, 2) := by decide +kernel
theorem d9_151 : decode prog_60_method_24_code 151 = .ok (.iconst 3, 1) := by decide +kernel
theorem d9_152 : decode prog_60_method_24_code 152 = .ok (.iadd, 1) := by decide +kernel
theorem d9_153 : decode prog_60_method_24_code 153 = .ok (.iload 4, 2) := by decide +kernel
theorem d9_155 : decode prog_60_method_24_code 155 = .ok (.iconst 1, 1) := by decide +kernel
theorem d9_156 : decode prog_60_method_24_code 156 = .ok (.iadd, 1) := by decide +kernel
theorem d9_157 : decode prog_60_method_24_code 157 = .ok (.iastore, 1) := by decide +kernel
theorem d9_158 : decode prog_60_method_24_code 158 = .ok (.aload 5, 2) := by decide +kernel
theorem d9_160 : decode prog_60_method_24_code 160 = .ok (.iload 6, 2) := by decide +kernel
theorem d9_162 : decode prog_60_method_24_code 162 = .ok (.bipush 6, 2) := by decide +kernel
theorem d9_164 : decode prog_60_method_24_code 164 = .ok (.iadd, 1) := by decide +kernel
theorem d9_165 : decode prog_60_method_24_code 165 = .ok (.aload_n 0, 1) := by decide +kernel
theorem d9_166 : decode prog_60_method_24_code 166 = .ok (.getfield 57, 3) := by decide +kernel
theorem d9_169 : decode prog_60_method_24_code 169 = .ok (.iastore, 1) := by decide +kernel
theorem d9_170 : decode prog_60_method_24_code 170 = .ok (.iload 4, 2) := by decide +kernel
theorem d9_172 : decode prog_60_method_24_code 172 = .ok (.ireturn, 1) := by decide +kernel
def Q_add_0 (Z : State) (t : Nat) (aN : Nat) (aS : Nat) (p1 : Int32) (p2 : Int32) (p3 : Int32) (ac : Int32) (kN : ClassId) (kS : ClassId) (aA : Nat) (aM : Nat) (aW : Nat) (h0 : Heap) (n0 : Nat) (vR : Option Value) (hR : Heap) (LR : List Loc) : Prop := ∃ (bN : Nat) (bS : Nat) (kb : ClassId) (kc : ClassId), vR = some (.int 0) ∧ Fr n0 LR ∧ Keep h0 hR [t, aN, aS] ∧ (Exa Z hR t "com/example/boxwood/boxwood/XmlNodeTable") ∧ (Fld Z hR t "com/example/boxwood/boxwood/XmlNodeTable" "size" "I" (.int 1)) ∧ (Arv Z hR aN kN (.array .int) (1 : Int32) [(.ref bN)] .null) ∧ (Arv Z hR aS kS (.array (.object "java/lang/String")) (1 : Int32) [(.ref bS)] .null) ∧ h0.size ≤ bN ∧ h0.size ≤ bS ∧ (bN < bS) ∧ (Arv Z hR bN kb .int (28672 : Int32) [(.int p1), (.int p2), (.int p3), (.int 1), (.int 0), (.int 0), (.int ac)] (.int 0)) ∧ (Arv Z hR bS kc (.object "java/lang/String") (4096 : Int32) [] .null) ∧ (Ovr Z kc "java/lang/String") ∧ (Fld Z hR t "com/example/boxwood/boxwood/XmlNodeTable" "numbers" "[[I" (.ref aN)) ∧ (Fld Z hR t "com/example/boxwood/boxwood/XmlNodeTable" "strings" "[[Ljava/lang/String;" (.ref aS)) ∧ (Fld Z hR t "com/example/boxwood/boxwood/XmlNodeTable" "attributeCount" "I" (.int ac)) ∧ (Fld Z hR t "com/example/boxwood/boxwood/XmlNodeTable" "attributeNumbers" "[[I" (.ref aA)) ∧ (Fld Z hR t "com/example/boxwood/boxwood/XmlNodeTable" "attributeNames" "[[Ljava/lang/String;" (.ref aM)) ∧ (Fld Z hR t "com/example/boxwood/boxwood/XmlNodeTable" "attributeValues" "[[Lcom/example/boxwood/boxwood/XmlValue;" (.ref aW))
set_option maxRecDepth 65536 in
set_option maxHeartbeats 40000000 in
theorem add_0 (l : Launch) (Z : State) (a0 : Array Value) (hw : ∀ d ∈ tables_1, d.before a0 Z = true) (ws : List Jvm.Cond) (t : Nat) (aN : Nat) (aS : Nat) (p1 : Int32) (p2 : Int32) (p3 : Int32) (ac : Int32) (kN : ClassId) (kS : ClassId) (aA : Nat) (aM : Nat) (aW : Nat) (h0 : Heap) (n0 : Nat) (Z0 : n0 ≤ h0.size) (E_t : Exa Z h0 t "com/example/boxwood/boxwood/XmlNodeTable") (F_size_t : Fld Z h0 t "com/example/boxwood/boxwood/XmlNodeTable" "size" "I" (.int 0)) (F_numbers_t : Fld Z h0 t "com/example/boxwood/boxwood/XmlNodeTable" "numbers" "[[I" (.ref aN)) (F_attributeCount_t : Fld Z h0 t "com/example/boxwood/boxwood/XmlNodeTable" "attributeCount" "I" (.int ac)) (V_aN : Arv Z h0 aN kN (.array .int) (1 : Int32) [.null] .null) (F_strings_t : Fld Z h0 t "com/example/boxwood/boxwood/XmlNodeTable" "strings" "[[Ljava/lang/String;" (.ref aS)) (V_aS : Arv Z h0 aS kS (.array (.object "java/lang/String")) (1 : Int32) [.null] .null) (O_aN : OvrA Z kN .int "[I") (O_aS : OvrA Z kS (.object "java/lang/String") "[Ljava/lang/String;") (g_t : n0 ≤ t) (g_aN : n0 ≤ aN) (g_aS : n0 ≤ aS) (F_attributeNumbers_t : Fld Z h0 t "com/example/boxwood/boxwood/XmlNodeTable" "attributeNumbers" "[[I" (.ref aA)) (F_attributeNames_t : Fld Z h0 t "com/example/boxwood/boxwood/XmlNodeTable" "attributeNames" "[[Ljava/lang/String;" (.ref aM)) (F_attributeValues_t : Fld Z h0 t "com/example/boxwood/boxwood/XmlNodeTable" "attributeValues" "[[Lcom/example/boxwood/boxwood/XmlValue;" (.ref aW)) :
    own_M l (⟨"com/example/boxwood/boxwood/XmlNodeTable", "add", "(III)I"⟩ : MethodName) prog_60_method_24_code 7 (some .int) ws ({ frames := 0, cells := 2, slots := 32768, locals := 0 } : Room) Z #[(.ref t), (.int p1), (.int p2), (.int p3)] h0 (Q_add_0 Z t aN aS p1 p2 p3 ac kN kS aA aM aW h0 n0) := by
  refine own_body (own := "com/example/boxwood/boxwood/XmlNodeTable") rfl (plainFor_of_name pn_9) (fun m => ef_add_0 m t p1 p2 p3) ?_
  intro p e s m below meth c s₁ Bd hml hZ hh hx hby hown X0 e0
  have N0 := Fr.nil n0
  have lt4 : h0.size > t := E_t.lt
  have lt5 : h0.size > aN := V_aN.lt
  have lt6 : h0.size > aS := V_aS.lt
  refine own_aloadN X0.here hx hby d9_0 rfl rfl ?_
  refine own_dup X0.here hx hby d9_1 rfl ?_
  refine own_getF X0 hx hZ hown (host := "") (Or.inl (own_w hw 64 rfl)) Via.refl e0 F_size_t hby d9_2 ?_
  intro T7 X7 e7
  refine own_dupX1 X7.here hx hby d9_5 rfl rfl ?_
  refine own_iconst X7.here hx hby d9_6 (v := (1 : Int32)) (by decide) ?_
  refine own_iadd X7.here hx hby d9_7 (v := (1 : Int32)) (by decide) ?_
  refine own_putF X7 hx hZ (ty := .int) hown (host := "") (Or.inl (own_w hw 64 rfl)) Via.refl e7 F_size_t E_t (Or.inl (own_w hw 65 rfl)) (own_w hw 31 rfl) (by decide) rfl rfl hby d9_8 N0 g_t ?_
  intro T8 h8 lo8 X8 e8 N8 W8 F8 z8
  refine own_istore X8.here hx hby d9_11 (l' := #[.val (.ref t), .val (.int p1), .val (.int p2), .val (.int p3), .val (.int 0), .unset, .unset]) rfl ?_
  refine own_iload X8.here hx hby d9_13 rfl ?_
  refine own_sipush X8.here hx hby d9_15 (v := (4095 : Int32)) (by decide) ?_
  refine own_iand X8.here hx hby d9_18 (v := (0 : Int32)) (by decide) ?_
  refine own_ifNo X8.here hx hby d9_19 ((if0 _ _).trans (teq (show (0 : Int32) = (0 : Int32) from (by decide))).2) ?_
  refine own_iload X8.here hx hby d9_22 rfl ?_
  refine own_bipush X8.here hx hby d9_24 (v := (12 : Int32)) (by decide) ?_
  refine own_iushr X8.here hx hby d9_26 (v := (0 : Int32)) (by decide) ?_
  refine own_istore X8.here hx hby d9_27 (l' := #[.val (.ref t), .val (.int p1), .val (.int p2), .val (.int p3), .val (.int 0), .val (.int 0), .unset]) rfl ?_
  refine own_iload X8.here hx hby d9_29 rfl ?_
  refine own_aloadN X8.here hx hby d9_31 rfl rfl ?_
  have f9 : Fld Z h8 t "com/example/boxwood/boxwood/XmlNodeTable" "numbers" "[[I" (.ref aN) := (F_numbers_t.other W8 (Or.inr (slot_ne (Or.inl (own_w hw 40 rfl)) (Or.inl (own_w hw 65 rfl)) (by decide) (t := (.array (.array .int))) (t' := .int) (by decide) (by decide))))
  refine own_getF X8 hx hZ hown (host := "") (Or.inl (own_w hw 39 rfl)) Via.refl e8 f9 hby d9_32 ?_
  intro T10 X10 e10
  have f11 : Arv Z h8 aN kN (.array .int) (1 : Int32) [.null] .null := (V_aN.other W8 (Ne.symm (own_ne_oa E_t (own_w hw 31 rfl) V_aN)))
  refine own_alen X10 hx hZ e10 f11 hby d9_35 ?_
  refine own_icmpYes X10.here hx hby (pc' := 75) d9_36 (feq (show ¬ ((0 : Int32) = (1 : Int32)) from (by decide))).2 (by decide) (by decide) ?_
  refine own_aloadN X10.here hx hby d9_75 rfl rfl ?_
  refine own_getF X10 hx hZ hown (host := "") (Or.inl (own_w hw 39 rfl)) Via.refl e10 f9 hby d9_76 ?_
  intro T12 X12 e12
  refine own_iload X12.here hx hby d9_79 rfl ?_
  refine own_sipush X12.here hx hby d9_81 (v := (28672 : Int32)) (by decide) ?_
  refine own_newP X12 hx hZ (aty := .int) (own_w hw 66 rfl) e12 hby d9_84 (by decide) 28672 (by decide) (by decide) (by decide) (by decide) (ad := "[I") (by decide) ?_
  intro T13 h13 k13 b13 X13 e13 E13 g13 V13 C13 lt13
  have z14 : h8.size ≤ h13.size := E13.1
  have V15 : Arv Z h13 b13 k13 .int (28672 : Int32) [] (.int 0) := V13
  have f16 : Arv Z h13 aN kN (.array .int) (1 : Int32) [.null] .null := (f11.ext E13)
  refine own_aastore X13 hx hZ e13 f16 rfl rfl (own_stoVA f16 O_aN (Ins.self C13)) ⟨by decide, by decide⟩ 0 (by decide) (Nat.le_of_ble_eq_true rfl) hby d9_86 N8 g_aN ?_
  intro T17 h17 lo17 X17 e17 N17 W17 V17 z17
  have V18 : Arv Z h17 aN kN (.array .int) (1 : Int32) [(.ref b13)] .null := V17
  refine own_aloadN X17.here hx hby d9_87 rfl rfl ?_
  have f19 : Fld Z h17 t "com/example/boxwood/boxwood/XmlNodeTable" "strings" "[[Ljava/lang/String;" (.ref aS) := (((F_strings_t.other W8 (Or.inr (slot_ne (Or.inl (own_w hw 44 rfl)) (Or.inl (own_w hw 65 rfl)) (by decide) (t := (.array (.array (.object "java/lang/String")))) (t' := .int) (by decide) (by decide)))).ext E13).other W17 (Or.inl (own_ne_oa E_t (own_w hw 31 rfl) V_aN)))
  refine own_getF X17 hx hZ hown (host := "") (Or.inl (own_w hw 43 rfl)) Via.refl e17 f19 hby d9_88 ?_
  intro T20 X20 e20
  refine own_iload X20.here hx hby d9_91 rfl ?_
  refine own_sipush X20.here hx hby d9_93 (v := (4096 : Int32)) (by decide) ?_
  refine own_newR X20 hx hZ hown (own_w hw 68 rfl) (own_w hw 69 rfl) e20 hby d9_96 (by decide) 4096 (by decide) (by decide) (by decide) (by decide) (ad := "[Ljava/lang/String;") (by decide) ?_
  intro T21 h21 k21 b21 X21 e21 E21 g21 V21 C21 O21 lt21
  have z22 : h17.size ≤ h21.size := E21.1
  have V23 : Arv Z h21 b21 k21 (.object "java/lang/String") (4096 : Int32) [] .null := V21
  have f24 : Arv Z h21 aS kS (.array (.object "java/lang/String")) (1 : Int32) [.null] .null := ((((V_aS.other W8 (Ne.symm (own_ne_oa E_t (own_w hw 31 rfl) V_aS))).ext E13).other W17 (own_ne_aa V_aS V_aN (by decide))).ext E21)
  refine own_aastore X21 hx hZ e21 f24 rfl rfl (own_stoVA f24 O_aS (Ins.self C21)) ⟨by decide, by decide⟩ 0 (by decide) (Nat.le_of_ble_eq_true rfl) hby d9_99 N17 g_aS ?_
  intro T25 h25 lo25 X25 e25 N25 W25 V25 z25
  have V26 : Arv Z h25 aS kS (.array (.object "java/lang/String")) (1 : Int32) [(.ref b21)] .null := V25
  refine own_aloadN X25.here hx hby d9_100 rfl rfl ?_
  have f27 : Fld Z h25 t "com/example/boxwood/boxwood/XmlNodeTable" "numbers" "[[I" (.ref aN) := ((((f9.ext E13).other W17 (Or.inl (own_ne_oa E_t (own_w hw 31 rfl) V_aN))).ext E21).other W25 (Or.inl (own_ne_oa E_t (own_w hw 31 rfl) V_aS)))
  refine own_getF X25 hx hZ hown (host := "") (Or.inl (own_w hw 39 rfl)) Via.refl e25 f27 hby d9_101 ?_
  intro T28 X28 e28
  refine own_iload X28.here hx hby d9_104 rfl ?_
  refine own_bipush X28.here hx hby d9_106 (v := (12 : Int32)) (by decide) ?_
  refine own_iushr X28.here hx hby d9_108 (v := (0 : Int32)) (by decide) ?_
  have f29 : Arv Z h25 aN kN (.array .int) (1 : Int32) [(.ref b13)] .null := ((V18.ext E21).other W25 (own_ne_aa V_aN V_aS (by decide)))
  refine own_aaload X28 hx hZ e28 f29 rfl ⟨by decide, by decide⟩ (v := (.ref b13)) rfl hby d9_109 ?_
  refine own_astore X28.here hx hby d9_110 rfl (l' := #[.val (.ref t), .val (.int p1), .val (.int p2), .val (.int p3), .val (.int 0), .val (.ref b13), .unset]) rfl ?_
  refine own_iload X28.here hx hby d9_112 rfl ?_
  refine own_sipush X28.here hx hby d9_114 (v := (4095 : Int32)) (by decide) ?_
  refine own_iand X28.here hx hby d9_117 (v := (0 : Int32)) (by decide) ?_
  refine own_bipush X28.here hx hby d9_118 (v := (7 : Int32)) (by decide) ?_
  refine own_imul X28.here hx hby d9_120 (v := (0 : Int32)) (by decide) ?_
  refine own_istore X28.here hx hby d9_121 (l' := #[.val (.ref t), .val (.int p1), .val (.int p2), .val (.int p3), .val (.int 0), .val (.ref b13), .val (.int 0)]) rfl ?_
  refine own_aload X28.here hx hby d9_123 rfl rfl ?_
  refine own_iload X28.here hx hby d9_125 rfl ?_
  refine own_iconst X28.here hx hby d9_127 (v := (0 : Int32)) (by decide) ?_
  refine own_iadd X28.here hx hby d9_128 (v := (0 : Int32)) (by decide) ?_
  refine own_iloadN X28.here hx hby d9_129 rfl ?_
  have f30 : Arv Z h25 b13 k13 .int (28672 : Int32) [] (.int 0) := (((V15.other W17 (own_nn (by omega))).ext E21).other W25 (own_nn (by omega)))
  have V32 : Arv Z h25 b13 k13 .int (28672 : Int32) [(.int 0)] (.int 0) := f30.pad (pad_rep [] (.int 0) 1)
  refine own_iastore X28 hx hZ e28 V32 ⟨by decide, by decide⟩ 0 (by decide) (Nat.le_of_ble_eq_true rfl) rfl hby d9_130 N25 (by omega) ?_
  intro T31 h31 lo31 X31 e31 N31 W31 V31 z31
  have V33 : Arv Z h31 b13 k13 .int (28672 : Int32) [(.int p1)] (.int 0) := V31
  refine own_aload X31.here hx hby d9_131 rfl rfl ?_
  refine own_iload X31.here hx hby d9_133 rfl ?_
  refine own_iconst X31.here hx hby d9_135 (v := (1 : Int32)) (by decide) ?_
  refine own_iadd X31.here hx hby d9_136 (v := (1 : Int32)) (by decide) ?_
  refine own_iloadN X31.here hx hby d9_137 rfl ?_
  have V35 : Arv Z h31 b13 k13 .int (28672 : Int32) [(.int p1), (.int 0)] (.int 0) := V33.pad (pad_rep [(.int p1)] (.int 0) 1)
  refine own_iastore X31 hx hZ e31 V35 ⟨by decide, by decide⟩ 1 (by decide) (Nat.le_of_ble_eq_true rfl) rfl hby d9_138 N31 (by omega) ?_
  intro T34 h34 lo34 X34 e34 N34 W34 V34 z34
  have V36 : Arv Z h34 b13 k13 .int (28672 : Int32) [(.int p1), (.int p2)] (.int 0) := V34
  refine own_aload X34.here hx hby d9_139 rfl rfl ?_
  refine own_iload X34.here hx hby d9_141 rfl ?_
  refine own_iconst X34.here hx hby d9_143 (v := (2 : Int32)) (by decide) ?_
  refine own_iadd X34.here hx hby d9_144 (v := (2 : Int32)) (by decide) ?_
  refine own_iloadN X34.here hx hby d9_145 rfl ?_
  have V38 : Arv Z h34 b13 k13 .int (28672 : Int32) [(.int p1), (.int p2), (.int 0)] (.int 0) := V36.pad (pad_rep [(.int p1), (.int p2)] (.int 0) 1)
  refine own_iastore X34 hx hZ e34 V38 ⟨by decide, by decide⟩ 2 (by decide) (Nat.le_of_ble_eq_true rfl) rfl hby d9_146 N34 (by omega) ?_
  intro T37 h37 lo37 X37 e37 N37 W37 V37 z37
  have V39 : Arv Z h37 b13 k13 .int (28672 : Int32) [(.int p1), (.int p2), (.int p3)] (.int 0) := V37
  refine own_aload X37.here hx hby d9_147 rfl rfl ?_
  refine own_iload X37.here hx hby d9_149 rfl ?_
  refine own_iconst X37.here hx hby d9_151 (v := (3 : Int32)) (by decide) ?_
  refine own_iadd X37.here hx hby d9_152 (v := (3 : Int32)) (by decide) ?_
  refine own_iload X37.here hx hby d9_153 rfl ?_
  refine own_iconst X37.here hx hby d9_155 (v := (1 : Int32)) (by decide) ?_
  refine own_iadd X37.here hx hby d9_156 (v := (1 : Int32)) (by decide) ?_
  have V41 : Arv Z h37 b13 k13 .int (28672 : Int32) [(.int p1), (.int p2), (.int p3), (.int 0)] (.int 0) := V39.pad (pad_rep [(.int p1), (.int p2), (.int p3)] (.int 0) 1)
  refine own_iastore X37 hx hZ e37 V41 ⟨by decide, by decide⟩ 3 (by decide) (Nat.le_of_ble_eq_true rfl) rfl hby d9_157 N37 (by omega) ?_
  intro T40 h40 lo40 X40 e40 N40 W40 V40 z40
  have V42 : Arv Z h40 b13 k13 .int (28672 : Int32) [(.int p1), (.int p2), (.int p3), (.int 1)] (.int 0) := V40
  refine own_aload X40.here hx hby d9_158 rfl rfl ?_
  refine own_iload X40.here hx hby d9_160 rfl ?_
  refine own_bipush X40.here hx hby d9_162 (v := (6 : Int32)) (by decide) ?_
  refine own_iadd X40.here hx hby d9_164 (v := (6 : Int32)) (by decide) ?_
  refine own_aloadN X40.here hx hby d9_165 rfl rfl ?_
  have f43 : Fld Z h40 t "com/example/boxwood/boxwood/XmlNodeTable" "attributeCount" "I" (.int ac) := (((((((((F_attributeCount_t.other W8 (Or.inr (slot_ne (Or.inl (own_w hw 72 rfl)) (Or.inl (own_w hw 65 rfl)) (by decide) (t := .int) (t' := .int) (by decide) (by decide)))).ext E13).other W17 (Or.inl (own_ne_oa E_t (own_w hw 31 rfl) V_aN))).ext E21).other W25 (Or.inl (own_ne_oa E_t (own_w hw 31 rfl) V_aS))).other W31 (Or.inl (own_nn (by omega)))).other W34 (Or.inl (own_nn (by omega)))).other W37 (Or.inl (own_nn (by omega)))).other W40 (Or.inl (own_nn (by omega))))
  refine own_getF X40 hx hZ hown (host := "") (Or.inl (own_w hw 71 rfl)) Via.refl e40 f43 hby d9_166 ?_
  intro T44 X44 e44
  have V46 : Arv Z h40 b13 k13 .int (28672 : Int32) [(.int p1), (.int p2), (.int p3), (.int 1), (.int 0), (.int 0), (.int 0)] (.int 0) := V42.pad (pad_rep [(.int p1), (.int p2), (.int p3), (.int 1)] (.int 0) 3)
  refine own_iastore X44 hx hZ e44 V46 ⟨by decide, by decide⟩ 6 (by decide) (Nat.le_of_ble_eq_true rfl) rfl hby d9_169 N40 (by omega) ?_
  intro T45 h45 lo45 X45 e45 N45 W45 V45 z45
  have V47 : Arv Z h45 b13 k13 .int (28672 : Int32) [(.int p1), (.int p2), (.int p3), (.int 1), (.int 0), (.int 0), (.int ac)] (.int 0) := V45
  refine own_iload X45.here hx hby d9_170 rfl ?_
  have K48 : Keep h0 h45 [t, aN, aS] := (((((((((((Keep.refl h0 [t, aN, aS]).wr W8 (Or.inl (List.mem_of_getElem? (i := 0) rfl))).ext E13).wr W17 (Or.inl (List.mem_of_getElem? (i := 1) rfl))).ext E21).wr W25 (Or.inl (List.mem_of_getElem? (i := 2) rfl))).wr W31 (Or.inr (by omega))).wr W34 (Or.inr (by omega))).wr W37 (Or.inr (by omega))).wr W40 (Or.inr (by omega))).wr W45 (Or.inr (by omega)))
  have f49 : Exa Z h45 t "com/example/boxwood/boxwood/XmlNodeTable" := ((((((((((E_t.wr W8).ext E13).wr W17).ext E21).wr W25).wr W31).wr W34).wr W37).wr W40).wr W45)
  have f50 : Fld Z h45 t "com/example/boxwood/boxwood/XmlNodeTable" "size" "I" (.int 1) := (((((((((F8.ext E13).other W17 (Or.inl (own_ne_oa E_t (own_w hw 31 rfl) V_aN))).ext E21).other W25 (Or.inl (own_ne_oa E_t (own_w hw 31 rfl) V_aS))).other W31 (Or.inl (own_nn (by omega)))).other W34 (Or.inl (own_nn (by omega)))).other W37 (Or.inl (own_nn (by omega)))).other W40 (Or.inl (own_nn (by omega)))).other W45 (Or.inl (own_nn (by omega))))
  have f51 : Arv Z h45 aN kN (.array .int) (1 : Int32) [(.ref b13)] .null := (((((f29.other W31 (own_nn (by omega))).other W34 (own_nn (by omega))).other W37 (own_nn (by omega))).other W40 (own_nn (by omega))).other W45 (own_nn (by omega)))
  have f52 : Arv Z h45 aS kS (.array (.object "java/lang/String")) (1 : Int32) [(.ref b21)] .null := (((((V26.other W31 (own_nn (by omega))).other W34 (own_nn (by omega))).other W37 (own_nn (by omega))).other W40 (own_nn (by omega))).other W45 (own_nn (by omega)))
  have f53 : Arv Z h45 b21 k21 (.object "java/lang/String") (4096 : Int32) [] .null := ((((((V23.other W25 (own_nn (by omega))).other W31 (own_nn (by omega))).other W34 (own_nn (by omega))).other W37 (own_nn (by omega))).other W40 (own_nn (by omega))).other W45 (own_nn (by omega)))
  have f54 : Fld Z h45 t "com/example/boxwood/boxwood/XmlNodeTable" "numbers" "[[I" (.ref aN) := (((((f27.other W31 (Or.inl (own_nn (by omega)))).other W34 (Or.inl (own_nn (by omega)))).other W37 (Or.inl (own_nn (by omega)))).other W40 (Or.inl (own_nn (by omega)))).other W45 (Or.inl (own_nn (by omega))))
  have f55 : Fld Z h45 t "com/example/boxwood/boxwood/XmlNodeTable" "strings" "[[Ljava/lang/String;" (.ref aS) := (((((((f19.ext E21).other W25 (Or.inl (own_ne_oa E_t (own_w hw 31 rfl) V_aS))).other W31 (Or.inl (own_nn (by omega)))).other W34 (Or.inl (own_nn (by omega)))).other W37 (Or.inl (own_nn (by omega)))).other W40 (Or.inl (own_nn (by omega)))).other W45 (Or.inl (own_nn (by omega))))
  have f56 : Fld Z h45 t "com/example/boxwood/boxwood/XmlNodeTable" "attributeCount" "I" (.int ac) := (f43.other W45 (Or.inl (own_nn (by omega))))
  have f57 : Fld Z h45 t "com/example/boxwood/boxwood/XmlNodeTable" "attributeNumbers" "[[I" (.ref aA) := ((((((((((F_attributeNumbers_t.other W8 (Or.inr (slot_ne (Or.inl (own_w hw 46 rfl)) (Or.inl (own_w hw 65 rfl)) (by decide) (t := (.array (.array .int))) (t' := .int) (by decide) (by decide)))).ext E13).other W17 (Or.inl (own_ne_oa E_t (own_w hw 31 rfl) V_aN))).ext E21).other W25 (Or.inl (own_ne_oa E_t (own_w hw 31 rfl) V_aS))).other W31 (Or.inl (own_nn (by omega)))).other W34 (Or.inl (own_nn (by omega)))).other W37 (Or.inl (own_nn (by omega)))).other W40 (Or.inl (own_nn (by omega)))).other W45 (Or.inl (own_nn (by omega))))
  have f58 : Fld Z h45 t "com/example/boxwood/boxwood/XmlNodeTable" "attributeNames" "[[Ljava/lang/String;" (.ref aM) := ((((((((((F_attributeNames_t.other W8 (Or.inr (slot_ne (Or.inl (own_w hw 48 rfl)) (Or.inl (own_w hw 65 rfl)) (by decide) (t := (.array (.array (.object "java/lang/String")))) (t' := .int) (by decide) (by decide)))).ext E13).other W17 (Or.inl (own_ne_oa E_t (own_w hw 31 rfl) V_aN))).ext E21).other W25 (Or.inl (own_ne_oa E_t (own_w hw 31 rfl) V_aS))).other W31 (Or.inl (own_nn (by omega)))).other W34 (Or.inl (own_nn (by omega)))).other W37 (Or.inl (own_nn (by omega)))).other W40 (Or.inl (own_nn (by omega)))).other W45 (Or.inl (own_nn (by omega))))
  have f59 : Fld Z h45 t "com/example/boxwood/boxwood/XmlNodeTable" "attributeValues" "[[Lcom/example/boxwood/boxwood/XmlValue;" (.ref aW) := ((((((((((F_attributeValues_t.other W8 (Or.inr (slot_ne (Or.inl (own_w hw 52 rfl)) (Or.inl (own_w hw 65 rfl)) (by decide) (t := (.array (.array (.object "com/example/boxwood/boxwood/XmlValue")))) (t' := .int) (by decide) (by decide)))).ext E13).other W17 (Or.inl (own_ne_oa E_t (own_w hw 31 rfl) V_aN))).ext E21).other W25 (Or.inl (own_ne_oa E_t (own_w hw 31 rfl) V_aS))).other W31 (Or.inl (own_nn (by omega)))).other W34 (Or.inl (own_nn (by omega)))).other W37 (Or.inl (own_nn (by omega)))).other W40 (Or.inl (own_nn (by omega)))).other W45 (Or.inl (own_nn (by omega))))
  obtain ⟨fs, hr, hrun, hended, hW, hsame⟩ := X45.leave (v := some (.int 0)) (fun h => by rw [Bd.returns] at h; cases h)
  refine own_ret (t := T45.setFrames fs) ?_ ⟨_, hrun, hended, _, _, rfl, ?_, ⟨_, rfl⟩, hW, hsame.mono (by decide) (by decide)⟩
  · exact retOut X45 hx Bd.returns rfl (Or.inl ⟨rfl, Or.inl rfl, _, rfl⟩) (hb hby d9_172) hr
  · show Q_add_0 Z t aN aS p1 p2 p3 ac kN kS aA aM aW h0 n0 _ T45.heap _
    rw [e45]
    exact ⟨b13, b21, k13, k21, rfl, N45, K48, f49, f50, f51, f52, (by omega), (by omega), (by first | decide | omega | assumption), V47, f53, O21, f54, f55, f56, f57, f58, f59⟩
theorem ef_set_0_4_7 (m : MethodId) (x0 : Nat) (x1 : Int32) (x2 : Int32) (x3 : Int32) : entryFrame m #[(.ref x0), (.int x1), (.int x2), (.int x3)] 4 = mkF m 0 #[.val (.ref x0), .val (.int x1), .val (.int x2), .val (.int x3)] [] := by first | (simp [entryFrame, mkF, argsToLocals, Value.category]; done) | rfl
theorem pn_10 : plainName "com/example/boxwood/boxwood/XmlNodeTable" = true := by first | (simp [plainName, overriddenIn]; done) | decide +kernel
theorem d10_0 : decode prog_60_method_27_code 0 = .ok (.aload_n 0, 1) := by decide +kernel
theorem d10_1 : decode prog_60_method_27_code 1 = .ok (.getfield 11, 3) := by decide +kernel
theorem d10_4 : decode prog_60_method_27_code 4 = .ok (.iload_n 1, 1) := by decide +kernel
theorem d10_5 : decode prog_60_method_27_code 5 = .ok (.bipush 12, 2) := by decide +kernel
theorem d10_7 : decode prog_60_method_27_code 7 = .ok (.iushr, 1) := by decide +kernel
theorem d10_8 : decode prog_60_method_27_code 8 = .ok (.aaload, 1) := by decide +kernel
theorem d10_9 : decode prog_60_method_27_code 9 = .ok (.iload_n 1, 1) := by decide +kernel
theorem d10_10 : decode prog_60_method_27_code 10 = .ok (.sipush 4095, 3) := by decide +kernel
theorem d10_13 : decode prog_60_method_27_code 13 = .ok (.iand, 1) := by decide +kernel
theorem d10_14 : decode prog_60_method_27_code 14 = .ok (.bipush 7, 2) := by decide +kernel
theorem d10_16 : decode prog_60_method_27_code 16 = .ok (.imul, 1) := by decide +kernel
theorem d10_17 : decode prog_60_method_27_code 17 = .ok (.iload_n 2, 1) := by decide +kernel
theorem d10_18 : decode prog_60_method_27_code 18 = .ok (.iadd, 1) := by decide +kernel
theorem d10_19 : decode prog_60_method_27_code 19 = .ok (.iload_n 3, 1) := by decide +kernel
theorem d10_20 : decode prog_60_method_27_code 20 = .ok (.iastore, 1) := by decide +kernel
theorem d10_21 : decode prog_60_method_27_code 21 = .ok (.return_, 1) := by decide +kernel
def Q_set_0_4_7 (Z : State) (t : Nat) (aN : Nat) (bN : Nat) (p3 : Int32) (kN : ClassId) (kb : ClassId) (x0 : Int32) (x1 : Int32) (x2 : Int32) (x3 : Int32) (x4 : Int32) (x5 : Int32) (x6 : Int32) (h0 : Heap) (n0 : Nat) (vR : Option Value) (hR : Heap) (LR : List Loc) : Prop := vR = none ∧ Fr n0 LR ∧ Keep h0 hR [bN] ∧ (Arv Z hR bN kb .int (28672 : Int32) [(.int x0), (.int x1), (.int x2), (.int x3), (.int p3), (.int x5), (.int x6)] (.int 0))
set_option maxRecDepth 65536 in
set_option maxHeartbeats 40000000 in
theorem set_0_4_7 (l : Launch) (Z : State) (a0 : Array Value) (hw : ∀ d ∈ tables_1, d.before a0 Z = true) (ws : List Jvm.Cond) (t : Nat) (aN : Nat) (bN : Nat) (p3 : Int32) (kN : ClassId) (kb : ClassId) (x0 : Int32) (x1 : Int32) (x2 : Int32) (x3 : Int32) (x4 : Int32) (x5 : Int32) (x6 : Int32) (h0 : Heap) (n0 : Nat) (Z0 : n0 ≤ h0.size) (F_numbers_t : Fld Z h0 t "com/example/boxwood/boxwood/XmlNodeTable" "numbers" "[[I" (.ref aN)) (V_aN : Arv Z h0 aN kN (.array .int) (1 : Int32) [(.ref bN)] .null) (V_bN : Arv Z h0 bN kb .int (28672 : Int32) [(.int x0), (.int x1), (.int x2), (.int x3), (.int x4), (.int x5), (.int x6)] (.int 0)) (g_bN : n0 ≤ bN) :
    own_M l (⟨"com/example/boxwood/boxwood/XmlNodeTable", "set", "(III)V"⟩ : MethodName) prog_60_method_27_code 4 none ws ({ frames := 0, cells := 0, slots := 0, locals := 0 } : Room) Z #[(.ref t), (.int 0), (.int 4), (.int p3)] h0 (Q_set_0_4_7 Z t aN bN p3 kN kb x0 x1 x2 x3 x4 x5 x6 h0 n0) := by
  refine own_body (own := "com/example/boxwood/boxwood/XmlNodeTable") rfl (plainFor_of_name pn_10) (fun m => ef_set_0_4_7 m t (0 : Int32) (4 : Int32) p3) ?_
  intro p e s m below meth c s₁ Bd hml hZ hh hx hby hown X0 e0
  have N0 := Fr.nil n0
  have lt7 : h0.size > t := F_numbers_t.lt
  have lt8 : h0.size > aN := V_aN.lt
  have lt9 : h0.size > bN := V_bN.lt
  refine own_aloadN X0.here hx hby d10_0 rfl rfl ?_
  refine own_getF X0 hx hZ hown (host := "") (Or.inl (own_w hw 39 rfl)) Via.refl e0 F_numbers_t hby d10_1 ?_
  intro T10 X10 e10
  refine own_iloadN X10.here hx hby d10_4 rfl ?_
  refine own_bipush X10.here hx hby d10_5 (v := (12 : Int32)) (by decide) ?_
  refine own_iushr X10.here hx hby d10_7 (v := (0 : Int32)) (by decide) ?_
  refine own_aaload X10 hx hZ e10 V_aN rfl ⟨by decide, by decide⟩ (v := (.ref bN)) rfl hby d10_8 ?_
  refine own_iloadN X10.here hx hby d10_9 rfl ?_
  refine own_sipush X10.here hx hby d10_10 (v := (4095 : Int32)) (by decide) ?_
  refine own_iand X10.here hx hby d10_13 (v := (0 : Int32)) (by decide) ?_
  refine own_bipush X10.here hx hby d10_14 (v := (7 : Int32)) (by decide) ?_
  refine own_imul X10.here hx hby d10_16 (v := (0 : Int32)) (by decide) ?_
  refine own_iloadN X10.here hx hby d10_17 rfl ?_
  refine own_iadd X10.here hx hby d10_18 (v := (4 : Int32)) (by decide) ?_
  refine own_iloadN X10.here hx hby d10_19 rfl ?_
  refine own_iastore X10 hx hZ e10 V_bN ⟨by decide, by decide⟩ 4 (by decide) (Nat.le_of_ble_eq_true rfl) rfl hby d10_20 N0 g_bN ?_
  intro T11 h11 lo11 X11 e11 N11 W11 V11 z11
  have V12 : Arv Z h11 bN kb .int (28672 : Int32) [(.int x0), (.int x1), (.int x2), (.int x3), (.int p3), (.int x5), (.int x6)] (.int 0) := V11
  have K13 : Keep h0 h11 [bN] := ((Keep.refl h0 [bN]).wr W11 (Or.inl (List.mem_of_getElem? (i := 0) rfl)))
  obtain ⟨fs, hr, hrun, hended, hW, hsame⟩ := X11.leave (v := none) (fun _ => rfl)
  refine own_ret (t := T11.setFrames fs) ?_ ⟨_, hrun, hended, _, _, rfl, ?_, ⟨_, rfl⟩, hW, hsame.mono (by decide) (by decide)⟩
  · exact X11.returnOut hx Bd.returns (hb hby d10_21) hr
  · show Q_set_0_4_7 Z t aN bN p3 kN kb x0 x1 x2 x3 x4 x5 x6 h0 n0 _ T11.heap _
    rw [e11]
    exact ⟨rfl, N11, K13, V12⟩
theorem ef_start_0 (m : MethodId) (x0 : Nat) (x1 : Nat) (x2 : Int32) (x3 : Int32) : entryFrame m #[(.ref x0), (.ref x1), (.int x2), (.int x3)] 5 = mkF m 0 #[.val (.ref x0), .val (.ref x1), .val (.int x2), .val (.int x3), .unset] [] := by first | (simp [entryFrame, mkF, argsToLocals, Value.category]; done) | rfl
theorem pn_8 : plainName "com/example/boxwood/boxwood/XmlNodeTable" = true := by first | (simp [plainName, overriddenIn]; done) | decide +kernel
theorem d8_0 : decode prog_60_method_3_code 0 = .ok (.aload_n 0, 1) := by decide +kernel
theorem d8_1 : decode prog_60_method_3_code 1 = .ok (.iconst 0, 1) := by decide +kernel
theorem d8_2 : decode prog_60_method_3_code 2 = .ok (.iload_n 2, 1) := by decide +kernel
theorem d8_3 : decode prog_60_method_3_code 3 = .ok (.iconst (-1), 1) := by decide +kernel
theorem d8_4 : decode prog_60_method_3_code 4 = .ok (.invokevirtual 37, 3) := by decide +kernel
theorem pd_3 : parseMethodDescriptor "(III)I" = some ⟨[.int, .int, .int], some .int⟩ := by decide +kernel
theorem d8_7 : decode prog_60_method_3_code 7 = .ok (.istore 4, 2) := by decide +kernel
theorem d8_9 : decode prog_60_method_3_code 9 = .ok (.aload_n 0, 1) := by decide +kernel
theorem d8_10 : decode prog_60_method_3_code 10 = .ok (.getfield 17, 3) := by decide +kernel
theorem d8_13 : decode prog_60_method_3_code 13 = .ok (.iload 4, 2) := by decide +kernel
theorem d8_15 : decode prog_60_method_3_code 15 = .ok (.bipush 12, 2) := by decide +kernel
theorem d8_17 : decode prog_60_method_3_code 17 = .ok (.iushr, 1) := by decide +kernel
theorem d8_18 : decode prog_60_method_3_code 18 = .ok (.aaload, 1) := by decide +kernel
theorem d8_19 : decode prog_60_method_3_code 19 = .ok (.iload 4, 2) := by decide +kernel
theorem d8_21 : decode prog_60_method_3_code 21 = .ok (.sipush 4095, 3) := by decide +kernel
theorem d8_24 : decode prog_60_method_3_code 24 = .ok (.iand, 1) := by decide +kernel
theorem d8_25 : decode prog_60_method_3_code 25 = .ok (.aload_n 1, 1) := by decide +kernel
theorem d8_26 : decode prog_60_method_3_code 26 = .ok (.aastore, 1) := by decide +kernel
theorem d8_27 : decode prog_60_method_3_code 27 = .ok (.aload_n 0, 1) := by decide +kernel
theorem d8_28 : decode prog_60_method_3_code 28 = .ok (.iload 4, 2) := by decide +kernel
theorem d8_30 : decode prog_60_method_3_code 30 = .ok (.iconst 4, 1) := by decide +kernel
theorem d8_31 : decode prog_60_method_3_code 31 = .ok (.iload_n 3, 1) := by decide +kernel
theorem d8_32 : decode prog_60_method_3_code 32 = .ok (.invokevirtual 41, 3) := by decide +kernel
theorem pd_4 : parseMethodDescriptor "(III)V" = some ⟨[.int, .int, .int], none⟩ := by decide +kernel
theorem d8_35 : decode prog_60_method_3_code 35 = .ok (.iload 4, 2) := by decide +kernel
theorem d8_37 : decode prog_60_method_3_code 37 = .ok (.ireturn, 1) := by decide +kernel
def Q_start_0 (Z : State) (t : Nat) (nm : Nat) (aN : Nat) (aS : Nat) (p1 : Int32) (p2 : Int32) (ac : Int32) (kN : ClassId) (kS : ClassId) (aA : Nat) (aM : Nat) (aW : Nat) (h0 : Heap) (n0 : Nat) (vR : Option Value) (hR : Heap) (LR : List Loc) : Prop := ∃ (bN : Nat) (bS : Nat) (kb : ClassId) (kc : ClassId), vR = some (.int 0) ∧ Fr n0 LR ∧ Keep h0 hR [t, aN, aS] ∧ (Exa Z hR t "com/example/boxwood/boxwood/XmlNodeTable") ∧ (Fld Z hR t "com/example/boxwood/boxwood/XmlNodeTable" "size" "I" (.int 1)) ∧ (Arv Z hR aN kN (.array .int) (1 : Int32) [(.ref bN)] .null) ∧ (Arv Z hR aS kS (.array (.object "java/lang/String")) (1 : Int32) [(.ref bS)] .null) ∧ h0.size ≤ bN ∧ h0.size ≤ bS ∧ (bN < bS) ∧ (Arv Z hR bN kb .int (28672 : Int32) [(.int 0), (.int p1), (.int (-1)), (.int 1), (.int p2), (.int 0), (.int ac)] (.int 0)) ∧ (Arv Z hR bS kc (.object "java/lang/String") (4096 : Int32) [(.ref nm)] .null) ∧ (Ovr Z kc "java/lang/String") ∧ (Fld Z hR t "com/example/boxwood/boxwood/XmlNodeTable" "numbers" "[[I" (.ref aN)) ∧ (Fld Z hR t "com/example/boxwood/boxwood/XmlNodeTable" "strings" "[[Ljava/lang/String;" (.ref aS)) ∧ (Fld Z hR t "com/example/boxwood/boxwood/XmlNodeTable" "attributeCount" "I" (.int ac)) ∧ (Fld Z hR t "com/example/boxwood/boxwood/XmlNodeTable" "attributeNumbers" "[[I" (.ref aA)) ∧ (Fld Z hR t "com/example/boxwood/boxwood/XmlNodeTable" "attributeNames" "[[Ljava/lang/String;" (.ref aM)) ∧ (Fld Z hR t "com/example/boxwood/boxwood/XmlNodeTable" "attributeValues" "[[Lcom/example/boxwood/boxwood/XmlValue;" (.ref aW))
set_option maxRecDepth 65536 in
set_option maxHeartbeats 40000000 in
theorem start_0 (l : Launch) (Z : State) (a0 : Array Value) (hw : ∀ d ∈ tables_1, d.before a0 Z = true) (ws : List Jvm.Cond) (t : Nat) (nm : Nat) (aN : Nat) (aS : Nat) (p1 : Int32) (p2 : Int32) (ac : Int32) (kN : ClassId) (kS : ClassId) (aA : Nat) (aM : Nat) (aW : Nat) (h0 : Heap) (n0 : Nat) (Z0 : n0 ≤ h0.size) (E_t : Exa Z h0 t "com/example/boxwood/boxwood/XmlNodeTable") (F_size_t : Fld Z h0 t "com/example/boxwood/boxwood/XmlNodeTable" "size" "I" (.int 0)) (F_numbers_t : Fld Z h0 t "com/example/boxwood/boxwood/XmlNodeTable" "numbers" "[[I" (.ref aN)) (F_attributeCount_t : Fld Z h0 t "com/example/boxwood/boxwood/XmlNodeTable" "attributeCount" "I" (.int ac)) (V_aN : Arv Z h0 aN kN (.array .int) (1 : Int32) [.null] .null) (F_strings_t : Fld Z h0 t "com/example/boxwood/boxwood/XmlNodeTable" "strings" "[[Ljava/lang/String;" (.ref aS)) (V_aS : Arv Z h0 aS kS (.array (.object "java/lang/String")) (1 : Int32) [.null] .null) (O_aN : OvrA Z kN .int "[I") (O_aS : OvrA Z kS (.object "java/lang/String") "[Ljava/lang/String;") (g_t : n0 ≤ t) (g_aN : n0 ≤ aN) (g_aS : n0 ≤ aS) (E_nm : Exa Z h0 nm "java/lang/String") (F_attributeNumbers_t : Fld Z h0 t "com/example/boxwood/boxwood/XmlNodeTable" "attributeNumbers" "[[I" (.ref aA)) (F_attributeNames_t : Fld Z h0 t "com/example/boxwood/boxwood/XmlNodeTable" "attributeNames" "[[Ljava/lang/String;" (.ref aM)) (F_attributeValues_t : Fld Z h0 t "com/example/boxwood/boxwood/XmlNodeTable" "attributeValues" "[[Lcom/example/boxwood/boxwood/XmlValue;" (.ref aW)) :
    own_M l (⟨"com/example/boxwood/boxwood/XmlNodeTable", "startElement", "(Ljava/lang/String;II)I"⟩ : MethodName) prog_60_method_3_code 5 (some .int) ws ({ frames := 1, cells := 2, slots := 32768, locals := 18 } : Room) Z #[(.ref t), (.ref nm), (.int p1), (.int p2)] h0 (Q_start_0 Z t nm aN aS p1 p2 ac kN kS aA aM aW h0 n0) := by
  refine own_body (own := "com/example/boxwood/boxwood/XmlNodeTable") rfl (plainFor_of_name pn_8) (fun m => ef_start_0 m t nm p1 p2) ?_
  intro p e s m below meth c s₁ Bd hml hZ hh hx hby hown X0 e0
  have N0 := Fr.nil n0
  have lt3 : h0.size > t := E_t.lt
  have lt4 : h0.size > aN := V_aN.lt
  have lt5 : h0.size > aS := V_aS.lt
  have lt6 : h0.size > nm := E_nm.lt
  refine own_aloadN X0.here hx hby d8_0 rfl rfl ?_
  refine own_iconst X0.here hx hby d8_1 (v := (0 : Int32)) (by decide) ?_
  refine own_iloadN X0.here hx hby d8_2 rfl ?_
  refine own_iconst X0.here hx hby d8_3 (v := (-1 : Int32)) (by decide) ?_
  refine own_private X0 hx hZ hown (own_w hw 60 rfl) (own_w hw 61 rfl) (own_w hw 31 rfl) (own_w hw 62 rfl) (own_w hw 32 rfl) (own_w hw 63 rfl) (by decide) (add_0 l Z a0 hw [] t aN aS (0 : Int32) p1 (-1 : Int32) ac kN kS aA aM aW h0 n0 Z0 E_t F_size_t F_numbers_t F_attributeCount_t V_aN F_strings_t V_aS O_aN O_aS g_t g_aN g_aS F_attributeNumbers_t F_attributeNames_t F_attributeValues_t) 0 (Nat.le_of_eq rfl) (by decide) (by decide) (by rw [hml]; rfl) (argsL := [(.int 0), (.int p1), (.int (-1))]) (st := []) E_t (lenOf pd_3 rfl) rfl rfl (by decide) (by decide) e0 hby d8_4 ?_
  intro T7 v7 L7 X7 hQ7
  obtain ⟨bN_7, bS_7, kb_7, kc_7, rfl, Nq7, K7, P7_0, P7_1, P7_2, P7_3, P7_4, P7_5, P7_6, P7_7, P7_8, P7_9, P7_10, P7_11, P7_12, P7_13, P7_14, P7_15⟩ := hQ7
  have N7 := Fr.app N0 Nq7
  have z8 : h0.size ≤ T7.heap.size := K7.1
  have lt9 : T7.heap.size > t := P7_0.lt
  have lt10 : T7.heap.size > aN := P7_2.lt
  have lt11 : T7.heap.size > aS := P7_3.lt
  have lt12 : T7.heap.size > bN_7 := P7_7.lt
  have lt13 : T7.heap.size > bS_7 := P7_8.lt
  refine own_sh (T := T7) 7 #[.val (.ref t), .val (.ref nm), .val (.int p1), .val (.int p2), .unset] [(.int 0)] ?_
  refine own_istore X7.here hx hby d8_7 (l' := #[.val (.ref t), .val (.ref nm), .val (.int p1), .val (.int p2), .val (.int 0)]) rfl ?_
  refine own_aloadN X7.here hx hby d8_9 rfl rfl ?_
  refine own_getF X7 hx hZ hown (host := "") (Or.inl (own_w hw 43 rfl)) Via.refl rfl P7_11 hby d8_10 ?_
  intro T14 X14 e14
  refine own_iload X14.here hx hby d8_13 rfl ?_
  refine own_bipush X14.here hx hby d8_15 (v := (12 : Int32)) (by decide) ?_
  refine own_iushr X14.here hx hby d8_17 (v := (0 : Int32)) (by decide) ?_
  refine own_aaload X14 hx hZ e14 P7_3 rfl ⟨by decide, by decide⟩ (v := (.ref bS_7)) rfl hby d8_18 ?_
  refine own_iload X14.here hx hby d8_19 rfl ?_
  refine own_sipush X14.here hx hby d8_21 (v := (4095 : Int32)) (by decide) ?_
  refine own_iand X14.here hx hby d8_24 (v := (0 : Int32)) (by decide) ?_
  refine own_aloadN X14.here hx hby d8_25 rfl rfl ?_
  have V16 : Arv Z T7.heap bS_7 kc_7 (.object "java/lang/String") (4096 : Int32) [.null] .null := P7_8.pad (pad_rep [] .null 1)
  have f17 : Exa Z T7.heap nm "java/lang/String" := (E_nm.keep K7)
  refine own_aastore X14 hx hZ e14 V16 rfl rfl (own_stoV V16 P7_9 (Ins.self f17)) ⟨by decide, by decide⟩ 0 (by decide) (Nat.le_of_ble_eq_true rfl) hby d8_26 N7 (by omega) ?_
  intro T15 h15 lo15 X15 e15 N15 W15 V15 z15
  have V18 : Arv Z h15 bS_7 kc_7 (.object "java/lang/String") (4096 : Int32) [(.ref nm)] .null := V15
  refine own_aloadN X15.here hx hby d8_27 rfl rfl ?_
  refine own_iload X15.here hx hby d8_28 rfl ?_
  refine own_iconst X15.here hx hby d8_30 (v := (4 : Int32)) (by decide) ?_
  refine own_iloadN X15.here hx hby d8_31 rfl ?_
  have f19 : Fld Z h15 t "com/example/boxwood/boxwood/XmlNodeTable" "numbers" "[[I" (.ref aN) := (P7_10.other W15 (Or.inl (own_nn (by omega))))
  have f20 : Arv Z h15 aN kN (.array .int) (1 : Int32) [(.ref bN_7)] .null := (P7_2.other W15 (own_nn (by omega)))
  have f21 : Arv Z h15 bN_7 kb_7 .int (28672 : Int32) [(.int 0), (.int p1), (.int (-1)), (.int 1), (.int 0), (.int 0), (.int ac)] (.int 0) := (P7_7.other W15 (own_nn (by omega)))
  have z23 : n0 ≤ h15.size := by omega
  have f24 : Exa Z h15 t "com/example/boxwood/boxwood/XmlNodeTable" := (P7_0.wr W15)
  refine own_private X15 hx hZ hown (own_w hw 73 rfl) (own_w hw 74 rfl) (own_w hw 31 rfl) (own_w hw 75 rfl) (own_w hw 32 rfl) (own_w hw 76 rfl) (by decide) (set_0_4_7 l Z a0 hw [] t aN bN_7 p2 kN kb_7 (0 : Int32) p1 (-1 : Int32) (1 : Int32) (0 : Int32) (0 : Int32) ac h15 n0 z23 f19 f20 f21 (by omega)) 0 (Nat.le_of_eq rfl) (by decide) (by decide) (by rw [hml]; rfl) (argsL := [(.int 0), (.int 4), (.int p2)]) (st := []) f24 (lenOf pd_4 rfl) rfl rfl (by decide) (by decide) e15 hby d8_32 ?_
  intro T22 v22 L22 X22 hQ22
  obtain ⟨rfl, Nq22, K22, P22_0⟩ := hQ22
  have N22 := Fr.app N15 Nq22
  have z25 : h15.size ≤ T22.heap.size := K22.1
  have lt26 : T22.heap.size > bN_7 := P22_0.lt
  refine own_sh (T := T22) 35 #[.val (.ref t), .val (.ref nm), .val (.int p1), .val (.int p2), .val (.int 0)] [] ?_
  refine own_iload X22.here hx hby d8_35 rfl ?_
  have K27 : Keep h0 T22.heap [t, aN, aS] := ((((Keep.refl h0 [t, aN, aS]).trans K7 (allS (P := fun xq_ => xq_ ∈ [t, aN, aS] ∨ h0.size ≤ xq_) (Or.inl (List.mem_of_getElem? (i := 0) rfl)) (allS (P := fun xq_ => xq_ ∈ [t, aN, aS] ∨ h0.size ≤ xq_) (Or.inl (List.mem_of_getElem? (i := 1) rfl)) (allS (P := fun xq_ => xq_ ∈ [t, aN, aS] ∨ h0.size ≤ xq_) (Or.inl (List.mem_of_getElem? (i := 2) rfl)) all0)))).wr W15 (Or.inr (by omega))).trans K22 (allS (P := fun xq_ => xq_ ∈ [t, aN, aS] ∨ h0.size ≤ xq_) (Or.inr (by omega)) all0))
  have f28 : Exa Z T22.heap t "com/example/boxwood/boxwood/XmlNodeTable" := (f24.keep K22)
  have f29 : Fld Z T22.heap t "com/example/boxwood/boxwood/XmlNodeTable" "size" "I" (.int 1) := ((P7_1.other W15 (Or.inl (own_nn (by omega)))).keep K22 (ninS (own_nn (by omega)) nin0))
  have f30 : Arv Z T22.heap aN kN (.array .int) (1 : Int32) [(.ref bN_7)] .null := (f20.keep K22 (ninS (own_nn (by omega)) nin0))
  have f31 : Arv Z T22.heap aS kS (.array (.object "java/lang/String")) (1 : Int32) [(.ref bS_7)] .null := ((P7_3.other W15 (own_nn (by omega))).keep K22 (ninS (own_nn (by omega)) nin0))
  have f32 : Arv Z T22.heap bS_7 kc_7 (.object "java/lang/String") (4096 : Int32) [(.ref nm)] .null := (V18.keep K22 (ninS (own_nn (by omega)) nin0))
  have f33 : Fld Z T22.heap t "com/example/boxwood/boxwood/XmlNodeTable" "numbers" "[[I" (.ref aN) := (f19.keep K22 (ninS (own_nn (by omega)) nin0))
  have f34 : Fld Z T22.heap t "com/example/boxwood/boxwood/XmlNodeTable" "strings" "[[Ljava/lang/String;" (.ref aS) := ((P7_11.other W15 (Or.inl (own_nn (by omega)))).keep K22 (ninS (own_nn (by omega)) nin0))
  have f35 : Fld Z T22.heap t "com/example/boxwood/boxwood/XmlNodeTable" "attributeCount" "I" (.int ac) := ((P7_12.other W15 (Or.inl (own_nn (by omega)))).keep K22 (ninS (own_nn (by omega)) nin0))
  have f36 : Fld Z T22.heap t "com/example/boxwood/boxwood/XmlNodeTable" "attributeNumbers" "[[I" (.ref aA) := ((P7_13.other W15 (Or.inl (own_nn (by omega)))).keep K22 (ninS (own_nn (by omega)) nin0))
  have f37 : Fld Z T22.heap t "com/example/boxwood/boxwood/XmlNodeTable" "attributeNames" "[[Ljava/lang/String;" (.ref aM) := ((P7_14.other W15 (Or.inl (own_nn (by omega)))).keep K22 (ninS (own_nn (by omega)) nin0))
  have f38 : Fld Z T22.heap t "com/example/boxwood/boxwood/XmlNodeTable" "attributeValues" "[[Lcom/example/boxwood/boxwood/XmlValue;" (.ref aW) := ((P7_15.other W15 (Or.inl (own_nn (by omega)))).keep K22 (ninS (own_nn (by omega)) nin0))
  obtain ⟨fs, hr, hrun, hended, hW, hsame⟩ := X22.leave (v := some (.int 0)) (fun h => by rw [Bd.returns] at h; cases h)
  refine own_ret (t := T22.setFrames fs) ?_ ⟨_, hrun, hended, _, _, rfl, ?_, ⟨_, rfl⟩, hW, hsame.mono (by decide) (by decide)⟩
  · exact retOut X22 hx Bd.returns rfl (Or.inl ⟨rfl, Or.inl rfl, _, rfl⟩) (hb hby d8_37) hr
  · show Q_start_0 Z t nm aN aS p1 p2 ac kN kS aA aM aW h0 n0 _ T22.heap _
    exact ⟨bN_7, bS_7, kb_7, kc_7, rfl, N22, K27, f28, f29, f30, f31, (by omega), (by omega), (by first | decide | omega | assumption), P22_0, f32, P7_9, f33, f34, f35, f36, f37, f38⟩
theorem ef_at4_0_ (m : MethodId) (x0 : Nat) (x1 : Nat) (x3 : Int32) (x4 : Int32) : entryFrame m #[(.ref x0), (.ref x1), .null, (.int x3), (.int x4)] 8 = mkF m 0 #[.val (.ref x0), .val (.ref x1), .val .null, .val (.int x3), .val (.int x4), .unset, .unset, .unset] [] := by first | (simp [entryFrame, mkF, argsToLocals, Value.category]; done) | rfl
theorem pn_12 : plainName "com/example/boxwood/boxwood/XmlNodeTable" = true := by first | (simp [plainName, overriddenIn]; done) | decide +kernel
theorem d12_0 : decode prog_60_method_25_code 0 = .ok (.aload_n 0, 1) := by decide +kernel
theorem d12_1 : decode prog_60_method_25_code 1 = .ok (.dup, 1) := by decide +kernel
theorem d12_2 : decode prog_60_method_25_code 2 = .ok (.getfield 57, 3) := by decide +kernel
theorem d12_5 : decode prog_60_method_25_code 5 = .ok (.dup_x1, 1) := by decide +kernel
theorem d12_6 : decode prog_60_method_25_code 6 = .ok (.iconst 1, 1) := by decide +kernel
theorem d12_7 : decode prog_60_method_25_code 7 = .ok (.iadd, 1) := by decide +kernel
theorem d12_8 : decode prog_60_method_25_code 8 = .ok (.putfield 57, 3) := by decide +kernel
theorem d12_11 : decode prog_60_method_25_code 11 = .ok (.istore 5, 2) := by decide +kernel
theorem d12_13 : decode prog_60_method_25_code 13 = .ok (.iload 5, 2) := by decide +kernel
theorem d12_15 : decode prog_60_method_25_code 15 = .ok (.bipush 12, 2) := by decide +kernel
theorem d12_17 : decode prog_60_method_25_code 17 = .ok (.iushr, 1) := by decide +kernel
theorem d12_18 : decode prog_60_method_25_code 18 = .ok (.istore 6, 2) := by decide +kernel
theorem d12_20 : decode prog_60_method_25_code 20 = .ok (.iload 5, 2) := by decide +kernel
theorem d12_22 : decode prog_60_method_25_code 22 = .ok (.sipush 4095, 3) := by decide +kernel
theorem d12_25 : decode prog_60_method_25_code 25 = .ok (.iand, 1) := by decide +kernel
theorem d12_26 : decode prog_60_method_25_code 26 = .ok (.ifCond .ne 105, 3) := by decide +kernel
theorem d12_29 : decode prog_60_method_25_code 29 = .ok (.iload 6, 2) := by decide +kernel
theorem d12_31 : decode prog_60_method_25_code 31 = .ok (.aload_n 0, 1) := by decide +kernel
theorem d12_32 : decode prog_60_method_25_code 32 = .ok (.getfield 21, 3) := by decide +kernel
theorem d12_35 : decode prog_60_method_25_code 35 = .ok (.arraylength, 1) := by decide +kernel
theorem d12_36 : decode prog_60_method_25_code 36 = .ok (.if_icmp .ne 57, 3) := by decide +kernel
theorem d12_93 : decode prog_60_method_25_code 93 = .ok (.aload_n 0, 1) := by decide +kernel
theorem d12_94 : decode prog_60_method_25_code 94 = .ok (.getfield 21, 3) := by decide +kernel
theorem d12_97 : decode prog_60_method_25_code 97 = .ok (.iload 6, 2) := by decide +kernel
theorem d12_99 : decode prog_60_method_25_code 99 = .ok (.sipush 8192, 3) := by decide +kernel
theorem d12_102 : decode prog_60_method_25_code 102 = .ok (.newarray .int, 2) := by decide +kernel
theorem d12_104 : decode prog_60_method_25_code 104 = .ok (.aastore, 1) := by decide +kernel
theorem d12_105 : decode prog_60_method_25_code 105 = .ok (.aload_n 0, 1) := by decide +kernel
theorem d12_106 : decode prog_60_method_25_code 106 = .ok (.getfield 24, 3) := by decide +kernel
theorem d12_109 : decode prog_60_method_25_code 109 = .ok (.iload 6, 2) := by decide +kernel
theorem d12_111 : decode prog_60_method_25_code 111 = .ok (.sipush 4096, 3) := by decide +kernel
theorem d12_114 : decode prog_60_method_25_code 114 = .ok (.anewarray 60, 3) := by decide +kernel
theorem d12_117 : decode prog_60_method_25_code 117 = .ok (.aastore, 1) := by decide +kernel
theorem d12_118 : decode prog_60_method_25_code 118 = .ok (.aload_n 0, 1) := by decide +kernel
theorem d12_119 : decode prog_60_method_25_code 119 = .ok (.getfield 29, 3) := by decide +kernel
theorem d12_122 : decode prog_60_method_25_code 122 = .ok (.iload 6, 2) := by decide +kernel
theorem d12_124 : decode prog_60_method_25_code 124 = .ok (.sipush 4096, 3) := by decide +kernel
theorem d12_127 : decode prog_60_method_25_code 127 = .ok (.anewarray 72, 3) := by decide +kernel
theorem d12_130 : decode prog_60_method_25_code 130 = .ok (.aastore, 1) := by decide +kernel
theorem d12_131 : decode prog_60_method_25_code 131 = .ok (.iload 5, 2) := by decide +kernel
theorem d12_133 : decode prog_60_method_25_code 133 = .ok (.sipush 4095, 3) := by decide +kernel
theorem d12_136 : decode prog_60_method_25_code 136 = .ok (.iand, 1) := by decide +kernel
theorem d12_137 : decode prog_60_method_25_code 137 = .ok (.iconst 2, 1) := by decide +kernel
theorem d12_138 : decode prog_60_method_25_code 138 = .ok (.imul, 1) := by decide +kernel
theorem d12_139 : decode prog_60_method_25_code 139 = .ok (.istore 7, 2) := by decide +kernel
theorem d12_141 : decode prog_60_method_25_code 141 = .ok (.aload_n 0, 1) := by decide +kernel
theorem d12_142 : decode prog_60_method_25_code 142 = .ok (.getfield 21, 3) := by decide +kernel
theorem d12_145 : decode prog_60_method_25_code 145 = .ok (.iload 6, 2) := by decide +kernel
theorem d12_147 : decode prog_60_method_25_code 147 = .ok (.aaload, 1) := by decide +kernel
theorem d12_148 : decode prog_60_method_25_code 148 = .ok (.iload 7, 2) := by decide +kernel
theorem d12_150 : decode prog_60_method_25_code 150 = .ok (.iconst 0, 1) := by decide +kernel
theorem d12_151 : decode prog_60_method_25_code 151 = .ok (.iadd, 1) := by decide +kernel
theorem d12_152 : decode prog_60_method_25_code 152 = .ok (.iload_n 3, 1) := by decide +kernel
theorem d12_153 : decode prog_60_method_25_code 153 = .ok (.iastore, 1) := by decide +kernel
theorem d12_154 : decode prog_60_method_25_code 154 = .ok (.aload_n 0, 1) := by decide +kernel
theorem d12_155 : decode prog_60_method_25_code 155 = .ok (.getfield 21, 3) := by decide +kernel
theorem d12_158 : decode prog_60_method_25_code 158 = .ok (.iload 6, 2) := by decide +kernel
theorem d12_160 : decode prog_60_method_25_code 160 = .ok (.aaload, 1) := by decide +kernel
theorem d12_161 : decode prog_60_method_25_code 161 = .ok (.iload 7, 2) := by decide +kernel
theorem d12_163 : decode prog_60_method_25_code 163 = .ok (.iconst 1, 1) := by decide +kernel
theorem d12_164 : decode prog_60_method_25_code 164 = .ok (.iadd, 1) := by decide +kernel
theorem d12_165 : decode prog_60_method_25_code 165 = .ok (.iload 4, 2) := by decide +kernel
theorem d12_167 : decode prog_60_method_25_code 167 = .ok (.iastore, 1) := by decide +kernel
theorem d12_168 : decode prog_60_method_25_code 168 = .ok (.aload_n 0, 1) := by decide +kernel
theorem d12_169 : decode prog_60_method_25_code 169 = .ok (.getfield 24, 3) := by decide +kernel
theorem d12_172 : decode prog_60_method_25_code 172 = .ok (.iload 6, 2) := by decide +kernel
theorem d12_174 : decode prog_60_method_25_code 174 = .ok (.aaload, 1) := by decide +kernel
theorem d12_175 : decode prog_60_method_25_code 175 = .ok (.iload 5, 2) := by decide +kernel
theorem d12_177 : decode prog_60_method_25_code 177 = .ok (.sipush 4095, 3) := by decide +kernel
theorem d12_180 : decode prog_60_method_25_code 180 = .ok (.iand, 1) := by decide +kernel
theorem d12_181 : decode prog_60_method_25_code 181 = .ok (.aload_n 1, 1) := by decide +kernel
theorem d12_182 : decode prog_60_method_25_code 182 = .ok (.aastore, 1) := by decide +kernel
theorem d12_183 : decode prog_60_method_25_code 183 = .ok (.aload_n 0, 1) := by decide +kernel
theorem d12_184 : decode prog_60_method_25_code 184 = .ok (.getfield 29, 3) := by decide +kernel
theorem d12_187 : decode prog_60_method_25_code 187 = .ok (.iload 6, 2) := by decide +kernel
theorem d12_189 : decode prog_60_method_25_code 189 = .ok (.aaload, 1) := by decide +kernel
theorem d12_190 : decode prog_60_method_25_code 190 = .ok (.iload 5, 2) := by decide +kernel
theorem d12_192 : decode prog_60_method_25_code 192 = .ok (.sipush 4095, 3) := by decide +kernel
theorem d12_195 : decode prog_60_method_25_code 195 = .ok (.iand, 1) := by decide +kernel
theorem d12_196 : decode prog_60_method_25_code 196 = .ok (.aload_n 2, 1) := by decide +kernel
theorem d12_197 : decode prog_60_method_25_code 197 = .ok (.aastore, 1) := by decide +kernel
theorem d12_198 : decode prog_60_method_25_code 198 = .ok (.return_, 1) := by decide +kernel
def Q_at4_0_ (Z : State) (t : Nat) (nm : Nat) (p1 : Int32) (p2 : Int32) (aA : Nat) (kaA : ClassId) (aM : Nat) (kaM : ClassId) (aW : Nat) (kaW : ClassId) (h0 : Heap) (n0 : Nat) (vR : Option Value) (hR : Heap) (LR : List Loc) : Prop := ∃ (bA : Nat) (kbA : ClassId) (bM : Nat) (kbM : ClassId) (bW : Nat) (kbW : ClassId), vR = none ∧ Fr n0 LR ∧ Keep h0 hR [t, aA, aM, aW] ∧ (Exa Z hR t "com/example/boxwood/boxwood/XmlNodeTable") ∧ (Fld Z hR t "com/example/boxwood/boxwood/XmlNodeTable" "attributeCount" "I" (.int 1)) ∧ (Fld Z hR t "com/example/boxwood/boxwood/XmlNodeTable" "attributeNumbers" "[[I" (.ref aA)) ∧ (Arv Z hR aA kaA (.array .int) (1 : Int32) [(.ref bA)] .null) ∧ (Arv Z hR bA kbA .int (8192 : Int32) [(.int p1), (.int p2)] (.int 0)) ∧ h0.size ≤ bA ∧ (Fld Z hR t "com/example/boxwood/boxwood/XmlNodeTable" "attributeNames" "[[Ljava/lang/String;" (.ref aM)) ∧ (Arv Z hR aM kaM (.array (.object "java/lang/String")) (1 : Int32) [(.ref bM)] .null) ∧ (Arv Z hR bM kbM (.object "java/lang/String") (4096 : Int32) [(.ref nm)] .null) ∧ h0.size ≤ bM ∧ (Ovr Z kbM "java/lang/String") ∧ (Fld Z hR t "com/example/boxwood/boxwood/XmlNodeTable" "attributeValues" "[[Lcom/example/boxwood/boxwood/XmlValue;" (.ref aW)) ∧ (Arv Z hR aW kaW (.array (.object "com/example/boxwood/boxwood/XmlValue")) (1 : Int32) [(.ref bW)] .null) ∧ (Arv Z hR bW kbW (.object "com/example/boxwood/boxwood/XmlValue") (4096 : Int32) [.null] .null) ∧ h0.size ≤ bW ∧ (Ovr Z kbW "com/example/boxwood/boxwood/XmlValue") ∧ (bA < bM) ∧ (bM < bW)
set_option maxRecDepth 65536 in
set_option maxHeartbeats 40000000 in
theorem at4_0_ (l : Launch) (Z : State) (a0 : Array Value) (hw : ∀ d ∈ tables_1, d.before a0 Z = true) (ws : List Jvm.Cond) (t : Nat) (nm : Nat) (p1 : Int32) (p2 : Int32) (aA : Nat) (kaA : ClassId) (aM : Nat) (kaM : ClassId) (aW : Nat) (kaW : ClassId) (h0 : Heap) (n0 : Nat) (Z0 : n0 ≤ h0.size) (E_t : Exa Z h0 t "com/example/boxwood/boxwood/XmlNodeTable") (F_attributeCount_t : Fld Z h0 t "com/example/boxwood/boxwood/XmlNodeTable" "attributeCount" "I" (.int 0)) (g_t : n0 ≤ t) (E_nm : Exa Z h0 nm "java/lang/String") (F_attributeNumbers_t : Fld Z h0 t "com/example/boxwood/boxwood/XmlNodeTable" "attributeNumbers" "[[I" (.ref aA)) (V_aA : Arv Z h0 aA kaA (.array .int) (1 : Int32) [.null] .null) (O_aA : OvrA Z kaA .int "[I") (g_aA : n0 ≤ aA) (F_attributeNames_t : Fld Z h0 t "com/example/boxwood/boxwood/XmlNodeTable" "attributeNames" "[[Ljava/lang/String;" (.ref aM)) (V_aM : Arv Z h0 aM kaM (.array (.object "java/lang/String")) (1 : Int32) [.null] .null) (O_aM : OvrA Z kaM (.object "java/lang/String") "[Ljava/lang/String;") (g_aM : n0 ≤ aM) (F_attributeValues_t : Fld Z h0 t "com/example/boxwood/boxwood/XmlNodeTable" "attributeValues" "[[Lcom/example/boxwood/boxwood/XmlValue;" (.ref aW)) (V_aW : Arv Z h0 aW kaW (.array (.object "com/example/boxwood/boxwood/XmlValue")) (1 : Int32) [.null] .null) (O_aW : OvrA Z kaW (.object "com/example/boxwood/boxwood/XmlValue") "[Lcom/example/boxwood/boxwood/XmlValue;") (g_aW : n0 ≤ aW) :
    own_M l (⟨"com/example/boxwood/boxwood/XmlNodeTable", "addAttribute", "(Ljava/lang/String;Lcom/example/boxwood/boxwood/XmlValue;II)V"⟩ : MethodName) prog_60_method_25_code 8 none ws ({ frames := 0, cells := 3, slots := 16384, locals := 0 } : Room) Z #[(.ref t), (.ref nm), .null, (.int p1), (.int p2)] h0 (Q_at4_0_ Z t nm p1 p2 aA kaA aM kaM aW kaW h0 n0) := by
  refine own_body (own := "com/example/boxwood/boxwood/XmlNodeTable") rfl (plainFor_of_name pn_12) (fun m => ef_at4_0_ m t nm p1 p2) ?_
  intro p e s m below meth c s₁ Bd hml hZ hh hx hby hown X0 e0
  have N0 := Fr.nil n0
  have lt3 : h0.size > t := E_t.lt
  have lt4 : h0.size > nm := E_nm.lt
  have lt5 : h0.size > aA := V_aA.lt
  have lt6 : h0.size > aM := V_aM.lt
  have lt7 : h0.size > aW := V_aW.lt
  refine own_aloadN X0.here hx hby d12_0 rfl rfl ?_
  refine own_dup X0.here hx hby d12_1 rfl ?_
  refine own_getF X0 hx hZ hown (host := "") (Or.inl (own_w hw 71 rfl)) Via.refl e0 F_attributeCount_t hby d12_2 ?_
  intro T8 X8 e8
  refine own_dupX1 X8.here hx hby d12_5 rfl rfl ?_
  refine own_iconst X8.here hx hby d12_6 (v := (1 : Int32)) (by decide) ?_
  refine own_iadd X8.here hx hby d12_7 (v := (1 : Int32)) (by decide) ?_
  refine own_putF X8 hx hZ (ty := .int) hown (host := "") (Or.inl (own_w hw 71 rfl)) Via.refl e8 F_attributeCount_t E_t (Or.inl (own_w hw 72 rfl)) (own_w hw 31 rfl) (by decide) rfl rfl hby d12_8 N0 g_t ?_
  intro T9 h9 lo9 X9 e9 N9 W9 F9 z9
  refine own_istore X9.here hx hby d12_11 (l' := #[.val (.ref t), .val (.ref nm), .val .null, .val (.int p1), .val (.int p2), .val (.int 0), .unset, .unset]) rfl ?_
  refine own_iload X9.here hx hby d12_13 rfl ?_
  refine own_bipush X9.here hx hby d12_15 (v := (12 : Int32)) (by decide) ?_
  refine own_iushr X9.here hx hby d12_17 (v := (0 : Int32)) (by decide) ?_
  refine own_istore X9.here hx hby d12_18 (l' := #[.val (.ref t), .val (.ref nm), .val .null, .val (.int p1), .val (.int p2), .val (.int 0), .val (.int 0), .unset]) rfl ?_
  refine own_iload X9.here hx hby d12_20 rfl ?_
  refine own_sipush X9.here hx hby d12_22 (v := (4095 : Int32)) (by decide) ?_
  refine own_iand X9.here hx hby d12_25 (v := (0 : Int32)) (by decide) ?_
  refine own_ifNo X9.here hx hby d12_26 ((if0 _ _).trans (teq (show (0 : Int32) = (0 : Int32) from (by decide))).2) ?_
  refine own_iload X9.here hx hby d12_29 rfl ?_
  refine own_aloadN X9.here hx hby d12_31 rfl rfl ?_
  have f10 : Fld Z h9 t "com/example/boxwood/boxwood/XmlNodeTable" "attributeNumbers" "[[I" (.ref aA) := (F_attributeNumbers_t.other W9 (Or.inr (slot_ne (Or.inl (own_w hw 46 rfl)) (Or.inl (own_w hw 72 rfl)) (by decide) (t := (.array (.array .int))) (t' := .int) (by decide) (by decide))))
  refine own_getF X9 hx hZ hown (host := "") (Or.inl (own_w hw 45 rfl)) Via.refl e9 f10 hby d12_32 ?_
  intro T11 X11 e11
  have f12 : Arv Z h9 aA kaA (.array .int) (1 : Int32) [.null] .null := (V_aA.other W9 (Ne.symm (own_ne_oa E_t (own_w hw 31 rfl) V_aA)))
  refine own_alen X11 hx hZ e11 f12 hby d12_35 ?_
  refine own_icmpYes X11.here hx hby (pc' := 93) d12_36 (feq (show ¬ ((0 : Int32) = (1 : Int32)) from (by decide))).2 (by decide) (by decide) ?_
  refine own_aloadN X11.here hx hby d12_93 rfl rfl ?_
  refine own_getF X11 hx hZ hown (host := "") (Or.inl (own_w hw 45 rfl)) Via.refl e11 f10 hby d12_94 ?_
  intro T13 X13 e13
  refine own_iload X13.here hx hby d12_97 rfl ?_
  refine own_sipush X13.here hx hby d12_99 (v := (8192 : Int32)) (by decide) ?_
  refine own_newP X13 hx hZ (aty := .int) (own_w hw 66 rfl) e13 hby d12_102 (by decide) 8192 (by decide) (by decide) (by decide) (by decide) (ad := "[I") (by decide) ?_
  intro T14 h14 k14 b14 X14 e14 E14 g14 V14 C14 lt14
  have z15 : h9.size ≤ h14.size := E14.1
  have V16 : Arv Z h14 b14 k14 .int (8192 : Int32) [] (.int 0) := V14
  have f17 : Arv Z h14 aA kaA (.array .int) (1 : Int32) [.null] .null := (f12.ext E14)
  refine own_aastore X14 hx hZ e14 f17 rfl rfl (own_stoVA f17 O_aA (Ins.self C14)) ⟨by decide, by decide⟩ 0 (by decide) (Nat.le_of_ble_eq_true rfl) hby d12_104 N9 g_aA ?_
  intro T18 h18 lo18 X18 e18 N18 W18 V18 z18
  have V19 : Arv Z h18 aA kaA (.array .int) (1 : Int32) [(.ref b14)] .null := V18
  refine own_aloadN X18.here hx hby d12_105 rfl rfl ?_
  have f20 : Fld Z h18 t "com/example/boxwood/boxwood/XmlNodeTable" "attributeNames" "[[Ljava/lang/String;" (.ref aM) := (((F_attributeNames_t.other W9 (Or.inr (slot_ne (Or.inl (own_w hw 48 rfl)) (Or.inl (own_w hw 72 rfl)) (by decide) (t := (.array (.array (.object "java/lang/String")))) (t' := .int) (by decide) (by decide)))).ext E14).other W18 (Or.inl (own_ne_oa E_t (own_w hw 31 rfl) V_aA)))
  refine own_getF X18 hx hZ hown (host := "") (Or.inl (own_w hw 47 rfl)) Via.refl e18 f20 hby d12_106 ?_
  intro T21 X21 e21
  refine own_iload X21.here hx hby d12_109 rfl ?_
  refine own_sipush X21.here hx hby d12_111 (v := (4096 : Int32)) (by decide) ?_
  refine own_newR X21 hx hZ hown (own_w hw 68 rfl) (own_w hw 69 rfl) e21 hby d12_114 (by decide) 4096 (by decide) (by decide) (by decide) (by decide) (ad := "[Ljava/lang/String;") (by decide) ?_
  intro T22 h22 k22 b22 X22 e22 E22 g22 V22 C22 O22 lt22
  have z23 : h18.size ≤ h22.size := E22.1
  have V24 : Arv Z h22 b22 k22 (.object "java/lang/String") (4096 : Int32) [] .null := V22
  have f25 : Arv Z h22 aM kaM (.array (.object "java/lang/String")) (1 : Int32) [.null] .null := ((((V_aM.other W9 (Ne.symm (own_ne_oa E_t (own_w hw 31 rfl) V_aM))).ext E14).other W18 (own_ne_aa V_aM V_aA (by decide))).ext E22)
  refine own_aastore X22 hx hZ e22 f25 rfl rfl (own_stoVA f25 O_aM (Ins.self C22)) ⟨by decide, by decide⟩ 0 (by decide) (Nat.le_of_ble_eq_true rfl) hby d12_117 N18 g_aM ?_
  intro T26 h26 lo26 X26 e26 N26 W26 V26 z26
  have V27 : Arv Z h26 aM kaM (.array (.object "java/lang/String")) (1 : Int32) [(.ref b22)] .null := V26
  refine own_aloadN X26.here hx hby d12_118 rfl rfl ?_
  have f28 : Fld Z h26 t "com/example/boxwood/boxwood/XmlNodeTable" "attributeValues" "[[Lcom/example/boxwood/boxwood/XmlValue;" (.ref aW) := (((((F_attributeValues_t.other W9 (Or.inr (slot_ne (Or.inl (own_w hw 52 rfl)) (Or.inl (own_w hw 72 rfl)) (by decide) (t := (.array (.array (.object "com/example/boxwood/boxwood/XmlValue")))) (t' := .int) (by decide) (by decide)))).ext E14).other W18 (Or.inl (own_ne_oa E_t (own_w hw 31 rfl) V_aA))).ext E22).other W26 (Or.inl (own_ne_oa E_t (own_w hw 31 rfl) V_aM)))
  refine own_getF X26 hx hZ hown (host := "") (Or.inl (own_w hw 51 rfl)) Via.refl e26 f28 hby d12_119 ?_
  intro T29 X29 e29
  refine own_iload X29.here hx hby d12_122 rfl ?_
  refine own_sipush X29.here hx hby d12_124 (v := (4096 : Int32)) (by decide) ?_
  refine own_newR X29 hx hZ hown (own_w hw 86 rfl) (own_w hw 87 rfl) e29 hby d12_127 (by decide) 4096 (by decide) (by decide) (by decide) (by decide) (ad := "[Lcom/example/boxwood/boxwood/XmlValue;") (by decide) ?_
  intro T30 h30 k30 b30 X30 e30 E30 g30 V30 C30 O30 lt30
  have z31 : h26.size ≤ h30.size := E30.1
  have V32 : Arv Z h30 b30 k30 (.object "com/example/boxwood/boxwood/XmlValue") (4096 : Int32) [] .null := V30
  have f33 : Arv Z h30 aW kaW (.array (.object "com/example/boxwood/boxwood/XmlValue")) (1 : Int32) [.null] .null := ((((((V_aW.other W9 (Ne.symm (own_ne_oa E_t (own_w hw 31 rfl) V_aW))).ext E14).other W18 (own_ne_aa V_aW V_aA (by decide))).ext E22).other W26 (own_ne_aa V_aW V_aM (by decide))).ext E30)
  refine own_aastore X30 hx hZ e30 f33 rfl rfl (own_stoVA f33 O_aW (Ins.self C30)) ⟨by decide, by decide⟩ 0 (by decide) (Nat.le_of_ble_eq_true rfl) hby d12_130 N26 g_aW ?_
  intro T34 h34 lo34 X34 e34 N34 W34 V34 z34
  have V35 : Arv Z h34 aW kaW (.array (.object "com/example/boxwood/boxwood/XmlValue")) (1 : Int32) [(.ref b30)] .null := V34
  refine own_iload X34.here hx hby d12_131 rfl ?_
  refine own_sipush X34.here hx hby d12_133 (v := (4095 : Int32)) (by decide) ?_
  refine own_iand X34.here hx hby d12_136 (v := (0 : Int32)) (by decide) ?_
  refine own_iconst X34.here hx hby d12_137 (v := (2 : Int32)) (by decide) ?_
  refine own_imul X34.here hx hby d12_138 (v := (0 : Int32)) (by decide) ?_
  refine own_istore X34.here hx hby d12_139 (l' := #[.val (.ref t), .val (.ref nm), .val .null, .val (.int p1), .val (.int p2), .val (.int 0), .val (.int 0), .val (.int 0)]) rfl ?_
  refine own_aloadN X34.here hx hby d12_141 rfl rfl ?_
  have f36 : Fld Z h34 t "com/example/boxwood/boxwood/XmlNodeTable" "attributeNumbers" "[[I" (.ref aA) := ((((((f10.ext E14).other W18 (Or.inl (own_ne_oa E_t (own_w hw 31 rfl) V_aA))).ext E22).other W26 (Or.inl (own_ne_oa E_t (own_w hw 31 rfl) V_aM))).ext E30).other W34 (Or.inl (own_ne_oa E_t (own_w hw 31 rfl) V_aW)))
  refine own_getF X34 hx hZ hown (host := "") (Or.inl (own_w hw 45 rfl)) Via.refl e34 f36 hby d12_142 ?_
  intro T37 X37 e37
  refine own_iload X37.here hx hby d12_145 rfl ?_
  have f38 : Arv Z h34 aA kaA (.array .int) (1 : Int32) [(.ref b14)] .null := ((((V19.ext E22).other W26 (own_ne_aa V_aA V_aM (by decide))).ext E30).other W34 (own_ne_aa V_aA V_aW (by decide)))
  refine own_aaload X37 hx hZ e37 f38 rfl ⟨by decide, by decide⟩ (v := (.ref b14)) rfl hby d12_147 ?_
  refine own_iload X37.here hx hby d12_148 rfl ?_
  refine own_iconst X37.here hx hby d12_150 (v := (0 : Int32)) (by decide) ?_
  refine own_iadd X37.here hx hby d12_151 (v := (0 : Int32)) (by decide) ?_
  refine own_iloadN X37.here hx hby d12_152 rfl ?_
  have f39 : Arv Z h34 b14 k14 .int (8192 : Int32) [] (.int 0) := (((((V16.other W18 (own_nn (by omega))).ext E22).other W26 (own_nn (by omega))).ext E30).other W34 (own_nn (by omega)))
  have V41 : Arv Z h34 b14 k14 .int (8192 : Int32) [(.int 0)] (.int 0) := f39.pad (pad_rep [] (.int 0) 1)
  refine own_iastore X37 hx hZ e37 V41 ⟨by decide, by decide⟩ 0 (by decide) (Nat.le_of_ble_eq_true rfl) rfl hby d12_153 N34 (by omega) ?_
  intro T40 h40 lo40 X40 e40 N40 W40 V40 z40
  have V42 : Arv Z h40 b14 k14 .int (8192 : Int32) [(.int p1)] (.int 0) := V40
  refine own_aloadN X40.here hx hby d12_154 rfl rfl ?_
  have f43 : Fld Z h40 t "com/example/boxwood/boxwood/XmlNodeTable" "attributeNumbers" "[[I" (.ref aA) := (f36.other W40 (Or.inl (own_nn (by omega))))
  refine own_getF X40 hx hZ hown (host := "") (Or.inl (own_w hw 45 rfl)) Via.refl e40 f43 hby d12_155 ?_
  intro T44 X44 e44
  refine own_iload X44.here hx hby d12_158 rfl ?_
  have f45 : Arv Z h40 aA kaA (.array .int) (1 : Int32) [(.ref b14)] .null := (f38.other W40 (own_nn (by omega)))
  refine own_aaload X44 hx hZ e44 f45 rfl ⟨by decide, by decide⟩ (v := (.ref b14)) rfl hby d12_160 ?_
  refine own_iload X44.here hx hby d12_161 rfl ?_
  refine own_iconst X44.here hx hby d12_163 (v := (1 : Int32)) (by decide) ?_
  refine own_iadd X44.here hx hby d12_164 (v := (1 : Int32)) (by decide) ?_
  refine own_iload X44.here hx hby d12_165 rfl ?_
  have V47 : Arv Z h40 b14 k14 .int (8192 : Int32) [(.int p1), (.int 0)] (.int 0) := V42.pad (pad_rep [(.int p1)] (.int 0) 1)
  refine own_iastore X44 hx hZ e44 V47 ⟨by decide, by decide⟩ 1 (by decide) (Nat.le_of_ble_eq_true rfl) rfl hby d12_167 N40 (by omega) ?_
  intro T46 h46 lo46 X46 e46 N46 W46 V46 z46
  have V48 : Arv Z h46 b14 k14 .int (8192 : Int32) [(.int p1), (.int p2)] (.int 0) := V46
  refine own_aloadN X46.here hx hby d12_168 rfl rfl ?_
  have f49 : Fld Z h46 t "com/example/boxwood/boxwood/XmlNodeTable" "attributeNames" "[[Ljava/lang/String;" (.ref aM) := ((((((f20.ext E22).other W26 (Or.inl (own_ne_oa E_t (own_w hw 31 rfl) V_aM))).ext E30).other W34 (Or.inl (own_ne_oa E_t (own_w hw 31 rfl) V_aW))).other W40 (Or.inl (own_nn (by omega)))).other W46 (Or.inl (own_nn (by omega))))
  refine own_getF X46 hx hZ hown (host := "") (Or.inl (own_w hw 47 rfl)) Via.refl e46 f49 hby d12_169 ?_
  intro T50 X50 e50
  refine own_iload X50.here hx hby d12_172 rfl ?_
  have f51 : Arv Z h46 aM kaM (.array (.object "java/lang/String")) (1 : Int32) [(.ref b22)] .null := ((((V27.ext E30).other W34 (own_ne_aa V_aM V_aW (by decide))).other W40 (own_nn (by omega))).other W46 (own_nn (by omega)))
  refine own_aaload X50 hx hZ e50 f51 rfl ⟨by decide, by decide⟩ (v := (.ref b22)) rfl hby d12_174 ?_
  refine own_iload X50.here hx hby d12_175 rfl ?_
  refine own_sipush X50.here hx hby d12_177 (v := (4095 : Int32)) (by decide) ?_
  refine own_iand X50.here hx hby d12_180 (v := (0 : Int32)) (by decide) ?_
  refine own_aloadN X50.here hx hby d12_181 rfl rfl ?_
  have f52 : Arv Z h46 b22 k22 (.object "java/lang/String") (4096 : Int32) [] .null := (((((V24.other W26 (own_nn (by omega))).ext E30).other W34 (own_nn (by omega))).other W40 (own_nn (by omega))).other W46 (own_nn (by omega)))
  have V54 : Arv Z h46 b22 k22 (.object "java/lang/String") (4096 : Int32) [.null] .null := f52.pad (pad_rep [] .null 1)
  have f55 : Exa Z h46 nm "java/lang/String" := (((((((((E_nm.wr W9).ext E14).wr W18).ext E22).wr W26).ext E30).wr W34).wr W40).wr W46)
  refine own_aastore X50 hx hZ e50 V54 rfl rfl (own_stoV V54 O22 (Ins.self f55)) ⟨by decide, by decide⟩ 0 (by decide) (Nat.le_of_ble_eq_true rfl) hby d12_182 N46 (by omega) ?_
  intro T53 h53 lo53 X53 e53 N53 W53 V53 z53
  have V56 : Arv Z h53 b22 k22 (.object "java/lang/String") (4096 : Int32) [(.ref nm)] .null := V53
  refine own_aloadN X53.here hx hby d12_183 rfl rfl ?_
  have f57 : Fld Z h53 t "com/example/boxwood/boxwood/XmlNodeTable" "attributeValues" "[[Lcom/example/boxwood/boxwood/XmlValue;" (.ref aW) := (((((f28.ext E30).other W34 (Or.inl (own_ne_oa E_t (own_w hw 31 rfl) V_aW))).other W40 (Or.inl (own_nn (by omega)))).other W46 (Or.inl (own_nn (by omega)))).other W53 (Or.inl (own_nn (by omega))))
  refine own_getF X53 hx hZ hown (host := "") (Or.inl (own_w hw 51 rfl)) Via.refl e53 f57 hby d12_184 ?_
  intro T58 X58 e58
  refine own_iload X58.here hx hby d12_187 rfl ?_
  have f59 : Arv Z h53 aW kaW (.array (.object "com/example/boxwood/boxwood/XmlValue")) (1 : Int32) [(.ref b30)] .null := (((V35.other W40 (own_nn (by omega))).other W46 (own_nn (by omega))).other W53 (own_nn (by omega)))
  refine own_aaload X58 hx hZ e58 f59 rfl ⟨by decide, by decide⟩ (v := (.ref b30)) rfl hby d12_189 ?_
  refine own_iload X58.here hx hby d12_190 rfl ?_
  refine own_sipush X58.here hx hby d12_192 (v := (4095 : Int32)) (by decide) ?_
  refine own_iand X58.here hx hby d12_195 (v := (0 : Int32)) (by decide) ?_
  refine own_aloadN X58.here hx hby d12_196 rfl rfl ?_
  have f60 : Arv Z h53 b30 k30 (.object "com/example/boxwood/boxwood/XmlValue") (4096 : Int32) [] .null := ((((V32.other W34 (own_nn (by omega))).other W40 (own_nn (by omega))).other W46 (own_nn (by omega))).other W53 (own_nn (by omega)))
  have V62 : Arv Z h53 b30 k30 (.object "com/example/boxwood/boxwood/XmlValue") (4096 : Int32) [.null] .null := f60.pad (pad_rep [] .null 1)
  refine own_aastore X58 hx hZ e58 V62 rfl rfl (Or.inl rfl) ⟨by decide, by decide⟩ 0 (by decide) (Nat.le_of_ble_eq_true rfl) hby d12_197 N53 (by omega) ?_
  intro T61 h61 lo61 X61 e61 N61 W61 V61 z61
  have V63 : Arv Z h61 b30 k30 (.object "com/example/boxwood/boxwood/XmlValue") (4096 : Int32) [.null] .null := V61
  have K64 : Keep h0 h61 [t, aA, aM, aW] := ((((((((((((Keep.refl h0 [t, aA, aM, aW]).wr W9 (Or.inl (List.mem_of_getElem? (i := 0) rfl))).ext E14).wr W18 (Or.inl (List.mem_of_getElem? (i := 1) rfl))).ext E22).wr W26 (Or.inl (List.mem_of_getElem? (i := 2) rfl))).ext E30).wr W34 (Or.inl (List.mem_of_getElem? (i := 3) rfl))).wr W40 (Or.inr (by omega))).wr W46 (Or.inr (by omega))).wr W53 (Or.inr (by omega))).wr W61 (Or.inr (by omega)))
  have f65 : Exa Z h61 t "com/example/boxwood/boxwood/XmlNodeTable" := (((((((((((E_t.wr W9).ext E14).wr W18).ext E22).wr W26).ext E30).wr W34).wr W40).wr W46).wr W53).wr W61)
  have f66 : Fld Z h61 t "com/example/boxwood/boxwood/XmlNodeTable" "attributeCount" "I" (.int 1) := ((((((((((F9.ext E14).other W18 (Or.inl (own_ne_oa E_t (own_w hw 31 rfl) V_aA))).ext E22).other W26 (Or.inl (own_ne_oa E_t (own_w hw 31 rfl) V_aM))).ext E30).other W34 (Or.inl (own_ne_oa E_t (own_w hw 31 rfl) V_aW))).other W40 (Or.inl (own_nn (by omega)))).other W46 (Or.inl (own_nn (by omega)))).other W53 (Or.inl (own_nn (by omega)))).other W61 (Or.inl (own_nn (by omega))))
  have f67 : Fld Z h61 t "com/example/boxwood/boxwood/XmlNodeTable" "attributeNumbers" "[[I" (.ref aA) := (((f43.other W46 (Or.inl (own_nn (by omega)))).other W53 (Or.inl (own_nn (by omega)))).other W61 (Or.inl (own_nn (by omega))))
  have f68 : Arv Z h61 aA kaA (.array .int) (1 : Int32) [(.ref b14)] .null := (((f45.other W46 (own_nn (by omega))).other W53 (own_nn (by omega))).other W61 (own_nn (by omega)))
  have f69 : Arv Z h61 b14 k14 .int (8192 : Int32) [(.int p1), (.int p2)] (.int 0) := ((V48.other W53 (own_nn (by omega))).other W61 (own_nn (by omega)))
  have f70 : Fld Z h61 t "com/example/boxwood/boxwood/XmlNodeTable" "attributeNames" "[[Ljava/lang/String;" (.ref aM) := ((f49.other W53 (Or.inl (own_nn (by omega)))).other W61 (Or.inl (own_nn (by omega))))
  have f71 : Arv Z h61 aM kaM (.array (.object "java/lang/String")) (1 : Int32) [(.ref b22)] .null := ((f51.other W53 (own_nn (by omega))).other W61 (own_nn (by omega)))
  have f72 : Arv Z h61 b22 k22 (.object "java/lang/String") (4096 : Int32) [(.ref nm)] .null := (V56.other W61 (own_nn (by omega)))
  have f73 : Fld Z h61 t "com/example/boxwood/boxwood/XmlNodeTable" "attributeValues" "[[Lcom/example/boxwood/boxwood/XmlValue;" (.ref aW) := (f57.other W61 (Or.inl (own_nn (by omega))))
  have f74 : Arv Z h61 aW kaW (.array (.object "com/example/boxwood/boxwood/XmlValue")) (1 : Int32) [(.ref b30)] .null := (f59.other W61 (own_nn (by omega)))
  obtain ⟨fs, hr, hrun, hended, hW, hsame⟩ := X61.leave (v := none) (fun _ => rfl)
  refine own_ret (t := T61.setFrames fs) ?_ ⟨_, hrun, hended, _, _, rfl, ?_, ⟨_, rfl⟩, hW, hsame.mono (by decide) (by decide)⟩
  · exact X61.returnOut hx Bd.returns (hb hby d12_198) hr
  · show Q_at4_0_ Z t nm p1 p2 aA kaA aM kaM aW kaW h0 n0 _ T61.heap _
    rw [e61]
    exact ⟨b14, k14, b22, k22, b30, k30, rfl, N61, K64, f65, f66, f67, f68, f69, (by omega), f70, f71, f72, (by omega), O22, f73, f74, V63, (by omega), O30, (by first | decide | omega | assumption), (by first | decide | omega | assumption)⟩
theorem ef_at3_0_ (m : MethodId) (x0 : Nat) (x1 : Nat) (x2 : Int32) (x3 : Int32) : entryFrame m #[(.ref x0), (.ref x1), (.int x2), (.int x3)] 4 = mkF m 0 #[.val (.ref x0), .val (.ref x1), .val (.int x2), .val (.int x3)] [] := by first | (simp [entryFrame, mkF, argsToLocals, Value.category]; done) | rfl
theorem pn_11 : plainName "com/example/boxwood/boxwood/XmlNodeTable" = true := by first | (simp [plainName, overriddenIn]; done) | decide +kernel
theorem d11_0 : decode prog_60_method_5_code 0 = .ok (.aload_n 0, 1) := by decide +kernel
theorem d11_1 : decode prog_60_method_5_code 1 = .ok (.aload_n 1, 1) := by decide +kernel
theorem d11_2 : decode prog_60_method_5_code 2 = .ok (.aconst_null, 1) := by decide +kernel
theorem d11_3 : decode prog_60_method_5_code 3 = .ok (.iload_n 2, 1) := by decide +kernel
theorem d11_4 : decode prog_60_method_5_code 4 = .ok (.iload_n 3, 1) := by decide +kernel
theorem d11_5 : decode prog_60_method_5_code 5 = .ok (.invokevirtual 45, 3) := by decide +kernel
theorem pd_5 : parseMethodDescriptor "(Ljava/lang/String;Lcom/example/boxwood/boxwood/XmlValue;II)V" = some ⟨[(.object "java/lang/String"), (.object "com/example/boxwood/boxwood/XmlValue"), .int, .int], none⟩ := by decide +kernel
theorem d11_8 : decode prog_60_method_5_code 8 = .ok (.return_, 1) := by decide +kernel
def Q_at3_0_ (Z : State) (t : Nat) (nm : Nat) (p1 : Int32) (p2 : Int32) (aA : Nat) (kaA : ClassId) (aM : Nat) (kaM : ClassId) (aW : Nat) (kaW : ClassId) (h0 : Heap) (n0 : Nat) (vR : Option Value) (hR : Heap) (LR : List Loc) : Prop := ∃ (bA : Nat) (kbA : ClassId) (bM : Nat) (kbM : ClassId) (bW : Nat) (kbW : ClassId), vR = none ∧ Fr n0 LR ∧ Keep h0 hR [t, aA, aM, aW] ∧ (Exa Z hR t "com/example/boxwood/boxwood/XmlNodeTable") ∧ (Fld Z hR t "com/example/boxwood/boxwood/XmlNodeTable" "attributeCount" "I" (.int 1)) ∧ (Fld Z hR t "com/example/boxwood/boxwood/XmlNodeTable" "attributeNumbers" "[[I" (.ref aA)) ∧ (Arv Z hR aA kaA (.array .int) (1 : Int32) [(.ref bA)] .null) ∧ (Arv Z hR bA kbA .int (8192 : Int32) [(.int p1), (.int p2)] (.int 0)) ∧ h0.size ≤ bA ∧ (Fld Z hR t "com/example/boxwood/boxwood/XmlNodeTable" "attributeNames" "[[Ljava/lang/String;" (.ref aM)) ∧ (Arv Z hR aM kaM (.array (.object "java/lang/String")) (1 : Int32) [(.ref bM)] .null) ∧ (Arv Z hR bM kbM (.object "java/lang/String") (4096 : Int32) [(.ref nm)] .null) ∧ h0.size ≤ bM ∧ (Ovr Z kbM "java/lang/String") ∧ (Fld Z hR t "com/example/boxwood/boxwood/XmlNodeTable" "attributeValues" "[[Lcom/example/boxwood/boxwood/XmlValue;" (.ref aW)) ∧ (Arv Z hR aW kaW (.array (.object "com/example/boxwood/boxwood/XmlValue")) (1 : Int32) [(.ref bW)] .null) ∧ (Arv Z hR bW kbW (.object "com/example/boxwood/boxwood/XmlValue") (4096 : Int32) [.null] .null) ∧ h0.size ≤ bW ∧ (Ovr Z kbW "com/example/boxwood/boxwood/XmlValue") ∧ (bA < bM) ∧ (bM < bW)
set_option maxRecDepth 65536 in
set_option maxHeartbeats 40000000 in
theorem at3_0_ (l : Launch) (Z : State) (a0 : Array Value) (hw : ∀ d ∈ tables_1, d.before a0 Z = true) (ws : List Jvm.Cond) (t : Nat) (nm : Nat) (p1 : Int32) (p2 : Int32) (aA : Nat) (kaA : ClassId) (aM : Nat) (kaM : ClassId) (aW : Nat) (kaW : ClassId) (h0 : Heap) (n0 : Nat) (Z0 : n0 ≤ h0.size) (E_t : Exa Z h0 t "com/example/boxwood/boxwood/XmlNodeTable") (F_attributeCount_t : Fld Z h0 t "com/example/boxwood/boxwood/XmlNodeTable" "attributeCount" "I" (.int 0)) (g_t : n0 ≤ t) (E_nm : Exa Z h0 nm "java/lang/String") (F_attributeNumbers_t : Fld Z h0 t "com/example/boxwood/boxwood/XmlNodeTable" "attributeNumbers" "[[I" (.ref aA)) (V_aA : Arv Z h0 aA kaA (.array .int) (1 : Int32) [.null] .null) (O_aA : OvrA Z kaA .int "[I") (g_aA : n0 ≤ aA) (F_attributeNames_t : Fld Z h0 t "com/example/boxwood/boxwood/XmlNodeTable" "attributeNames" "[[Ljava/lang/String;" (.ref aM)) (V_aM : Arv Z h0 aM kaM (.array (.object "java/lang/String")) (1 : Int32) [.null] .null) (O_aM : OvrA Z kaM (.object "java/lang/String") "[Ljava/lang/String;") (g_aM : n0 ≤ aM) (F_attributeValues_t : Fld Z h0 t "com/example/boxwood/boxwood/XmlNodeTable" "attributeValues" "[[Lcom/example/boxwood/boxwood/XmlValue;" (.ref aW)) (V_aW : Arv Z h0 aW kaW (.array (.object "com/example/boxwood/boxwood/XmlValue")) (1 : Int32) [.null] .null) (O_aW : OvrA Z kaW (.object "com/example/boxwood/boxwood/XmlValue") "[Lcom/example/boxwood/boxwood/XmlValue;") (g_aW : n0 ≤ aW) :
    own_M l (⟨"com/example/boxwood/boxwood/XmlNodeTable", "addAttribute", "(Ljava/lang/String;II)V"⟩ : MethodName) prog_60_method_5_code 4 none ws ({ frames := 1, cells := 3, slots := 16384, locals := 19 } : Room) Z #[(.ref t), (.ref nm), (.int p1), (.int p2)] h0 (Q_at3_0_ Z t nm p1 p2 aA kaA aM kaM aW kaW h0 n0) := by
  refine own_body (own := "com/example/boxwood/boxwood/XmlNodeTable") rfl (plainFor_of_name pn_11) (fun m => ef_at3_0_ m t nm p1 p2) ?_
  intro p e s m below meth c s₁ Bd hml hZ hh hx hby hown X0 e0
  have N0 := Fr.nil n0
  have lt3 : h0.size > t := E_t.lt
  have lt4 : h0.size > nm := E_nm.lt
  have lt5 : h0.size > aA := V_aA.lt
  have lt6 : h0.size > aM := V_aM.lt
  have lt7 : h0.size > aW := V_aW.lt
  refine own_aloadN X0.here hx hby d11_0 rfl rfl ?_
  refine own_aloadN X0.here hx hby d11_1 rfl rfl ?_
  refine own_aconstNull X0.here hx hby d11_2 ?_
  refine own_iloadN X0.here hx hby d11_3 rfl ?_
  refine own_iloadN X0.here hx hby d11_4 rfl ?_
  refine own_private X0 hx hZ hown (own_w hw 82 rfl) (own_w hw 83 rfl) (own_w hw 31 rfl) (own_w hw 84 rfl) (own_w hw 32 rfl) (own_w hw 85 rfl) (by decide) (at4_0_ l Z a0 hw [] t nm p1 p2 aA kaA aM kaM aW kaW h0 n0 Z0 E_t F_attributeCount_t g_t E_nm F_attributeNumbers_t V_aA O_aA g_aA F_attributeNames_t V_aM O_aM g_aM F_attributeValues_t V_aW O_aW g_aW) 0 (Nat.le_of_eq rfl) (by decide) (by decide) (by rw [hml]; rfl) (argsL := [(.ref nm), .null, (.int p1), (.int p2)]) (st := []) E_t (lenOf pd_5 rfl) rfl rfl (by decide) (by decide) e0 hby d11_5 ?_
  intro T8 v8 L8 X8 hQ8
  obtain ⟨bA_8, kbA_8, bM_8, kbM_8, bW_8, kbW_8, rfl, Nq8, K8, P8_0, P8_1, P8_2, P8_3, P8_4, P8_5, P8_6, P8_7, P8_8, P8_9, P8_10, P8_11, P8_12, P8_13, P8_14, P8_15, P8_16, P8_17⟩ := hQ8
  have N8 := Fr.app N0 Nq8
  have z9 : h0.size ≤ T8.heap.size := K8.1
  have lt10 : T8.heap.size > t := P8_0.lt
  have lt11 : T8.heap.size > aA := P8_3.lt
  have lt12 : T8.heap.size > bA_8 := P8_4.lt
  have lt13 : T8.heap.size > aM := P8_7.lt
  have lt14 : T8.heap.size > bM_8 := P8_8.lt
  have lt15 : T8.heap.size > aW := P8_12.lt
  have lt16 : T8.heap.size > bW_8 := P8_13.lt
  refine own_sh (T := T8) 8 #[.val (.ref t), .val (.ref nm), .val (.int p1), .val (.int p2)] [] ?_
  have K17 : Keep h0 T8.heap [t, aA, aM, aW] := ((Keep.refl h0 [t, aA, aM, aW]).trans K8 (allS (P := fun xq_ => xq_ ∈ [t, aA, aM, aW] ∨ h0.size ≤ xq_) (Or.inl (List.mem_of_getElem? (i := 0) rfl)) (allS (P := fun xq_ => xq_ ∈ [t, aA, aM, aW] ∨ h0.size ≤ xq_) (Or.inl (List.mem_of_getElem? (i := 1) rfl)) (allS (P := fun xq_ => xq_ ∈ [t, aA, aM, aW] ∨ h0.size ≤ xq_) (Or.inl (List.mem_of_getElem? (i := 2) rfl)) (allS (P := fun xq_ => xq_ ∈ [t, aA, aM, aW] ∨ h0.size ≤ xq_) (Or.inl (List.mem_of_getElem? (i := 3) rfl)) all0)))))
  obtain ⟨fs, hr, hrun, hended, hW, hsame⟩ := X8.leave (v := none) (fun _ => rfl)
  refine own_ret (t := T8.setFrames fs) ?_ ⟨_, hrun, hended, _, _, rfl, ?_, ⟨_, rfl⟩, hW, hsame.mono (by decide) (by decide)⟩
  · exact X8.returnOut hx Bd.returns (hb hby d11_8) hr
  · show Q_at3_0_ Z t nm p1 p2 aA kaA aM kaM aW kaW h0 n0 _ T8.heap _
    exact ⟨bA_8, kbA_8, bM_8, kbM_8, bW_8, kbW_8, rfl, N8, K17, P8_0, P8_1, P8_2, P8_3, P8_4, (by omega), P8_6, P8_7, P8_8, (by omega), P8_10, P8_11, P8_12, P8_13, (by omega), P8_15, (by first | decide | omega | assumption), (by first | decide | omega | assumption)⟩
def Q_at4_1_s (Z : State) (t : Nat) (nm : Nat) (p1 : Int32) (p2 : Int32) (aA : Nat) (kaA : ClassId) (bA : Nat) (kbA : ClassId) (aM : Nat) (kaM : ClassId) (bM : Nat) (kbM : ClassId) (aW : Nat) (kaW : ClassId) (bW : Nat) (kbW : ClassId) (x0 : Int32) (x1 : Int32) (s0 : Nat) (h0 : Heap) (n0 : Nat) (vR : Option Value) (hR : Heap) (LR : List Loc) : Prop := vR = none ∧ Fr n0 LR ∧ Keep h0 hR [t, bA, bM, bW] ∧ (Exa Z hR t "com/example/boxwood/boxwood/XmlNodeTable") ∧ (Fld Z hR t "com/example/boxwood/boxwood/XmlNodeTable" "attributeCount" "I" (.int 2)) ∧ (Fld Z hR t "com/example/boxwood/boxwood/XmlNodeTable" "attributeNumbers" "[[I" (.ref aA)) ∧ (Arv Z hR aA kaA (.array .int) (1 : Int32) [(.ref bA)] .null) ∧ (Arv Z hR bA kbA .int (8192 : Int32) [(.int x0), (.int x1), (.int p1), (.int p2)] (.int 0)) ∧ (Fld Z hR t "com/example/boxwood/boxwood/XmlNodeTable" "attributeNames" "[[Ljava/lang/String;" (.ref aM)) ∧ (Arv Z hR aM kaM (.array (.object "java/lang/String")) (1 : Int32) [(.ref bM)] .null) ∧ (Arv Z hR bM kbM (.object "java/lang/String") (4096 : Int32) [(.ref s0), (.ref nm)] .null) ∧ (Fld Z hR t "com/example/boxwood/boxwood/XmlNodeTable" "attributeValues" "[[Lcom/example/boxwood/boxwood/XmlValue;" (.ref aW)) ∧ (Arv Z hR aW kaW (.array (.object "com/example/boxwood/boxwood/XmlValue")) (1 : Int32) [(.ref bW)] .null) ∧ (Arv Z hR bW kbW (.object "com/example/boxwood/boxwood/XmlValue") (4096 : Int32) [.null, .null] .null)
set_option maxRecDepth 65536 in
set_option maxHeartbeats 40000000 in
theorem at4_1_s (l : Launch) (Z : State) (a0 : Array Value) (hw : ∀ d ∈ tables_1, d.before a0 Z = true) (ws : List Jvm.Cond) (t : Nat) (nm : Nat) (p1 : Int32) (p2 : Int32) (aA : Nat) (kaA : ClassId) (bA : Nat) (kbA : ClassId) (aM : Nat) (kaM : ClassId) (bM : Nat) (kbM : ClassId) (aW : Nat) (kaW : ClassId) (bW : Nat) (kbW : ClassId) (x0 : Int32) (x1 : Int32) (s0 : Nat) (h0 : Heap) (n0 : Nat) (Z0 : n0 ≤ h0.size) (E_t : Exa Z h0 t "com/example/boxwood/boxwood/XmlNodeTable") (F_attributeCount_t : Fld Z h0 t "com/example/boxwood/boxwood/XmlNodeTable" "attributeCount" "I" (.int 1)) (g_t : n0 ≤ t) (E_nm : Exa Z h0 nm "java/lang/String") (F_attributeNumbers_t : Fld Z h0 t "com/example/boxwood/boxwood/XmlNodeTable" "attributeNumbers" "[[I" (.ref aA)) (V_aA : Arv Z h0 aA kaA (.array .int) (1 : Int32) [(.ref bA)] .null) (V_bA : Arv Z h0 bA kbA .int (8192 : Int32) [(.int x0), (.int x1)] (.int 0)) (g_bA : n0 ≤ bA) (F_attributeNames_t : Fld Z h0 t "com/example/boxwood/boxwood/XmlNodeTable" "attributeNames" "[[Ljava/lang/String;" (.ref aM)) (V_aM : Arv Z h0 aM kaM (.array (.object "java/lang/String")) (1 : Int32) [(.ref bM)] .null) (V_bM : Arv Z h0 bM kbM (.object "java/lang/String") (4096 : Int32) [(.ref s0)] .null) (g_bM : n0 ≤ bM) (O_bM : Ovr Z kbM "java/lang/String") (F_attributeValues_t : Fld Z h0 t "com/example/boxwood/boxwood/XmlNodeTable" "attributeValues" "[[Lcom/example/boxwood/boxwood/XmlValue;" (.ref aW)) (V_aW : Arv Z h0 aW kaW (.array (.object "com/example/boxwood/boxwood/XmlValue")) (1 : Int32) [(.ref bW)] .null) (V_bW : Arv Z h0 bW kbW (.object "com/example/boxwood/boxwood/XmlValue") (4096 : Int32) [.null] .null) (g_bW : n0 ≤ bW) (O_bW : Ovr Z kbW "com/example/boxwood/boxwood/XmlValue") :
    own_M l (⟨"com/example/boxwood/boxwood/XmlNodeTable", "addAttribute", "(Ljava/lang/String;Lcom/example/boxwood/boxwood/XmlValue;II)V"⟩ : MethodName) prog_60_method_25_code 8 none ws ({ frames := 0, cells := 0, slots := 0, locals := 0 } : Room) Z #[(.ref t), (.ref nm), .null, (.int p1), (.int p2)] h0 (Q_at4_1_s Z t nm p1 p2 aA kaA bA kbA aM kaM bM kbM aW kaW bW kbW x0 x1 s0 h0 n0) := by
  refine own_body (own := "com/example/boxwood/boxwood/XmlNodeTable") rfl (plainFor_of_name pn_12) (fun m => ef_at4_0_ m t nm p1 p2) ?_
  intro p e s m below meth c s₁ Bd hml hZ hh hx hby hown X0 e0
  have N0 := Fr.nil n0
  have lt3 : h0.size > t := E_t.lt
  have lt4 : h0.size > nm := E_nm.lt
  have lt5 : h0.size > aA := V_aA.lt
  have lt6 : h0.size > bA := V_bA.lt
  have lt7 : h0.size > aM := V_aM.lt
  have lt8 : h0.size > bM := V_bM.lt
  have lt9 : h0.size > aW := V_aW.lt
  have lt10 : h0.size > bW := V_bW.lt
  refine own_aloadN X0.here hx hby d12_0 rfl rfl ?_
  refine own_dup X0.here hx hby d12_1 rfl ?_
  refine own_getF X0 hx hZ hown (host := "") (Or.inl (own_w hw 71 rfl)) Via.refl e0 F_attributeCount_t hby d12_2 ?_
  intro T11 X11 e11
  refine own_dupX1 X11.here hx hby d12_5 rfl rfl ?_
  refine own_iconst X11.here hx hby d12_6 (v := (1 : Int32)) (by decide) ?_
  refine own_iadd X11.here hx hby d12_7 (v := (2 : Int32)) (by decide) ?_
  refine own_putF X11 hx hZ (ty := .int) hown (host := "") (Or.inl (own_w hw 71 rfl)) Via.refl e11 F_attributeCount_t E_t (Or.inl (own_w hw 72 rfl)) (own_w hw 31 rfl) (by decide) rfl rfl hby d12_8 N0 g_t ?_
  intro T12 h12 lo12 X12 e12 N12 W12 F12 z12
  refine own_istore X12.here hx hby d12_11 (l' := #[.val (.ref t), .val (.ref nm), .val .null, .val (.int p1), .val (.int p2), .val (.int 1), .unset, .unset]) rfl ?_
  refine own_iload X12.here hx hby d12_13 rfl ?_
  refine own_bipush X12.here hx hby d12_15 (v := (12 : Int32)) (by decide) ?_
  refine own_iushr X12.here hx hby d12_17 (v := (0 : Int32)) (by decide) ?_
  refine own_istore X12.here hx hby d12_18 (l' := #[.val (.ref t), .val (.ref nm), .val .null, .val (.int p1), .val (.int p2), .val (.int 1), .val (.int 0), .unset]) rfl ?_
  refine own_iload X12.here hx hby d12_20 rfl ?_
  refine own_sipush X12.here hx hby d12_22 (v := (4095 : Int32)) (by decide) ?_
  refine own_iand X12.here hx hby d12_25 (v := (1 : Int32)) (by decide) ?_
  refine own_ifYes X12.here hx hby (pc' := 131) d12_26 ((if0 _ _).trans (feq (show ¬ ((1 : Int32) = (0 : Int32)) from (by decide))).2) (by decide) (by decide) ?_
  refine own_iload X12.here hx hby d12_131 rfl ?_
  refine own_sipush X12.here hx hby d12_133 (v := (4095 : Int32)) (by decide) ?_
  refine own_iand X12.here hx hby d12_136 (v := (1 : Int32)) (by decide) ?_
  refine own_iconst X12.here hx hby d12_137 (v := (2 : Int32)) (by decide) ?_
  refine own_imul X12.here hx hby d12_138 (v := (2 : Int32)) (by decide) ?_
  refine own_istore X12.here hx hby d12_139 (l' := #[.val (.ref t), .val (.ref nm), .val .null, .val (.int p1), .val (.int p2), .val (.int 1), .val (.int 0), .val (.int 2)]) rfl ?_
  refine own_aloadN X12.here hx hby d12_141 rfl rfl ?_
  have f13 : Fld Z h12 t "com/example/boxwood/boxwood/XmlNodeTable" "attributeNumbers" "[[I" (.ref aA) := (F_attributeNumbers_t.other W12 (Or.inr (slot_ne (Or.inl (own_w hw 46 rfl)) (Or.inl (own_w hw 72 rfl)) (by decide) (t := (.array (.array .int))) (t' := .int) (by decide) (by decide))))
  refine own_getF X12 hx hZ hown (host := "") (Or.inl (own_w hw 45 rfl)) Via.refl e12 f13 hby d12_142 ?_
  intro T14 X14 e14
  refine own_iload X14.here hx hby d12_145 rfl ?_
  have f15 : Arv Z h12 aA kaA (.array .int) (1 : Int32) [(.ref bA)] .null := (V_aA.other W12 (Ne.symm (own_ne_oa E_t (own_w hw 31 rfl) V_aA)))
  refine own_aaload X14 hx hZ e14 f15 rfl ⟨by decide, by decide⟩ (v := (.ref bA)) rfl hby d12_147 ?_
  refine own_iload X14.here hx hby d12_148 rfl ?_
  refine own_iconst X14.here hx hby d12_150 (v := (0 : Int32)) (by decide) ?_
  refine own_iadd X14.here hx hby d12_151 (v := (2 : Int32)) (by decide) ?_
  refine own_iloadN X14.here hx hby d12_152 rfl ?_
  have f16 : Arv Z h12 bA kbA .int (8192 : Int32) [(.int x0), (.int x1)] (.int 0) := (V_bA.other W12 (Ne.symm (own_ne_oa E_t (own_w hw 31 rfl) V_bA)))
  have V18 : Arv Z h12 bA kbA .int (8192 : Int32) [(.int x0), (.int x1), (.int 0)] (.int 0) := f16.pad (pad_rep [(.int x0), (.int x1)] (.int 0) 1)
  refine own_iastore X14 hx hZ e14 V18 ⟨by decide, by decide⟩ 2 (by decide) (Nat.le_of_ble_eq_true rfl) rfl hby d12_153 N12 g_bA ?_
  intro T17 h17 lo17 X17 e17 N17 W17 V17 z17
  have V19 : Arv Z h17 bA kbA .int (8192 : Int32) [(.int x0), (.int x1), (.int p1)] (.int 0) := V17
  refine own_aloadN X17.here hx hby d12_154 rfl rfl ?_
  have f20 : Fld Z h17 t "com/example/boxwood/boxwood/XmlNodeTable" "attributeNumbers" "[[I" (.ref aA) := (f13.other W17 (Or.inl (own_ne_oa E_t (own_w hw 31 rfl) V_bA)))
  refine own_getF X17 hx hZ hown (host := "") (Or.inl (own_w hw 45 rfl)) Via.refl e17 f20 hby d12_155 ?_
  intro T21 X21 e21
  refine own_iload X21.here hx hby d12_158 rfl ?_
  have f22 : Arv Z h17 aA kaA (.array .int) (1 : Int32) [(.ref bA)] .null := (f15.other W17 (own_ne_aa V_aA V_bA (by decide)))
  refine own_aaload X21 hx hZ e21 f22 rfl ⟨by decide, by decide⟩ (v := (.ref bA)) rfl hby d12_160 ?_
  refine own_iload X21.here hx hby d12_161 rfl ?_
  refine own_iconst X21.here hx hby d12_163 (v := (1 : Int32)) (by decide) ?_
  refine own_iadd X21.here hx hby d12_164 (v := (3 : Int32)) (by decide) ?_
  refine own_iload X21.here hx hby d12_165 rfl ?_
  have V24 : Arv Z h17 bA kbA .int (8192 : Int32) [(.int x0), (.int x1), (.int p1), (.int 0)] (.int 0) := V19.pad (pad_rep [(.int x0), (.int x1), (.int p1)] (.int 0) 1)
  refine own_iastore X21 hx hZ e21 V24 ⟨by decide, by decide⟩ 3 (by decide) (Nat.le_of_ble_eq_true rfl) rfl hby d12_167 N17 g_bA ?_
  intro T23 h23 lo23 X23 e23 N23 W23 V23 z23
  have V25 : Arv Z h23 bA kbA .int (8192 : Int32) [(.int x0), (.int x1), (.int p1), (.int p2)] (.int 0) := V23
  refine own_aloadN X23.here hx hby d12_168 rfl rfl ?_
  have f26 : Fld Z h23 t "com/example/boxwood/boxwood/XmlNodeTable" "attributeNames" "[[Ljava/lang/String;" (.ref aM) := (((F_attributeNames_t.other W12 (Or.inr (slot_ne (Or.inl (own_w hw 48 rfl)) (Or.inl (own_w hw 72 rfl)) (by decide) (t := (.array (.array (.object "java/lang/String")))) (t' := .int) (by decide) (by decide)))).other W17 (Or.inl (own_ne_oa E_t (own_w hw 31 rfl) V_bA))).other W23 (Or.inl (own_ne_oa E_t (own_w hw 31 rfl) V_bA)))
  refine own_getF X23 hx hZ hown (host := "") (Or.inl (own_w hw 47 rfl)) Via.refl e23 f26 hby d12_169 ?_
  intro T27 X27 e27
  refine own_iload X27.here hx hby d12_172 rfl ?_
  have f28 : Arv Z h23 aM kaM (.array (.object "java/lang/String")) (1 : Int32) [(.ref bM)] .null := (((V_aM.other W12 (Ne.symm (own_ne_oa E_t (own_w hw 31 rfl) V_aM))).other W17 (own_ne_aa V_aM V_bA (by decide))).other W23 (own_ne_aa V_aM V_bA (by decide)))
  refine own_aaload X27 hx hZ e27 f28 rfl ⟨by decide, by decide⟩ (v := (.ref bM)) rfl hby d12_174 ?_
  refine own_iload X27.here hx hby d12_175 rfl ?_
  refine own_sipush X27.here hx hby d12_177 (v := (4095 : Int32)) (by decide) ?_
  refine own_iand X27.here hx hby d12_180 (v := (1 : Int32)) (by decide) ?_
  refine own_aloadN X27.here hx hby d12_181 rfl rfl ?_
  have f29 : Arv Z h23 bM kbM (.object "java/lang/String") (4096 : Int32) [(.ref s0)] .null := (((V_bM.other W12 (Ne.symm (own_ne_oa E_t (own_w hw 31 rfl) V_bM))).other W17 (own_ne_aa V_bM V_bA (by decide))).other W23 (own_ne_aa V_bM V_bA (by decide)))
  have V31 : Arv Z h23 bM kbM (.object "java/lang/String") (4096 : Int32) [(.ref s0), .null] .null := f29.pad (pad_rep [(.ref s0)] .null 1)
  have f32 : Exa Z h23 nm "java/lang/String" := (((E_nm.wr W12).wr W17).wr W23)
  refine own_aastore X27 hx hZ e27 V31 rfl rfl (own_stoV V31 O_bM (Ins.self f32)) ⟨by decide, by decide⟩ 1 (by decide) (Nat.le_of_ble_eq_true rfl) hby d12_182 N23 g_bM ?_
  intro T30 h30 lo30 X30 e30 N30 W30 V30 z30
  have V33 : Arv Z h30 bM kbM (.object "java/lang/String") (4096 : Int32) [(.ref s0), (.ref nm)] .null := V30
  refine own_aloadN X30.here hx hby d12_183 rfl rfl ?_
  have f34 : Fld Z h30 t "com/example/boxwood/boxwood/XmlNodeTable" "attributeValues" "[[Lcom/example/boxwood/boxwood/XmlValue;" (.ref aW) := ((((F_attributeValues_t.other W12 (Or.inr (slot_ne (Or.inl (own_w hw 52 rfl)) (Or.inl (own_w hw 72 rfl)) (by decide) (t := (.array (.array (.object "com/example/boxwood/boxwood/XmlValue")))) (t' := .int) (by decide) (by decide)))).other W17 (Or.inl (own_ne_oa E_t (own_w hw 31 rfl) V_bA))).other W23 (Or.inl (own_ne_oa E_t (own_w hw 31 rfl) V_bA))).other W30 (Or.inl (own_ne_oa E_t (own_w hw 31 rfl) V_bM)))
  refine own_getF X30 hx hZ hown (host := "") (Or.inl (own_w hw 51 rfl)) Via.refl e30 f34 hby d12_184 ?_
  intro T35 X35 e35
  refine own_iload X35.here hx hby d12_187 rfl ?_
  have f36 : Arv Z h30 aW kaW (.array (.object "com/example/boxwood/boxwood/XmlValue")) (1 : Int32) [(.ref bW)] .null := ((((V_aW.other W12 (Ne.symm (own_ne_oa E_t (own_w hw 31 rfl) V_aW))).other W17 (own_ne_aa V_aW V_bA (by decide))).other W23 (own_ne_aa V_aW V_bA (by decide))).other W30 (own_ne_aa V_aW V_bM (by decide)))
  refine own_aaload X35 hx hZ e35 f36 rfl ⟨by decide, by decide⟩ (v := (.ref bW)) rfl hby d12_189 ?_
  refine own_iload X35.here hx hby d12_190 rfl ?_
  refine own_sipush X35.here hx hby d12_192 (v := (4095 : Int32)) (by decide) ?_
  refine own_iand X35.here hx hby d12_195 (v := (1 : Int32)) (by decide) ?_
  refine own_aloadN X35.here hx hby d12_196 rfl rfl ?_
  have f37 : Arv Z h30 bW kbW (.object "com/example/boxwood/boxwood/XmlValue") (4096 : Int32) [.null] .null := ((((V_bW.other W12 (Ne.symm (own_ne_oa E_t (own_w hw 31 rfl) V_bW))).other W17 (own_ne_aa V_bW V_bA (by decide))).other W23 (own_ne_aa V_bW V_bA (by decide))).other W30 (own_ne_aa V_bW V_bM (by decide)))
  have V39 : Arv Z h30 bW kbW (.object "com/example/boxwood/boxwood/XmlValue") (4096 : Int32) [.null, .null] .null := f37.pad (pad_rep [.null] .null 1)
  refine own_aastore X35 hx hZ e35 V39 rfl rfl (Or.inl rfl) ⟨by decide, by decide⟩ 1 (by decide) (Nat.le_of_ble_eq_true rfl) hby d12_197 N30 g_bW ?_
  intro T38 h38 lo38 X38 e38 N38 W38 V38 z38
  have V40 : Arv Z h38 bW kbW (.object "com/example/boxwood/boxwood/XmlValue") (4096 : Int32) [.null, .null] .null := V38
  have K41 : Keep h0 h38 [t, bA, bM, bW] := ((((((Keep.refl h0 [t, bA, bM, bW]).wr W12 (Or.inl (List.mem_of_getElem? (i := 0) rfl))).wr W17 (Or.inl (List.mem_of_getElem? (i := 1) rfl))).wr W23 (Or.inl (List.mem_of_getElem? (i := 1) rfl))).wr W30 (Or.inl (List.mem_of_getElem? (i := 2) rfl))).wr W38 (Or.inl (List.mem_of_getElem? (i := 3) rfl)))
  have f42 : Exa Z h38 t "com/example/boxwood/boxwood/XmlNodeTable" := (((((E_t.wr W12).wr W17).wr W23).wr W30).wr W38)
  have f43 : Fld Z h38 t "com/example/boxwood/boxwood/XmlNodeTable" "attributeCount" "I" (.int 2) := ((((F12.other W17 (Or.inl (own_ne_oa E_t (own_w hw 31 rfl) V_bA))).other W23 (Or.inl (own_ne_oa E_t (own_w hw 31 rfl) V_bA))).other W30 (Or.inl (own_ne_oa E_t (own_w hw 31 rfl) V_bM))).other W38 (Or.inl (own_ne_oa E_t (own_w hw 31 rfl) V_bW)))
  have f44 : Fld Z h38 t "com/example/boxwood/boxwood/XmlNodeTable" "attributeNumbers" "[[I" (.ref aA) := (((f20.other W23 (Or.inl (own_ne_oa E_t (own_w hw 31 rfl) V_bA))).other W30 (Or.inl (own_ne_oa E_t (own_w hw 31 rfl) V_bM))).other W38 (Or.inl (own_ne_oa E_t (own_w hw 31 rfl) V_bW)))
  have f45 : Arv Z h38 aA kaA (.array .int) (1 : Int32) [(.ref bA)] .null := (((f22.other W23 (own_ne_aa V_aA V_bA (by decide))).other W30 (own_ne_aa V_aA V_bM (by decide))).other W38 (own_ne_aa V_aA V_bW (by decide)))
  have f46 : Arv Z h38 bA kbA .int (8192 : Int32) [(.int x0), (.int x1), (.int p1), (.int p2)] (.int 0) := ((V25.other W30 (own_ne_aa V_bA V_bM (by decide))).other W38 (own_ne_aa V_bA V_bW (by decide)))
  have f47 : Fld Z h38 t "com/example/boxwood/boxwood/XmlNodeTable" "attributeNames" "[[Ljava/lang/String;" (.ref aM) := ((f26.other W30 (Or.inl (own_ne_oa E_t (own_w hw 31 rfl) V_bM))).other W38 (Or.inl (own_ne_oa E_t (own_w hw 31 rfl) V_bW)))
  have f48 : Arv Z h38 aM kaM (.array (.object "java/lang/String")) (1 : Int32) [(.ref bM)] .null := ((f28.other W30 (own_ne_aa V_aM V_bM (by decide))).other W38 (own_ne_aa V_aM V_bW (by decide)))
  have f49 : Arv Z h38 bM kbM (.object "java/lang/String") (4096 : Int32) [(.ref s0), (.ref nm)] .null := (V33.other W38 (own_ne_aa V_bM V_bW (by decide)))
  have f50 : Fld Z h38 t "com/example/boxwood/boxwood/XmlNodeTable" "attributeValues" "[[Lcom/example/boxwood/boxwood/XmlValue;" (.ref aW) := (f34.other W38 (Or.inl (own_ne_oa E_t (own_w hw 31 rfl) V_bW)))
  have f51 : Arv Z h38 aW kaW (.array (.object "com/example/boxwood/boxwood/XmlValue")) (1 : Int32) [(.ref bW)] .null := (f36.other W38 (own_ne_aa V_aW V_bW (by decide)))
  obtain ⟨fs, hr, hrun, hended, hW, hsame⟩ := X38.leave (v := none) (fun _ => rfl)
  refine own_ret (t := T38.setFrames fs) ?_ ⟨_, hrun, hended, _, _, rfl, ?_, ⟨_, rfl⟩, hW, hsame.mono (by decide) (by decide)⟩
  · exact X38.returnOut hx Bd.returns (hb hby d12_198) hr
  · show Q_at4_1_s Z t nm p1 p2 aA kaA bA kbA aM kaM bM kbM aW kaW bW kbW x0 x1 s0 h0 n0 _ T38.heap _
    rw [e38]
    exact ⟨rfl, N38, K41, f42, f43, f44, f45, f46, f47, f48, f49, f50, f51, V40⟩
theorem ef_at2_1_s (m : MethodId) (x0 : Nat) (x1 : Nat) : entryFrame m #[(.ref x0), (.ref x1), .null] 3 = mkF m 0 #[.val (.ref x0), .val (.ref x1), .val .null] [] := by first | (simp [entryFrame, mkF, argsToLocals, Value.category]; done) | rfl
theorem pn_13 : plainName "com/example/boxwood/boxwood/XmlNodeTable" = true := by first | (simp [plainName, overriddenIn]; done) | decide +kernel
theorem d13_0 : decode prog_60_method_4_code 0 = .ok (.aload_n 0, 1) := by decide +kernel
theorem d13_1 : decode prog_60_method_4_code 1 = .ok (.aload_n 1, 1) := by decide +kernel
theorem d13_2 : decode prog_60_method_4_code 2 = .ok (.aload_n 2, 1) := by decide +kernel
theorem d13_3 : decode prog_60_method_4_code 3 = .ok (.iconst (-1), 1) := by decide +kernel
theorem d13_4 : decode prog_60_method_4_code 4 = .ok (.iconst (-1), 1) := by decide +kernel
theorem d13_5 : decode prog_60_method_4_code 5 = .ok (.invokevirtual 45, 3) := by decide +kernel
theorem d13_8 : decode prog_60_method_4_code 8 = .ok (.return_, 1) := by decide +kernel
def Q_at2_1_s (Z : State) (t : Nat) (nm : Nat) (aA : Nat) (kaA : ClassId) (bA : Nat) (kbA : ClassId) (aM : Nat) (kaM : ClassId) (bM : Nat) (kbM : ClassId) (aW : Nat) (kaW : ClassId) (bW : Nat) (kbW : ClassId) (x0 : Int32) (x1 : Int32) (s0 : Nat) (h0 : Heap) (n0 : Nat) (vR : Option Value) (hR : Heap) (LR : List Loc) : Prop := vR = none ∧ Fr n0 LR ∧ Keep h0 hR [t, bA, bM, bW] ∧ (Exa Z hR t "com/example/boxwood/boxwood/XmlNodeTable") ∧ (Fld Z hR t "com/example/boxwood/boxwood/XmlNodeTable" "attributeCount" "I" (.int 2)) ∧ (Fld Z hR t "com/example/boxwood/boxwood/XmlNodeTable" "attributeNumbers" "[[I" (.ref aA)) ∧ (Arv Z hR aA kaA (.array .int) (1 : Int32) [(.ref bA)] .null) ∧ (Arv Z hR bA kbA .int (8192 : Int32) [(.int x0), (.int x1), (.int (-1)), (.int (-1))] (.int 0)) ∧ (Fld Z hR t "com/example/boxwood/boxwood/XmlNodeTable" "attributeNames" "[[Ljava/lang/String;" (.ref aM)) ∧ (Arv Z hR aM kaM (.array (.object "java/lang/String")) (1 : Int32) [(.ref bM)] .null) ∧ (Arv Z hR bM kbM (.object "java/lang/String") (4096 : Int32) [(.ref s0), (.ref nm)] .null) ∧ (Fld Z hR t "com/example/boxwood/boxwood/XmlNodeTable" "attributeValues" "[[Lcom/example/boxwood/boxwood/XmlValue;" (.ref aW)) ∧ (Arv Z hR aW kaW (.array (.object "com/example/boxwood/boxwood/XmlValue")) (1 : Int32) [(.ref bW)] .null) ∧ (Arv Z hR bW kbW (.object "com/example/boxwood/boxwood/XmlValue") (4096 : Int32) [.null, .null] .null)
set_option maxRecDepth 65536 in
set_option maxHeartbeats 40000000 in
theorem at2_1_s (l : Launch) (Z : State) (a0 : Array Value) (hw : ∀ d ∈ tables_1, d.before a0 Z = true) (ws : List Jvm.Cond) (t : Nat) (nm : Nat) (aA : Nat) (kaA : ClassId) (bA : Nat) (kbA : ClassId) (aM : Nat) (kaM : ClassId) (bM : Nat) (kbM : ClassId) (aW : Nat) (kaW : ClassId) (bW : Nat) (kbW : ClassId) (x0 : Int32) (x1 : Int32) (s0 : Nat) (h0 : Heap) (n0 : Nat) (Z0 : n0 ≤ h0.size) (E_t : Exa Z h0 t "com/example/boxwood/boxwood/XmlNodeTable") (F_attributeCount_t : Fld Z h0 t "com/example/boxwood/boxwood/XmlNodeTable" "attributeCount" "I" (.int 1)) (g_t : n0 ≤ t) (E_nm : Exa Z h0 nm "java/lang/String") (F_attributeNumbers_t : Fld Z h0 t "com/example/boxwood/boxwood/XmlNodeTable" "attributeNumbers" "[[I" (.ref aA)) (V_aA : Arv Z h0 aA kaA (.array .int) (1 : Int32) [(.ref bA)] .null) (V_bA : Arv Z h0 bA kbA .int (8192 : Int32) [(.int x0), (.int x1)] (.int 0)) (g_bA : n0 ≤ bA) (F_attributeNames_t : Fld Z h0 t "com/example/boxwood/boxwood/XmlNodeTable" "attributeNames" "[[Ljava/lang/String;" (.ref aM)) (V_aM : Arv Z h0 aM kaM (.array (.object "java/lang/String")) (1 : Int32) [(.ref bM)] .null) (V_bM : Arv Z h0 bM kbM (.object "java/lang/String") (4096 : Int32) [(.ref s0)] .null) (g_bM : n0 ≤ bM) (O_bM : Ovr Z kbM "java/lang/String") (F_attributeValues_t : Fld Z h0 t "com/example/boxwood/boxwood/XmlNodeTable" "attributeValues" "[[Lcom/example/boxwood/boxwood/XmlValue;" (.ref aW)) (V_aW : Arv Z h0 aW kaW (.array (.object "com/example/boxwood/boxwood/XmlValue")) (1 : Int32) [(.ref bW)] .null) (V_bW : Arv Z h0 bW kbW (.object "com/example/boxwood/boxwood/XmlValue") (4096 : Int32) [.null] .null) (g_bW : n0 ≤ bW) (O_bW : Ovr Z kbW "com/example/boxwood/boxwood/XmlValue") :
    own_M l (⟨"com/example/boxwood/boxwood/XmlNodeTable", "addAttribute", "(Ljava/lang/String;Lcom/example/boxwood/boxwood/XmlValue;)V"⟩ : MethodName) prog_60_method_4_code 3 none ws ({ frames := 1, cells := 0, slots := 0, locals := 19 } : Room) Z #[(.ref t), (.ref nm), .null] h0 (Q_at2_1_s Z t nm aA kaA bA kbA aM kaM bM kbM aW kaW bW kbW x0 x1 s0 h0 n0) := by
  refine own_body (own := "com/example/boxwood/boxwood/XmlNodeTable") rfl (plainFor_of_name pn_13) (fun m => ef_at2_1_s m t nm) ?_
  intro p e s m below meth c s₁ Bd hml hZ hh hx hby hown X0 e0
  have N0 := Fr.nil n0
  have lt2 : h0.size > t := E_t.lt
  have lt3 : h0.size > nm := E_nm.lt
  have lt4 : h0.size > aA := V_aA.lt
  have lt5 : h0.size > bA := V_bA.lt
  have lt6 : h0.size > aM := V_aM.lt
  have lt7 : h0.size > bM := V_bM.lt
  have lt8 : h0.size > aW := V_aW.lt
  have lt9 : h0.size > bW := V_bW.lt
  refine own_aloadN X0.here hx hby d13_0 rfl rfl ?_
  refine own_aloadN X0.here hx hby d13_1 rfl rfl ?_
  refine own_aloadN X0.here hx hby d13_2 rfl rfl ?_
  refine own_iconst X0.here hx hby d13_3 (v := (-1 : Int32)) (by decide) ?_
  refine own_iconst X0.here hx hby d13_4 (v := (-1 : Int32)) (by decide) ?_
  refine own_private X0 hx hZ hown (own_w hw 82 rfl) (own_w hw 83 rfl) (own_w hw 31 rfl) (own_w hw 84 rfl) (own_w hw 32 rfl) (own_w hw 85 rfl) (by decide) (at4_1_s l Z a0 hw [] t nm (-1 : Int32) (-1 : Int32) aA kaA bA kbA aM kaM bM kbM aW kaW bW kbW x0 x1 s0 h0 n0 Z0 E_t F_attributeCount_t g_t E_nm F_attributeNumbers_t V_aA V_bA g_bA F_attributeNames_t V_aM V_bM g_bM O_bM F_attributeValues_t V_aW V_bW g_bW O_bW) 0 (Nat.le_of_eq rfl) (by decide) (by decide) (by rw [hml]; rfl) (argsL := [(.ref nm), .null, (.int (-1)), (.int (-1))]) (st := []) E_t (lenOf pd_5 rfl) rfl rfl (by decide) (by decide) e0 hby d13_5 ?_
  intro T10 v10 L10 X10 hQ10
  obtain ⟨rfl, Nq10, K10, P10_0, P10_1, P10_2, P10_3, P10_4, P10_5, P10_6, P10_7, P10_8, P10_9, P10_10⟩ := hQ10
  have N10 := Fr.app N0 Nq10
  have z11 : h0.size ≤ T10.heap.size := K10.1
  have lt12 : T10.heap.size > t := P10_0.lt
  have lt13 : T10.heap.size > aA := P10_3.lt
  have lt14 : T10.heap.size > bA := P10_4.lt
  have lt15 : T10.heap.size > aM := P10_6.lt
  have lt16 : T10.heap.size > bM := P10_7.lt
  have lt17 : T10.heap.size > aW := P10_9.lt
  have lt18 : T10.heap.size > bW := P10_10.lt
  refine own_sh (T := T10) 8 #[.val (.ref t), .val (.ref nm), .val .null] [] ?_
  have K19 : Keep h0 T10.heap [t, bA, bM, bW] := ((Keep.refl h0 [t, bA, bM, bW]).trans K10 (allS (P := fun xq_ => xq_ ∈ [t, bA, bM, bW] ∨ h0.size ≤ xq_) (Or.inl (List.mem_of_getElem? (i := 0) rfl)) (allS (P := fun xq_ => xq_ ∈ [t, bA, bM, bW] ∨ h0.size ≤ xq_) (Or.inl (List.mem_of_getElem? (i := 1) rfl)) (allS (P := fun xq_ => xq_ ∈ [t, bA, bM, bW] ∨ h0.size ≤ xq_) (Or.inl (List.mem_of_getElem? (i := 2) rfl)) (allS (P := fun xq_ => xq_ ∈ [t, bA, bM, bW] ∨ h0.size ≤ xq_) (Or.inl (List.mem_of_getElem? (i := 3) rfl)) all0)))))
  obtain ⟨fs, hr, hrun, hended, hW, hsame⟩ := X10.leave (v := none) (fun _ => rfl)
  refine own_ret (t := T10.setFrames fs) ?_ ⟨_, hrun, hended, _, _, rfl, ?_, ⟨_, rfl⟩, hW, hsame.mono (by decide) (by decide)⟩
  · exact X10.returnOut hx Bd.returns (hb hby d13_8) hr
  · show Q_at2_1_s Z t nm aA kaA bA kbA aM kaM bM kbM aW kaW bW kbW x0 x1 s0 h0 n0 _ T10.heap _
    exact ⟨rfl, N10, K19, P10_0, P10_1, P10_2, P10_3, P10_4, P10_5, P10_6, P10_7, P10_8, P10_9, P10_10⟩
theorem ef_at4_1n_s (m : MethodId) (x0 : Nat) (x3 : Int32) (x4 : Int32) : entryFrame m #[(.ref x0), .null, .null, (.int x3), (.int x4)] 8 = mkF m 0 #[.val (.ref x0), .val .null, .val .null, .val (.int x3), .val (.int x4), .unset, .unset, .unset] [] := by first | (simp [entryFrame, mkF, argsToLocals, Value.category]; done) | rfl
def Q_at4_1n_s (Z : State) (t : Nat) (p1 : Int32) (p2 : Int32) (aA : Nat) (kaA : ClassId) (bA : Nat) (kbA : ClassId) (aM : Nat) (kaM : ClassId) (bM : Nat) (kbM : ClassId) (aW : Nat) (kaW : ClassId) (bW : Nat) (kbW : ClassId) (x0 : Int32) (x1 : Int32) (s0 : Nat) (h0 : Heap) (n0 : Nat) (vR : Option Value) (hR : Heap) (LR : List Loc) : Prop := vR = none ∧ Fr n0 LR ∧ Keep h0 hR [t, bA, bM, bW] ∧ (Exa Z hR t "com/example/boxwood/boxwood/XmlNodeTable") ∧ (Fld Z hR t "com/example/boxwood/boxwood/XmlNodeTable" "attributeCount" "I" (.int 2)) ∧ (Fld Z hR t "com/example/boxwood/boxwood/XmlNodeTable" "attributeNumbers" "[[I" (.ref aA)) ∧ (Arv Z hR aA kaA (.array .int) (1 : Int32) [(.ref bA)] .null) ∧ (Arv Z hR bA kbA .int (8192 : Int32) [(.int x0), (.int x1), (.int p1), (.int p2)] (.int 0)) ∧ (Fld Z hR t "com/example/boxwood/boxwood/XmlNodeTable" "attributeNames" "[[Ljava/lang/String;" (.ref aM)) ∧ (Arv Z hR aM kaM (.array (.object "java/lang/String")) (1 : Int32) [(.ref bM)] .null) ∧ (Arv Z hR bM kbM (.object "java/lang/String") (4096 : Int32) [(.ref s0), .null] .null) ∧ (Fld Z hR t "com/example/boxwood/boxwood/XmlNodeTable" "attributeValues" "[[Lcom/example/boxwood/boxwood/XmlValue;" (.ref aW)) ∧ (Arv Z hR aW kaW (.array (.object "com/example/boxwood/boxwood/XmlValue")) (1 : Int32) [(.ref bW)] .null) ∧ (Arv Z hR bW kbW (.object "com/example/boxwood/boxwood/XmlValue") (4096 : Int32) [.null, .null] .null)
set_option maxRecDepth 65536 in
set_option maxHeartbeats 40000000 in
theorem at4_1n_s (l : Launch) (Z : State) (a0 : Array Value) (hw : ∀ d ∈ tables_1, d.before a0 Z = true) (ws : List Jvm.Cond) (t : Nat) (p1 : Int32) (p2 : Int32) (aA : Nat) (kaA : ClassId) (bA : Nat) (kbA : ClassId) (aM : Nat) (kaM : ClassId) (bM : Nat) (kbM : ClassId) (aW : Nat) (kaW : ClassId) (bW : Nat) (kbW : ClassId) (x0 : Int32) (x1 : Int32) (s0 : Nat) (h0 : Heap) (n0 : Nat) (Z0 : n0 ≤ h0.size) (E_t : Exa Z h0 t "com/example/boxwood/boxwood/XmlNodeTable") (F_attributeCount_t : Fld Z h0 t "com/example/boxwood/boxwood/XmlNodeTable" "attributeCount" "I" (.int 1)) (g_t : n0 ≤ t) (F_attributeNumbers_t : Fld Z h0 t "com/example/boxwood/boxwood/XmlNodeTable" "attributeNumbers" "[[I" (.ref aA)) (V_aA : Arv Z h0 aA kaA (.array .int) (1 : Int32) [(.ref bA)] .null) (V_bA : Arv Z h0 bA kbA .int (8192 : Int32) [(.int x0), (.int x1)] (.int 0)) (g_bA : n0 ≤ bA) (F_attributeNames_t : Fld Z h0 t "com/example/boxwood/boxwood/XmlNodeTable" "attributeNames" "[[Ljava/lang/String;" (.ref aM)) (V_aM : Arv Z h0 aM kaM (.array (.object "java/lang/String")) (1 : Int32) [(.ref bM)] .null) (V_bM : Arv Z h0 bM kbM (.object "java/lang/String") (4096 : Int32) [(.ref s0)] .null) (g_bM : n0 ≤ bM) (O_bM : Ovr Z kbM "java/lang/String") (F_attributeValues_t : Fld Z h0 t "com/example/boxwood/boxwood/XmlNodeTable" "attributeValues" "[[Lcom/example/boxwood/boxwood/XmlValue;" (.ref aW)) (V_aW : Arv Z h0 aW kaW (.array (.object "com/example/boxwood/boxwood/XmlValue")) (1 : Int32) [(.ref bW)] .null) (V_bW : Arv Z h0 bW kbW (.object "com/example/boxwood/boxwood/XmlValue") (4096 : Int32) [.null] .null) (g_bW : n0 ≤ bW) (O_bW : Ovr Z kbW "com/example/boxwood/boxwood/XmlValue") :
    own_M l (⟨"com/example/boxwood/boxwood/XmlNodeTable", "addAttribute", "(Ljava/lang/String;Lcom/example/boxwood/boxwood/XmlValue;II)V"⟩ : MethodName) prog_60_method_25_code 8 none ws ({ frames := 0, cells := 0, slots := 0, locals := 0 } : Room) Z #[(.ref t), .null, .null, (.int p1), (.int p2)] h0 (Q_at4_1n_s Z t p1 p2 aA kaA bA kbA aM kaM bM kbM aW kaW bW kbW x0 x1 s0 h0 n0) := by
  refine own_body (own := "com/example/boxwood/boxwood/XmlNodeTable") rfl (plainFor_of_name pn_12) (fun m => ef_at4_1n_s m t p1 p2) ?_
  intro p e s m below meth c s₁ Bd hml hZ hh hx hby hown X0 e0
  have N0 := Fr.nil n0
  have lt3 : h0.size > t := E_t.lt
  have lt4 : h0.size > aA := V_aA.lt
  have lt5 : h0.size > bA := V_bA.lt
  have lt6 : h0.size > aM := V_aM.lt
  have lt7 : h0.size > bM := V_bM.lt
  have lt8 : h0.size > aW := V_aW.lt
  have lt9 : h0.size > bW := V_bW.lt
  refine own_aloadN X0.here hx hby d12_0 rfl rfl ?_
  refine own_dup X0.here hx hby d12_1 rfl ?_
  refine own_getF X0 hx hZ hown (host := "") (Or.inl (own_w hw 71 rfl)) Via.refl e0 F_attributeCount_t hby d12_2 ?_
  intro T10 X10 e10
  refine own_dupX1 X10.here hx hby d12_5 rfl rfl ?_
  refine own_iconst X10.here hx hby d12_6 (v := (1 : Int32)) (by decide) ?_
  refine own_iadd X10.here hx hby d12_7 (v := (2 : Int32)) (by decide) ?_
  refine own_putF X10 hx hZ (ty := .int) hown (host := "") (Or.inl (own_w hw 71 rfl)) Via.refl e10 F_attributeCount_t E_t (Or.inl (own_w hw 72 rfl)) (own_w hw 31 rfl) (by decide) rfl rfl hby d12_8 N0 g_t ?_
  intro T11 h11 lo11 X11 e11 N11 W11 F11 z11
  refine own_istore X11.here hx hby d12_11 (l' := #[.val (.ref t), .val .null, .val .null, .val (.int p1), .val (.int p2), .val (.int 1), .unset, .unset]) rfl ?_
  refine own_iload X11.here hx hby d12_13 rfl ?_
  refine own_bipush X11.here hx hby d12_15 (v := (12 : Int32)) (by decide) ?_
  refine own_iushr X11.here hx hby d12_17 (v := (0 : Int32)) (by decide) ?_
  refine own_istore X11.here hx hby d12_18 (l' := #[.val (.ref t), .val .null, .val .null, .val (.int p1), .val (.int p2), .val (.int 1), .val (.int 0), .unset]) rfl ?_
  refine own_iload X11.here hx hby d12_20 rfl ?_
  refine own_sipush X11.here hx hby d12_22 (v := (4095 : Int32)) (by decide) ?_
  refine own_iand X11.here hx hby d12_25 (v := (1 : Int32)) (by decide) ?_
  refine own_ifYes X11.here hx hby (pc' := 131) d12_26 ((if0 _ _).trans (feq (show ¬ ((1 : Int32) = (0 : Int32)) from (by decide))).2) (by decide) (by decide) ?_
  refine own_iload X11.here hx hby d12_131 rfl ?_
  refine own_sipush X11.here hx hby d12_133 (v := (4095 : Int32)) (by decide) ?_
  refine own_iand X11.here hx hby d12_136 (v := (1 : Int32)) (by decide) ?_
  refine own_iconst X11.here hx hby d12_137 (v := (2 : Int32)) (by decide) ?_
  refine own_imul X11.here hx hby d12_138 (v := (2 : Int32)) (by decide) ?_
  refine own_istore X11.here hx hby d12_139 (l' := #[.val (.ref t), .val .null, .val .null, .val (.int p1), .val (.int p2), .val (.int 1), .val (.int 0), .val (.int 2)]) rfl ?_
  refine own_aloadN X11.here hx hby d12_141 rfl rfl ?_
  have f12 : Fld Z h11 t "com/example/boxwood/boxwood/XmlNodeTable" "attributeNumbers" "[[I" (.ref aA) := (F_attributeNumbers_t.other W11 (Or.inr (slot_ne (Or.inl (own_w hw 46 rfl)) (Or.inl (own_w hw 72 rfl)) (by decide) (t := (.array (.array .int))) (t' := .int) (by decide) (by decide))))
  refine own_getF X11 hx hZ hown (host := "") (Or.inl (own_w hw 45 rfl)) Via.refl e11 f12 hby d12_142 ?_
  intro T13 X13 e13
  refine own_iload X13.here hx hby d12_145 rfl ?_
  have f14 : Arv Z h11 aA kaA (.array .int) (1 : Int32) [(.ref bA)] .null := (V_aA.other W11 (Ne.symm (own_ne_oa E_t (own_w hw 31 rfl) V_aA)))
  refine own_aaload X13 hx hZ e13 f14 rfl ⟨by decide, by decide⟩ (v := (.ref bA)) rfl hby d12_147 ?_
  refine own_iload X13.here hx hby d12_148 rfl ?_
  refine own_iconst X13.here hx hby d12_150 (v := (0 : Int32)) (by decide) ?_
  refine own_iadd X13.here hx hby d12_151 (v := (2 : Int32)) (by decide) ?_
  refine own_iloadN X13.here hx hby d12_152 rfl ?_
  have f15 : Arv Z h11 bA kbA .int (8192 : Int32) [(.int x0), (.int x1)] (.int 0) := (V_bA.other W11 (Ne.symm (own_ne_oa E_t (own_w hw 31 rfl) V_bA)))
  have V17 : Arv Z h11 bA kbA .int (8192 : Int32) [(.int x0), (.int x1), (.int 0)] (.int 0) := f15.pad (pad_rep [(.int x0), (.int x1)] (.int 0) 1)
  refine own_iastore X13 hx hZ e13 V17 ⟨by decide, by decide⟩ 2 (by decide) (Nat.le_of_ble_eq_true rfl) rfl hby d12_153 N11 g_bA ?_
  intro T16 h16 lo16 X16 e16 N16 W16 V16 z16
  have V18 : Arv Z h16 bA kbA .int (8192 : Int32) [(.int x0), (.int x1), (.int p1)] (.int 0) := V16
  refine own_aloadN X16.here hx hby d12_154 rfl rfl ?_
  have f19 : Fld Z h16 t "com/example/boxwood/boxwood/XmlNodeTable" "attributeNumbers" "[[I" (.ref aA) := (f12.other W16 (Or.inl (own_ne_oa E_t (own_w hw 31 rfl) V_bA)))
  refine own_getF X16 hx hZ hown (host := "") (Or.inl (own_w hw 45 rfl)) Via.refl e16 f19 hby d12_155 ?_
  intro T20 X20 e20
  refine own_iload X20.here hx hby d12_158 rfl ?_
  have f21 : Arv Z h16 aA kaA (.array .int) (1 : Int32) [(.ref bA)] .null := (f14.other W16 (own_ne_aa V_aA V_bA (by decide)))
  refine own_aaload X20 hx hZ e20 f21 rfl ⟨by decide, by decide⟩ (v := (.ref bA)) rfl hby d12_160 ?_
  refine own_iload X20.here hx hby d12_161 rfl ?_
  refine own_iconst X20.here hx hby d12_163 (v := (1 : Int32)) (by decide) ?_
  refine own_iadd X20.here hx hby d12_164 (v := (3 : Int32)) (by decide) ?_
  refine own_iload X20.here hx hby d12_165 rfl ?_
  have V23 : Arv Z h16 bA kbA .int (8192 : Int32) [(.int x0), (.int x1), (.int p1), (.int 0)] (.int 0) := V18.pad (pad_rep [(.int x0), (.int x1), (.int p1)] (.int 0) 1)
  refine own_iastore X20 hx hZ e20 V23 ⟨by decide, by decide⟩ 3 (by decide) (Nat.le_of_ble_eq_true rfl) rfl hby d12_167 N16 g_bA ?_
  intro T22 h22 lo22 X22 e22 N22 W22 V22 z22
  have V24 : Arv Z h22 bA kbA .int (8192 : Int32) [(.int x0), (.int x1), (.int p1), (.int p2)] (.int 0) := V22
  refine own_aloadN X22.here hx hby d12_168 rfl rfl ?_
  have f25 : Fld Z h22 t "com/example/boxwood/boxwood/XmlNodeTable" "attributeNames" "[[Ljava/lang/String;" (.ref aM) := (((F_attributeNames_t.other W11 (Or.inr (slot_ne (Or.inl (own_w hw 48 rfl)) (Or.inl (own_w hw 72 rfl)) (by decide) (t := (.array (.array (.object "java/lang/String")))) (t' := .int) (by decide) (by decide)))).other W16 (Or.inl (own_ne_oa E_t (own_w hw 31 rfl) V_bA))).other W22 (Or.inl (own_ne_oa E_t (own_w hw 31 rfl) V_bA)))
  refine own_getF X22 hx hZ hown (host := "") (Or.inl (own_w hw 47 rfl)) Via.refl e22 f25 hby d12_169 ?_
  intro T26 X26 e26
  refine own_iload X26.here hx hby d12_172 rfl ?_
  have f27 : Arv Z h22 aM kaM (.array (.object "java/lang/String")) (1 : Int32) [(.ref bM)] .null := (((V_aM.other W11 (Ne.symm (own_ne_oa E_t (own_w hw 31 rfl) V_aM))).other W16 (own_ne_aa V_aM V_bA (by decide))).other W22 (own_ne_aa V_aM V_bA (by decide)))
  refine own_aaload X26 hx hZ e26 f27 rfl ⟨by decide, by decide⟩ (v := (.ref bM)) rfl hby d12_174 ?_
  refine own_iload X26.here hx hby d12_175 rfl ?_
  refine own_sipush X26.here hx hby d12_177 (v := (4095 : Int32)) (by decide) ?_
  refine own_iand X26.here hx hby d12_180 (v := (1 : Int32)) (by decide) ?_
  refine own_aloadN X26.here hx hby d12_181 rfl rfl ?_
  have f28 : Arv Z h22 bM kbM (.object "java/lang/String") (4096 : Int32) [(.ref s0)] .null := (((V_bM.other W11 (Ne.symm (own_ne_oa E_t (own_w hw 31 rfl) V_bM))).other W16 (own_ne_aa V_bM V_bA (by decide))).other W22 (own_ne_aa V_bM V_bA (by decide)))
  have V30 : Arv Z h22 bM kbM (.object "java/lang/String") (4096 : Int32) [(.ref s0), .null] .null := f28.pad (pad_rep [(.ref s0)] .null 1)
  refine own_aastore X26 hx hZ e26 V30 rfl rfl (Or.inl rfl) ⟨by decide, by decide⟩ 1 (by decide) (Nat.le_of_ble_eq_true rfl) hby d12_182 N22 g_bM ?_
  intro T29 h29 lo29 X29 e29 N29 W29 V29 z29
  have V31 : Arv Z h29 bM kbM (.object "java/lang/String") (4096 : Int32) [(.ref s0), .null] .null := V29
  refine own_aloadN X29.here hx hby d12_183 rfl rfl ?_
  have f32 : Fld Z h29 t "com/example/boxwood/boxwood/XmlNodeTable" "attributeValues" "[[Lcom/example/boxwood/boxwood/XmlValue;" (.ref aW) := ((((F_attributeValues_t.other W11 (Or.inr (slot_ne (Or.inl (own_w hw 52 rfl)) (Or.inl (own_w hw 72 rfl)) (by decide) (t := (.array (.array (.object "com/example/boxwood/boxwood/XmlValue")))) (t' := .int) (by decide) (by decide)))).other W16 (Or.inl (own_ne_oa E_t (own_w hw 31 rfl) V_bA))).other W22 (Or.inl (own_ne_oa E_t (own_w hw 31 rfl) V_bA))).other W29 (Or.inl (own_ne_oa E_t (own_w hw 31 rfl) V_bM)))
  refine own_getF X29 hx hZ hown (host := "") (Or.inl (own_w hw 51 rfl)) Via.refl e29 f32 hby d12_184 ?_
  intro T33 X33 e33
  refine own_iload X33.here hx hby d12_187 rfl ?_
  have f34 : Arv Z h29 aW kaW (.array (.object "com/example/boxwood/boxwood/XmlValue")) (1 : Int32) [(.ref bW)] .null := ((((V_aW.other W11 (Ne.symm (own_ne_oa E_t (own_w hw 31 rfl) V_aW))).other W16 (own_ne_aa V_aW V_bA (by decide))).other W22 (own_ne_aa V_aW V_bA (by decide))).other W29 (own_ne_aa V_aW V_bM (by decide)))
  refine own_aaload X33 hx hZ e33 f34 rfl ⟨by decide, by decide⟩ (v := (.ref bW)) rfl hby d12_189 ?_
  refine own_iload X33.here hx hby d12_190 rfl ?_
  refine own_sipush X33.here hx hby d12_192 (v := (4095 : Int32)) (by decide) ?_
  refine own_iand X33.here hx hby d12_195 (v := (1 : Int32)) (by decide) ?_
  refine own_aloadN X33.here hx hby d12_196 rfl rfl ?_
  have f35 : Arv Z h29 bW kbW (.object "com/example/boxwood/boxwood/XmlValue") (4096 : Int32) [.null] .null := ((((V_bW.other W11 (Ne.symm (own_ne_oa E_t (own_w hw 31 rfl) V_bW))).other W16 (own_ne_aa V_bW V_bA (by decide))).other W22 (own_ne_aa V_bW V_bA (by decide))).other W29 (own_ne_aa V_bW V_bM (by decide)))
  have V37 : Arv Z h29 bW kbW (.object "com/example/boxwood/boxwood/XmlValue") (4096 : Int32) [.null, .null] .null := f35.pad (pad_rep [.null] .null 1)
  refine own_aastore X33 hx hZ e33 V37 rfl rfl (Or.inl rfl) ⟨by decide, by decide⟩ 1 (by decide) (Nat.le_of_ble_eq_true rfl) hby d12_197 N29 g_bW ?_
  intro T36 h36 lo36 X36 e36 N36 W36 V36 z36
  have V38 : Arv Z h36 bW kbW (.object "com/example/boxwood/boxwood/XmlValue") (4096 : Int32) [.null, .null] .null := V36
  have K39 : Keep h0 h36 [t, bA, bM, bW] := ((((((Keep.refl h0 [t, bA, bM, bW]).wr W11 (Or.inl (List.mem_of_getElem? (i := 0) rfl))).wr W16 (Or.inl (List.mem_of_getElem? (i := 1) rfl))).wr W22 (Or.inl (List.mem_of_getElem? (i := 1) rfl))).wr W29 (Or.inl (List.mem_of_getElem? (i := 2) rfl))).wr W36 (Or.inl (List.mem_of_getElem? (i := 3) rfl)))
  have f40 : Exa Z h36 t "com/example/boxwood/boxwood/XmlNodeTable" := (((((E_t.wr W11).wr W16).wr W22).wr W29).wr W36)
  have f41 : Fld Z h36 t "com/example/boxwood/boxwood/XmlNodeTable" "attributeCount" "I" (.int 2) := ((((F11.other W16 (Or.inl (own_ne_oa E_t (own_w hw 31 rfl) V_bA))).other W22 (Or.inl (own_ne_oa E_t (own_w hw 31 rfl) V_bA))).other W29 (Or.inl (own_ne_oa E_t (own_w hw 31 rfl) V_bM))).other W36 (Or.inl (own_ne_oa E_t (own_w hw 31 rfl) V_bW)))
  have f42 : Fld Z h36 t "com/example/boxwood/boxwood/XmlNodeTable" "attributeNumbers" "[[I" (.ref aA) := (((f19.other W22 (Or.inl (own_ne_oa E_t (own_w hw 31 rfl) V_bA))).other W29 (Or.inl (own_ne_oa E_t (own_w hw 31 rfl) V_bM))).other W36 (Or.inl (own_ne_oa E_t (own_w hw 31 rfl) V_bW)))
  have f43 : Arv Z h36 aA kaA (.array .int) (1 : Int32) [(.ref bA)] .null := (((f21.other W22 (own_ne_aa V_aA V_bA (by decide))).other W29 (own_ne_aa V_aA V_bM (by decide))).other W36 (own_ne_aa V_aA V_bW (by decide)))
  have f44 : Arv Z h36 bA kbA .int (8192 : Int32) [(.int x0), (.int x1), (.int p1), (.int p2)] (.int 0) := ((V24.other W29 (own_ne_aa V_bA V_bM (by decide))).other W36 (own_ne_aa V_bA V_bW (by decide)))
  have f45 : Fld Z h36 t "com/example/boxwood/boxwood/XmlNodeTable" "attributeNames" "[[Ljava/lang/String;" (.ref aM) := ((f25.other W29 (Or.inl (own_ne_oa E_t (own_w hw 31 rfl) V_bM))).other W36 (Or.inl (own_ne_oa E_t (own_w hw 31 rfl) V_bW)))
  have f46 : Arv Z h36 aM kaM (.array (.object "java/lang/String")) (1 : Int32) [(.ref bM)] .null := ((f27.other W29 (own_ne_aa V_aM V_bM (by decide))).other W36 (own_ne_aa V_aM V_bW (by decide)))
  have f47 : Arv Z h36 bM kbM (.object "java/lang/String") (4096 : Int32) [(.ref s0), .null] .null := (V31.other W36 (own_ne_aa V_bM V_bW (by decide)))
  have f48 : Fld Z h36 t "com/example/boxwood/boxwood/XmlNodeTable" "attributeValues" "[[Lcom/example/boxwood/boxwood/XmlValue;" (.ref aW) := (f32.other W36 (Or.inl (own_ne_oa E_t (own_w hw 31 rfl) V_bW)))
  have f49 : Arv Z h36 aW kaW (.array (.object "com/example/boxwood/boxwood/XmlValue")) (1 : Int32) [(.ref bW)] .null := (f34.other W36 (own_ne_aa V_aW V_bW (by decide)))
  obtain ⟨fs, hr, hrun, hended, hW, hsame⟩ := X36.leave (v := none) (fun _ => rfl)
  refine own_ret (t := T36.setFrames fs) ?_ ⟨_, hrun, hended, _, _, rfl, ?_, ⟨_, rfl⟩, hW, hsame.mono (by decide) (by decide)⟩
  · exact X36.returnOut hx Bd.returns (hb hby d12_198) hr
  · show Q_at4_1n_s Z t p1 p2 aA kaA bA kbA aM kaM bM kbM aW kaW bW kbW x0 x1 s0 h0 n0 _ T36.heap _
    rw [e36]
    exact ⟨rfl, N36, K39, f40, f41, f42, f43, f44, f45, f46, f47, f48, f49, V38⟩
theorem ef_at2_1n_s (m : MethodId) (x0 : Nat) : entryFrame m #[(.ref x0), .null, .null] 3 = mkF m 0 #[.val (.ref x0), .val .null, .val .null] [] := by first | (simp [entryFrame, mkF, argsToLocals, Value.category]; done) | rfl
def Q_at2_1n_s (Z : State) (t : Nat) (aA : Nat) (kaA : ClassId) (bA : Nat) (kbA : ClassId) (aM : Nat) (kaM : ClassId) (bM : Nat) (kbM : ClassId) (aW : Nat) (kaW : ClassId) (bW : Nat) (kbW : ClassId) (x0 : Int32) (x1 : Int32) (s0 : Nat) (h0 : Heap) (n0 : Nat) (vR : Option Value) (hR : Heap) (LR : List Loc) : Prop := vR = none ∧ Fr n0 LR ∧ Keep h0 hR [t, bA, bM, bW] ∧ (Exa Z hR t "com/example/boxwood/boxwood/XmlNodeTable") ∧ (Fld Z hR t "com/example/boxwood/boxwood/XmlNodeTable" "attributeCount" "I" (.int 2)) ∧ (Fld Z hR t "com/example/boxwood/boxwood/XmlNodeTable" "attributeNumbers" "[[I" (.ref aA)) ∧ (Arv Z hR aA kaA (.array .int) (1 : Int32) [(.ref bA)] .null) ∧ (Arv Z hR bA kbA .int (8192 : Int32) [(.int x0), (.int x1), (.int (-1)), (.int (-1))] (.int 0)) ∧ (Fld Z hR t "com/example/boxwood/boxwood/XmlNodeTable" "attributeNames" "[[Ljava/lang/String;" (.ref aM)) ∧ (Arv Z hR aM kaM (.array (.object "java/lang/String")) (1 : Int32) [(.ref bM)] .null) ∧ (Arv Z hR bM kbM (.object "java/lang/String") (4096 : Int32) [(.ref s0), .null] .null) ∧ (Fld Z hR t "com/example/boxwood/boxwood/XmlNodeTable" "attributeValues" "[[Lcom/example/boxwood/boxwood/XmlValue;" (.ref aW)) ∧ (Arv Z hR aW kaW (.array (.object "com/example/boxwood/boxwood/XmlValue")) (1 : Int32) [(.ref bW)] .null) ∧ (Arv Z hR bW kbW (.object "com/example/boxwood/boxwood/XmlValue") (4096 : Int32) [.null, .null] .null)
set_option maxRecDepth 65536 in
set_option maxHeartbeats 40000000 in
theorem at2_1n_s (l : Launch) (Z : State) (a0 : Array Value) (hw : ∀ d ∈ tables_1, d.before a0 Z = true) (ws : List Jvm.Cond) (t : Nat) (aA : Nat) (kaA : ClassId) (bA : Nat) (kbA : ClassId) (aM : Nat) (kaM : ClassId) (bM : Nat) (kbM : ClassId) (aW : Nat) (kaW : ClassId) (bW : Nat) (kbW : ClassId) (x0 : Int32) (x1 : Int32) (s0 : Nat) (h0 : Heap) (n0 : Nat) (Z0 : n0 ≤ h0.size) (E_t : Exa Z h0 t "com/example/boxwood/boxwood/XmlNodeTable") (F_attributeCount_t : Fld Z h0 t "com/example/boxwood/boxwood/XmlNodeTable" "attributeCount" "I" (.int 1)) (g_t : n0 ≤ t) (F_attributeNumbers_t : Fld Z h0 t "com/example/boxwood/boxwood/XmlNodeTable" "attributeNumbers" "[[I" (.ref aA)) (V_aA : Arv Z h0 aA kaA (.array .int) (1 : Int32) [(.ref bA)] .null) (V_bA : Arv Z h0 bA kbA .int (8192 : Int32) [(.int x0), (.int x1)] (.int 0)) (g_bA : n0 ≤ bA) (F_attributeNames_t : Fld Z h0 t "com/example/boxwood/boxwood/XmlNodeTable" "attributeNames" "[[Ljava/lang/String;" (.ref aM)) (V_aM : Arv Z h0 aM kaM (.array (.object "java/lang/String")) (1 : Int32) [(.ref bM)] .null) (V_bM : Arv Z h0 bM kbM (.object "java/lang/String") (4096 : Int32) [(.ref s0)] .null) (g_bM : n0 ≤ bM) (O_bM : Ovr Z kbM "java/lang/String") (F_attributeValues_t : Fld Z h0 t "com/example/boxwood/boxwood/XmlNodeTable" "attributeValues" "[[Lcom/example/boxwood/boxwood/XmlValue;" (.ref aW)) (V_aW : Arv Z h0 aW kaW (.array (.object "com/example/boxwood/boxwood/XmlValue")) (1 : Int32) [(.ref bW)] .null) (V_bW : Arv Z h0 bW kbW (.object "com/example/boxwood/boxwood/XmlValue") (4096 : Int32) [.null] .null) (g_bW : n0 ≤ bW) (O_bW : Ovr Z kbW "com/example/boxwood/boxwood/XmlValue") :
    own_M l (⟨"com/example/boxwood/boxwood/XmlNodeTable", "addAttribute", "(Ljava/lang/String;Lcom/example/boxwood/boxwood/XmlValue;)V"⟩ : MethodName) prog_60_method_4_code 3 none ws ({ frames := 1, cells := 0, slots := 0, locals := 19 } : Room) Z #[(.ref t), .null, .null] h0 (Q_at2_1n_s Z t aA kaA bA kbA aM kaM bM kbM aW kaW bW kbW x0 x1 s0 h0 n0) := by
  refine own_body (own := "com/example/boxwood/boxwood/XmlNodeTable") rfl (plainFor_of_name pn_13) (fun m => ef_at2_1n_s m t) ?_
  intro p e s m below meth c s₁ Bd hml hZ hh hx hby hown X0 e0
  have N0 := Fr.nil n0
  have lt2 : h0.size > t := E_t.lt
  have lt3 : h0.size > aA := V_aA.lt
  have lt4 : h0.size > bA := V_bA.lt
  have lt5 : h0.size > aM := V_aM.lt
  have lt6 : h0.size > bM := V_bM.lt
  have lt7 : h0.size > aW := V_aW.lt
  have lt8 : h0.size > bW := V_bW.lt
  refine own_aloadN X0.here hx hby d13_0 rfl rfl ?_
  refine own_aloadN X0.here hx hby d13_1 rfl rfl ?_
  refine own_aloadN X0.here hx hby d13_2 rfl rfl ?_
  refine own_iconst X0.here hx hby d13_3 (v := (-1 : Int32)) (by decide) ?_
  refine own_iconst X0.here hx hby d13_4 (v := (-1 : Int32)) (by decide) ?_
  refine own_private X0 hx hZ hown (own_w hw 82 rfl) (own_w hw 83 rfl) (own_w hw 31 rfl) (own_w hw 84 rfl) (own_w hw 32 rfl) (own_w hw 85 rfl) (by decide) (at4_1n_s l Z a0 hw [] t (-1 : Int32) (-1 : Int32) aA kaA bA kbA aM kaM bM kbM aW kaW bW kbW x0 x1 s0 h0 n0 Z0 E_t F_attributeCount_t g_t F_attributeNumbers_t V_aA V_bA g_bA F_attributeNames_t V_aM V_bM g_bM O_bM F_attributeValues_t V_aW V_bW g_bW O_bW) 0 (Nat.le_of_eq rfl) (by decide) (by decide) (by rw [hml]; rfl) (argsL := [.null, .null, (.int (-1)), (.int (-1))]) (st := []) E_t (lenOf pd_5 rfl) rfl rfl (by decide) (by decide) e0 hby d13_5 ?_
  intro T9 v9 L9 X9 hQ9
  obtain ⟨rfl, Nq9, K9, P9_0, P9_1, P9_2, P9_3, P9_4, P9_5, P9_6, P9_7, P9_8, P9_9, P9_10⟩ := hQ9
  have N9 := Fr.app N0 Nq9
  have z10 : h0.size ≤ T9.heap.size := K9.1
  have lt11 : T9.heap.size > t := P9_0.lt
  have lt12 : T9.heap.size > aA := P9_3.lt
  have lt13 : T9.heap.size > bA := P9_4.lt
  have lt14 : T9.heap.size > aM := P9_6.lt
  have lt15 : T9.heap.size > bM := P9_7.lt
  have lt16 : T9.heap.size > aW := P9_9.lt
  have lt17 : T9.heap.size > bW := P9_10.lt
  refine own_sh (T := T9) 8 #[.val (.ref t), .val .null, .val .null] [] ?_
  have K18 : Keep h0 T9.heap [t, bA, bM, bW] := ((Keep.refl h0 [t, bA, bM, bW]).trans K9 (allS (P := fun xq_ => xq_ ∈ [t, bA, bM, bW] ∨ h0.size ≤ xq_) (Or.inl (List.mem_of_getElem? (i := 0) rfl)) (allS (P := fun xq_ => xq_ ∈ [t, bA, bM, bW] ∨ h0.size ≤ xq_) (Or.inl (List.mem_of_getElem? (i := 1) rfl)) (allS (P := fun xq_ => xq_ ∈ [t, bA, bM, bW] ∨ h0.size ≤ xq_) (Or.inl (List.mem_of_getElem? (i := 2) rfl)) (allS (P := fun xq_ => xq_ ∈ [t, bA, bM, bW] ∨ h0.size ≤ xq_) (Or.inl (List.mem_of_getElem? (i := 3) rfl)) all0)))))
  obtain ⟨fs, hr, hrun, hended, hW, hsame⟩ := X9.leave (v := none) (fun _ => rfl)
  refine own_ret (t := T9.setFrames fs) ?_ ⟨_, hrun, hended, _, _, rfl, ?_, ⟨_, rfl⟩, hW, hsame.mono (by decide) (by decide)⟩
  · exact X9.returnOut hx Bd.returns (hb hby d13_8) hr
  · show Q_at2_1n_s Z t aA kaA bA kbA aM kaM bM kbM aW kaW bW kbW x0 x1 s0 h0 n0 _ T9.heap _
    exact ⟨rfl, N9, K18, P9_0, P9_1, P9_2, P9_3, P9_4, P9_5, P9_6, P9_7, P9_8, P9_9, P9_10⟩
def Q_at4_2_ss (Z : State) (t : Nat) (nm : Nat) (p1 : Int32) (p2 : Int32) (aA : Nat) (kaA : ClassId) (bA : Nat) (kbA : ClassId) (aM : Nat) (kaM : ClassId) (bM : Nat) (kbM : ClassId) (aW : Nat) (kaW : ClassId) (bW : Nat) (kbW : ClassId) (x0 : Int32) (x1 : Int32) (x2 : Int32) (x3 : Int32) (s0 : Nat) (s1 : Nat) (h0 : Heap) (n0 : Nat) (vR : Option Value) (hR : Heap) (LR : List Loc) : Prop := vR = none ∧ Fr n0 LR ∧ Keep h0 hR [t, bA, bM, bW] ∧ (Exa Z hR t "com/example/boxwood/boxwood/XmlNodeTable") ∧ (Fld Z hR t "com/example/boxwood/boxwood/XmlNodeTable" "attributeCount" "I" (.int 3)) ∧ (Fld Z hR t "com/example/boxwood/boxwood/XmlNodeTable" "attributeNumbers" "[[I" (.ref aA)) ∧ (Arv Z hR aA kaA (.array .int) (1 : Int32) [(.ref bA)] .null) ∧ (Arv Z hR bA kbA .int (8192 : Int32) [(.int x0), (.int x1), (.int x2), (.int x3), (.int p1), (.int p2)] (.int 0)) ∧ (Fld Z hR t "com/example/boxwood/boxwood/XmlNodeTable" "attributeNames" "[[Ljava/lang/String;" (.ref aM)) ∧ (Arv Z hR aM kaM (.array (.object "java/lang/String")) (1 : Int32) [(.ref bM)] .null) ∧ (Arv Z hR bM kbM (.object "java/lang/String") (4096 : Int32) [(.ref s0), (.ref s1), (.ref nm)] .null) ∧ (Fld Z hR t "com/example/boxwood/boxwood/XmlNodeTable" "attributeValues" "[[Lcom/example/boxwood/boxwood/XmlValue;" (.ref aW)) ∧ (Arv Z hR aW kaW (.array (.object "com/example/boxwood/boxwood/XmlValue")) (1 : Int32) [(.ref bW)] .null) ∧ (Arv Z hR bW kbW (.object "com/example/boxwood/boxwood/XmlValue") (4096 : Int32) [.null, .null, .null] .null)
set_option maxRecDepth 65536 in
set_option maxHeartbeats 40000000 in
theorem at4_2_ss (l : Launch) (Z : State) (a0 : Array Value) (hw : ∀ d ∈ tables_1, d.before a0 Z = true) (ws : List Jvm.Cond) (t : Nat) (nm : Nat) (p1 : Int32) (p2 : Int32) (aA : Nat) (kaA : ClassId) (bA : Nat) (kbA : ClassId) (aM : Nat) (kaM : ClassId) (bM : Nat) (kbM : ClassId) (aW : Nat) (kaW : ClassId) (bW : Nat) (kbW : ClassId) (x0 : Int32) (x1 : Int32) (x2 : Int32) (x3 : Int32) (s0 : Nat) (s1 : Nat) (h0 : Heap) (n0 : Nat) (Z0 : n0 ≤ h0.size) (E_t : Exa Z h0 t "com/example/boxwood/boxwood/XmlNodeTable") (F_attributeCount_t : Fld Z h0 t "com/example/boxwood/boxwood/XmlNodeTable" "attributeCount" "I" (.int 2)) (g_t : n0 ≤ t) (E_nm : Exa Z h0 nm "java/lang/String") (F_attributeNumbers_t : Fld Z h0 t "com/example/boxwood/boxwood/XmlNodeTable" "attributeNumbers" "[[I" (.ref aA)) (V_aA : Arv Z h0 aA kaA (.array .int) (1 : Int32) [(.ref bA)] .null) (V_bA : Arv Z h0 bA kbA .int (8192 : Int32) [(.int x0), (.int x1), (.int x2), (.int x3)] (.int 0)) (g_bA : n0 ≤ bA) (F_attributeNames_t : Fld Z h0 t "com/example/boxwood/boxwood/XmlNodeTable" "attributeNames" "[[Ljava/lang/String;" (.ref aM)) (V_aM : Arv Z h0 aM kaM (.array (.object "java/lang/String")) (1 : Int32) [(.ref bM)] .null) (V_bM : Arv Z h0 bM kbM (.object "java/lang/String") (4096 : Int32) [(.ref s0), (.ref s1)] .null) (g_bM : n0 ≤ bM) (O_bM : Ovr Z kbM "java/lang/String") (F_attributeValues_t : Fld Z h0 t "com/example/boxwood/boxwood/XmlNodeTable" "attributeValues" "[[Lcom/example/boxwood/boxwood/XmlValue;" (.ref aW)) (V_aW : Arv Z h0 aW kaW (.array (.object "com/example/boxwood/boxwood/XmlValue")) (1 : Int32) [(.ref bW)] .null) (V_bW : Arv Z h0 bW kbW (.object "com/example/boxwood/boxwood/XmlValue") (4096 : Int32) [.null, .null] .null) (g_bW : n0 ≤ bW) (O_bW : Ovr Z kbW "com/example/boxwood/boxwood/XmlValue") :
    own_M l (⟨"com/example/boxwood/boxwood/XmlNodeTable", "addAttribute", "(Ljava/lang/String;Lcom/example/boxwood/boxwood/XmlValue;II)V"⟩ : MethodName) prog_60_method_25_code 8 none ws ({ frames := 0, cells := 0, slots := 0, locals := 0 } : Room) Z #[(.ref t), (.ref nm), .null, (.int p1), (.int p2)] h0 (Q_at4_2_ss Z t nm p1 p2 aA kaA bA kbA aM kaM bM kbM aW kaW bW kbW x0 x1 x2 x3 s0 s1 h0 n0) := by
  refine own_body (own := "com/example/boxwood/boxwood/XmlNodeTable") rfl (plainFor_of_name pn_12) (fun m => ef_at4_0_ m t nm p1 p2) ?_
  intro p e s m below meth c s₁ Bd hml hZ hh hx hby hown X0 e0
  have N0 := Fr.nil n0
  have lt4 : h0.size > t := E_t.lt
  have lt5 : h0.size > nm := E_nm.lt
  have lt6 : h0.size > aA := V_aA.lt
  have lt7 : h0.size > bA := V_bA.lt
  have lt8 : h0.size > aM := V_aM.lt
  have lt9 : h0.size > bM := V_bM.lt
  have lt10 : h0.size > aW := V_aW.lt
  have lt11 : h0.size > bW := V_bW.lt
  refine own_aloadN X0.here hx hby d12_0 rfl rfl ?_
  refine own_dup X0.here hx hby d12_1 rfl ?_
  refine own_getF X0 hx hZ hown (host := "") (Or.inl (own_w hw 71 rfl)) Via.refl e0 F_attributeCount_t hby d12_2 ?_
  intro T12 X12 e12
  refine own_dupX1 X12.here hx hby d12_5 rfl rfl ?_
  refine own_iconst X12.here hx hby d12_6 (v := (1 : Int32)) (by decide) ?_
  refine own_iadd X12.here hx hby d12_7 (v := (3 : Int32)) (by decide) ?_
  refine own_putF X12 hx hZ (ty := .int) hown (host := "") (Or.inl (own_w hw 71 rfl)) Via.refl e12 F_attributeCount_t E_t (Or.inl (own_w hw 72 rfl)) (own_w hw 31 rfl) (by decide) rfl rfl hby d12_8 N0 g_t ?_
  intro T13 h13 lo13 X13 e13 N13 W13 F13 z13
  refine own_istore X13.here hx hby d12_11 (l' := #[.val (.ref t), .val (.ref nm), .val .null, .val (.int p1), .val (.int p2), .val (.int 2), .unset, .unset]) rfl ?_
  refine own_iload X13.here hx hby d12_13 rfl ?_
  refine own_bipush X13.here hx hby d12_15 (v := (12 : Int32)) (by decide) ?_
  refine own_iushr X13.here hx hby d12_17 (v := (0 : Int32)) (by decide) ?_
  refine own_istore X13.here hx hby d12_18 (l' := #[.val (.ref t), .val (.ref nm), .val .null, .val (.int p1), .val (.int p2), .val (.int 2), .val (.int 0), .unset]) rfl ?_
  refine own_iload X13.here hx hby d12_20 rfl ?_
  refine own_sipush X13.here hx hby d12_22 (v := (4095 : Int32)) (by decide) ?_
  refine own_iand X13.here hx hby d12_25 (v := (2 : Int32)) (by decide) ?_
  refine own_ifYes X13.here hx hby (pc' := 131) d12_26 ((if0 _ _).trans (feq (show ¬ ((2 : Int32) = (0 : Int32)) from (by decide))).2) (by decide) (by decide) ?_
  refine own_iload X13.here hx hby d12_131 rfl ?_
  refine own_sipush X13.here hx hby d12_133 (v := (4095 : Int32)) (by decide) ?_
  refine own_iand X13.here hx hby d12_136 (v := (2 : Int32)) (by decide) ?_
  refine own_iconst X13.here hx hby d12_137 (v := (2 : Int32)) (by decide) ?_
  refine own_imul X13.here hx hby d12_138 (v := (4 : Int32)) (by decide) ?_
  refine own_istore X13.here hx hby d12_139 (l' := #[.val (.ref t), .val (.ref nm), .val .null, .val (.int p1), .val (.int p2), .val (.int 2), .val (.int 0), .val (.int 4)]) rfl ?_
  refine own_aloadN X13.here hx hby d12_141 rfl rfl ?_
  have f14 : Fld Z h13 t "com/example/boxwood/boxwood/XmlNodeTable" "attributeNumbers" "[[I" (.ref aA) := (F_attributeNumbers_t.other W13 (Or.inr (slot_ne (Or.inl (own_w hw 46 rfl)) (Or.inl (own_w hw 72 rfl)) (by decide) (t := (.array (.array .int))) (t' := .int) (by decide) (by decide))))
  refine own_getF X13 hx hZ hown (host := "") (Or.inl (own_w hw 45 rfl)) Via.refl e13 f14 hby d12_142 ?_
  intro T15 X15 e15
  refine own_iload X15.here hx hby d12_145 rfl ?_
  have f16 : Arv Z h13 aA kaA (.array .int) (1 : Int32) [(.ref bA)] .null := (V_aA.other W13 (Ne.symm (own_ne_oa E_t (own_w hw 31 rfl) V_aA)))
  refine own_aaload X15 hx hZ e15 f16 rfl ⟨by decide, by decide⟩ (v := (.ref bA)) rfl hby d12_147 ?_
  refine own_iload X15.here hx hby d12_148 rfl ?_
  refine own_iconst X15.here hx hby d12_150 (v := (0 : Int32)) (by decide) ?_
  refine own_iadd X15.here hx hby d12_151 (v := (4 : Int32)) (by decide) ?_
  refine own_iloadN X15.here hx hby d12_152 rfl ?_
  have f17 : Arv Z h13 bA kbA .int (8192 : Int32) [(.int x0), (.int x1), (.int x2), (.int x3)] (.int 0) := (V_bA.other W13 (Ne.symm (own_ne_oa E_t (own_w hw 31 rfl) V_bA)))
  have V19 : Arv Z h13 bA kbA .int (8192 : Int32) [(.int x0), (.int x1), (.int x2), (.int x3), (.int 0)] (.int 0) := f17.pad (pad_rep [(.int x0), (.int x1), (.int x2), (.int x3)] (.int 0) 1)
  refine own_iastore X15 hx hZ e15 V19 ⟨by decide, by decide⟩ 4 (by decide) (Nat.le_of_ble_eq_true rfl) rfl hby d12_153 N13 g_bA ?_
  intro T18 h18 lo18 X18 e18 N18 W18 V18 z18
  have V20 : Arv Z h18 bA kbA .int (8192 : Int32) [(.int x0), (.int x1), (.int x2), (.int x3), (.int p1)] (.int 0) := V18
  refine own_aloadN X18.here hx hby d12_154 rfl rfl ?_
  have f21 : Fld Z h18 t "com/example/boxwood/boxwood/XmlNodeTable" "attributeNumbers" "[[I" (.ref aA) := (f14.other W18 (Or.inl (own_ne_oa E_t (own_w hw 31 rfl) V_bA)))
  refine own_getF X18 hx hZ hown (host := "") (Or.inl (own_w hw 45 rfl)) Via.refl e18 f21 hby d12_155 ?_
  intro T22 X22 e22
  refine own_iload X22.here hx hby d12_158 rfl ?_
  have f23 : Arv Z h18 aA kaA (.array .int) (1 : Int32) [(.ref bA)] .null := (f16.other W18 (own_ne_aa V_aA V_bA (by decide)))
  refine own_aaload X22 hx hZ e22 f23 rfl ⟨by decide, by decide⟩ (v := (.ref bA)) rfl hby d12_160 ?_
  refine own_iload X22.here hx hby d12_161 rfl ?_
  refine own_iconst X22.here hx hby d12_163 (v := (1 : Int32)) (by decide) ?_
  refine own_iadd X22.here hx hby d12_164 (v := (5 : Int32)) (by decide) ?_
  refine own_iload X22.here hx hby d12_165 rfl ?_
  have V25 : Arv Z h18 bA kbA .int (8192 : Int32) [(.int x0), (.int x1), (.int x2), (.int x3), (.int p1), (.int 0)] (.int 0) := V20.pad (pad_rep [(.int x0), (.int x1), (.int x2), (.int x3), (.int p1)] (.int 0) 1)
  refine own_iastore X22 hx hZ e22 V25 ⟨by decide, by decide⟩ 5 (by decide) (Nat.le_of_ble_eq_true rfl) rfl hby d12_167 N18 g_bA ?_
  intro T24 h24 lo24 X24 e24 N24 W24 V24 z24
  have V26 : Arv Z h24 bA kbA .int (8192 : Int32) [(.int x0), (.int x1), (.int x2), (.int x3), (.int p1), (.int p2)] (.int 0) := V24
  refine own_aloadN X24.here hx hby d12_168 rfl rfl ?_
  have f27 : Fld Z h24 t "com/example/boxwood/boxwood/XmlNodeTable" "attributeNames" "[[Ljava/lang/String;" (.ref aM) := (((F_attributeNames_t.other W13 (Or.inr (slot_ne (Or.inl (own_w hw 48 rfl)) (Or.inl (own_w hw 72 rfl)) (by decide) (t := (.array (.array (.object "java/lang/String")))) (t' := .int) (by decide) (by decide)))).other W18 (Or.inl (own_ne_oa E_t (own_w hw 31 rfl) V_bA))).other W24 (Or.inl (own_ne_oa E_t (own_w hw 31 rfl) V_bA)))
  refine own_getF X24 hx hZ hown (host := "") (Or.inl (own_w hw 47 rfl)) Via.refl e24 f27 hby d12_169 ?_
  intro T28 X28 e28
  refine own_iload X28.here hx hby d12_172 rfl ?_
  have f29 : Arv Z h24 aM kaM (.array (.object "java/lang/String")) (1 : Int32) [(.ref bM)] .null := (((V_aM.other W13 (Ne.symm (own_ne_oa E_t (own_w hw 31 rfl) V_aM))).other W18 (own_ne_aa V_aM V_bA (by decide))).other W24 (own_ne_aa V_aM V_bA (by decide)))
  refine own_aaload X28 hx hZ e28 f29 rfl ⟨by decide, by decide⟩ (v := (.ref bM)) rfl hby d12_174 ?_
  refine own_iload X28.here hx hby d12_175 rfl ?_
  refine own_sipush X28.here hx hby d12_177 (v := (4095 : Int32)) (by decide) ?_
  refine own_iand X28.here hx hby d12_180 (v := (2 : Int32)) (by decide) ?_
  refine own_aloadN X28.here hx hby d12_181 rfl rfl ?_
  have f30 : Arv Z h24 bM kbM (.object "java/lang/String") (4096 : Int32) [(.ref s0), (.ref s1)] .null := (((V_bM.other W13 (Ne.symm (own_ne_oa E_t (own_w hw 31 rfl) V_bM))).other W18 (own_ne_aa V_bM V_bA (by decide))).other W24 (own_ne_aa V_bM V_bA (by decide)))
  have V32 : Arv Z h24 bM kbM (.object "java/lang/String") (4096 : Int32) [(.ref s0), (.ref s1), .null] .null := f30.pad (pad_rep [(.ref s0), (.ref s1)] .null 1)
  have f33 : Exa Z h24 nm "java/lang/String" := (((E_nm.wr W13).wr W18).wr W24)
  refine own_aastore X28 hx hZ e28 V32 rfl rfl (own_stoV V32 O_bM (Ins.self f33)) ⟨by decide, by decide⟩ 2 (by decide) (Nat.le_of_ble_eq_true rfl) hby d12_182 N24 g_bM ?_
  intro T31 h31 lo31 X31 e31 N31 W31 V31 z31
  have V34 : Arv Z h31 bM kbM (.object "java/lang/String") (4096 : Int32) [(.ref s0), (.ref s1), (.ref nm)] .null := V31
  refine own_aloadN X31.here hx hby d12_183 rfl rfl ?_
  have f35 : Fld Z h31 t "com/example/boxwood/boxwood/XmlNodeTable" "attributeValues" "[[Lcom/example/boxwood/boxwood/XmlValue;" (.ref aW) := ((((F_attributeValues_t.other W13 (Or.inr (slot_ne (Or.inl (own_w hw 52 rfl)) (Or.inl (own_w hw 72 rfl)) (by decide) (t := (.array (.array (.object "com/example/boxwood/boxwood/XmlValue")))) (t' := .int) (by decide) (by decide)))).other W18 (Or.inl (own_ne_oa E_t (own_w hw 31 rfl) V_bA))).other W24 (Or.inl (own_ne_oa E_t (own_w hw 31 rfl) V_bA))).other W31 (Or.inl (own_ne_oa E_t (own_w hw 31 rfl) V_bM)))
  refine own_getF X31 hx hZ hown (host := "") (Or.inl (own_w hw 51 rfl)) Via.refl e31 f35 hby d12_184 ?_
  intro T36 X36 e36
  refine own_iload X36.here hx hby d12_187 rfl ?_
  have f37 : Arv Z h31 aW kaW (.array (.object "com/example/boxwood/boxwood/XmlValue")) (1 : Int32) [(.ref bW)] .null := ((((V_aW.other W13 (Ne.symm (own_ne_oa E_t (own_w hw 31 rfl) V_aW))).other W18 (own_ne_aa V_aW V_bA (by decide))).other W24 (own_ne_aa V_aW V_bA (by decide))).other W31 (own_ne_aa V_aW V_bM (by decide)))
  refine own_aaload X36 hx hZ e36 f37 rfl ⟨by decide, by decide⟩ (v := (.ref bW)) rfl hby d12_189 ?_
  refine own_iload X36.here hx hby d12_190 rfl ?_
  refine own_sipush X36.here hx hby d12_192 (v := (4095 : Int32)) (by decide) ?_
  refine own_iand X36.here hx hby d12_195 (v := (2 : Int32)) (by decide) ?_
  refine own_aloadN X36.here hx hby d12_196 rfl rfl ?_
  have f38 : Arv Z h31 bW kbW (.object "com/example/boxwood/boxwood/XmlValue") (4096 : Int32) [.null, .null] .null := ((((V_bW.other W13 (Ne.symm (own_ne_oa E_t (own_w hw 31 rfl) V_bW))).other W18 (own_ne_aa V_bW V_bA (by decide))).other W24 (own_ne_aa V_bW V_bA (by decide))).other W31 (own_ne_aa V_bW V_bM (by decide)))
  have V40 : Arv Z h31 bW kbW (.object "com/example/boxwood/boxwood/XmlValue") (4096 : Int32) [.null, .null, .null] .null := f38.pad (pad_rep [.null, .null] .null 1)
  refine own_aastore X36 hx hZ e36 V40 rfl rfl (Or.inl rfl) ⟨by decide, by decide⟩ 2 (by decide) (Nat.le_of_ble_eq_true rfl) hby d12_197 N31 g_bW ?_
  intro T39 h39 lo39 X39 e39 N39 W39 V39 z39
  have V41 : Arv Z h39 bW kbW (.object "com/example/boxwood/boxwood/XmlValue") (4096 : Int32) [.null, .null, .null] .null := V39
  have K42 : Keep h0 h39 [t, bA, bM, bW] := ((((((Keep.refl h0 [t, bA, bM, bW]).wr W13 (Or.inl (List.mem_of_getElem? (i := 0) rfl))).wr W18 (Or.inl (List.mem_of_getElem? (i := 1) rfl))).wr W24 (Or.inl (List.mem_of_getElem? (i := 1) rfl))).wr W31 (Or.inl (List.mem_of_getElem? (i := 2) rfl))).wr W39 (Or.inl (List.mem_of_getElem? (i := 3) rfl)))
  have f43 : Exa Z h39 t "com/example/boxwood/boxwood/XmlNodeTable" := (((((E_t.wr W13).wr W18).wr W24).wr W31).wr W39)
  have f44 : Fld Z h39 t "com/example/boxwood/boxwood/XmlNodeTable" "attributeCount" "I" (.int 3) := ((((F13.other W18 (Or.inl (own_ne_oa E_t (own_w hw 31 rfl) V_bA))).other W24 (Or.inl (own_ne_oa E_t (own_w hw 31 rfl) V_bA))).other W31 (Or.inl (own_ne_oa E_t (own_w hw 31 rfl) V_bM))).other W39 (Or.inl (own_ne_oa E_t (own_w hw 31 rfl) V_bW)))
  have f45 : Fld Z h39 t "com/example/boxwood/boxwood/XmlNodeTable" "attributeNumbers" "[[I" (.ref aA) := (((f21.other W24 (Or.inl (own_ne_oa E_t (own_w hw 31 rfl) V_bA))).other W31 (Or.inl (own_ne_oa E_t (own_w hw 31 rfl) V_bM))).other W39 (Or.inl (own_ne_oa E_t (own_w hw 31 rfl) V_bW)))
  have f46 : Arv Z h39 aA kaA (.array .int) (1 : Int32) [(.ref bA)] .null := (((f23.other W24 (own_ne_aa V_aA V_bA (by decide))).other W31 (own_ne_aa V_aA V_bM (by decide))).other W39 (own_ne_aa V_aA V_bW (by decide)))
  have f47 : Arv Z h39 bA kbA .int (8192 : Int32) [(.int x0), (.int x1), (.int x2), (.int x3), (.int p1), (.int p2)] (.int 0) := ((V26.other W31 (own_ne_aa V_bA V_bM (by decide))).other W39 (own_ne_aa V_bA V_bW (by decide)))
  have f48 : Fld Z h39 t "com/example/boxwood/boxwood/XmlNodeTable" "attributeNames" "[[Ljava/lang/String;" (.ref aM) := ((f27.other W31 (Or.inl (own_ne_oa E_t (own_w hw 31 rfl) V_bM))).other W39 (Or.inl (own_ne_oa E_t (own_w hw 31 rfl) V_bW)))
  have f49 : Arv Z h39 aM kaM (.array (.object "java/lang/String")) (1 : Int32) [(.ref bM)] .null := ((f29.other W31 (own_ne_aa V_aM V_bM (by decide))).other W39 (own_ne_aa V_aM V_bW (by decide)))
  have f50 : Arv Z h39 bM kbM (.object "java/lang/String") (4096 : Int32) [(.ref s0), (.ref s1), (.ref nm)] .null := (V34.other W39 (own_ne_aa V_bM V_bW (by decide)))
  have f51 : Fld Z h39 t "com/example/boxwood/boxwood/XmlNodeTable" "attributeValues" "[[Lcom/example/boxwood/boxwood/XmlValue;" (.ref aW) := (f35.other W39 (Or.inl (own_ne_oa E_t (own_w hw 31 rfl) V_bW)))
  have f52 : Arv Z h39 aW kaW (.array (.object "com/example/boxwood/boxwood/XmlValue")) (1 : Int32) [(.ref bW)] .null := (f37.other W39 (own_ne_aa V_aW V_bW (by decide)))
  obtain ⟨fs, hr, hrun, hended, hW, hsame⟩ := X39.leave (v := none) (fun _ => rfl)
  refine own_ret (t := T39.setFrames fs) ?_ ⟨_, hrun, hended, _, _, rfl, ?_, ⟨_, rfl⟩, hW, hsame.mono (by decide) (by decide)⟩
  · exact X39.returnOut hx Bd.returns (hb hby d12_198) hr
  · show Q_at4_2_ss Z t nm p1 p2 aA kaA bA kbA aM kaM bM kbM aW kaW bW kbW x0 x1 x2 x3 s0 s1 h0 n0 _ T39.heap _
    rw [e39]
    exact ⟨rfl, N39, K42, f43, f44, f45, f46, f47, f48, f49, f50, f51, f52, V41⟩
def Q_at3_2_ss (Z : State) (t : Nat) (nm : Nat) (p1 : Int32) (p2 : Int32) (aA : Nat) (kaA : ClassId) (bA : Nat) (kbA : ClassId) (aM : Nat) (kaM : ClassId) (bM : Nat) (kbM : ClassId) (aW : Nat) (kaW : ClassId) (bW : Nat) (kbW : ClassId) (x0 : Int32) (x1 : Int32) (x2 : Int32) (x3 : Int32) (s0 : Nat) (s1 : Nat) (h0 : Heap) (n0 : Nat) (vR : Option Value) (hR : Heap) (LR : List Loc) : Prop := vR = none ∧ Fr n0 LR ∧ Keep h0 hR [t, bA, bM, bW] ∧ (Exa Z hR t "com/example/boxwood/boxwood/XmlNodeTable") ∧ (Fld Z hR t "com/example/boxwood/boxwood/XmlNodeTable" "attributeCount" "I" (.int 3)) ∧ (Fld Z hR t "com/example/boxwood/boxwood/XmlNodeTable" "attributeNumbers" "[[I" (.ref aA)) ∧ (Arv Z hR aA kaA (.array .int) (1 : Int32) [(.ref bA)] .null) ∧ (Arv Z hR bA kbA .int (8192 : Int32) [(.int x0), (.int x1), (.int x2), (.int x3), (.int p1), (.int p2)] (.int 0)) ∧ (Fld Z hR t "com/example/boxwood/boxwood/XmlNodeTable" "attributeNames" "[[Ljava/lang/String;" (.ref aM)) ∧ (Arv Z hR aM kaM (.array (.object "java/lang/String")) (1 : Int32) [(.ref bM)] .null) ∧ (Arv Z hR bM kbM (.object "java/lang/String") (4096 : Int32) [(.ref s0), (.ref s1), (.ref nm)] .null) ∧ (Fld Z hR t "com/example/boxwood/boxwood/XmlNodeTable" "attributeValues" "[[Lcom/example/boxwood/boxwood/XmlValue;" (.ref aW)) ∧ (Arv Z hR aW kaW (.array (.object "com/example/boxwood/boxwood/XmlValue")) (1 : Int32) [(.ref bW)] .null) ∧ (Arv Z hR bW kbW (.object "com/example/boxwood/boxwood/XmlValue") (4096 : Int32) [.null, .null, .null] .null)
set_option maxRecDepth 65536 in
set_option maxHeartbeats 40000000 in
theorem at3_2_ss (l : Launch) (Z : State) (a0 : Array Value) (hw : ∀ d ∈ tables_1, d.before a0 Z = true) (ws : List Jvm.Cond) (t : Nat) (nm : Nat) (p1 : Int32) (p2 : Int32) (aA : Nat) (kaA : ClassId) (bA : Nat) (kbA : ClassId) (aM : Nat) (kaM : ClassId) (bM : Nat) (kbM : ClassId) (aW : Nat) (kaW : ClassId) (bW : Nat) (kbW : ClassId) (x0 : Int32) (x1 : Int32) (x2 : Int32) (x3 : Int32) (s0 : Nat) (s1 : Nat) (h0 : Heap) (n0 : Nat) (Z0 : n0 ≤ h0.size) (E_t : Exa Z h0 t "com/example/boxwood/boxwood/XmlNodeTable") (F_attributeCount_t : Fld Z h0 t "com/example/boxwood/boxwood/XmlNodeTable" "attributeCount" "I" (.int 2)) (g_t : n0 ≤ t) (E_nm : Exa Z h0 nm "java/lang/String") (F_attributeNumbers_t : Fld Z h0 t "com/example/boxwood/boxwood/XmlNodeTable" "attributeNumbers" "[[I" (.ref aA)) (V_aA : Arv Z h0 aA kaA (.array .int) (1 : Int32) [(.ref bA)] .null) (V_bA : Arv Z h0 bA kbA .int (8192 : Int32) [(.int x0), (.int x1), (.int x2), (.int x3)] (.int 0)) (g_bA : n0 ≤ bA) (F_attributeNames_t : Fld Z h0 t "com/example/boxwood/boxwood/XmlNodeTable" "attributeNames" "[[Ljava/lang/String;" (.ref aM)) (V_aM : Arv Z h0 aM kaM (.array (.object "java/lang/String")) (1 : Int32) [(.ref bM)] .null) (V_bM : Arv Z h0 bM kbM (.object "java/lang/String") (4096 : Int32) [(.ref s0), (.ref s1)] .null) (g_bM : n0 ≤ bM) (O_bM : Ovr Z kbM "java/lang/String") (F_attributeValues_t : Fld Z h0 t "com/example/boxwood/boxwood/XmlNodeTable" "attributeValues" "[[Lcom/example/boxwood/boxwood/XmlValue;" (.ref aW)) (V_aW : Arv Z h0 aW kaW (.array (.object "com/example/boxwood/boxwood/XmlValue")) (1 : Int32) [(.ref bW)] .null) (V_bW : Arv Z h0 bW kbW (.object "com/example/boxwood/boxwood/XmlValue") (4096 : Int32) [.null, .null] .null) (g_bW : n0 ≤ bW) (O_bW : Ovr Z kbW "com/example/boxwood/boxwood/XmlValue") :
    own_M l (⟨"com/example/boxwood/boxwood/XmlNodeTable", "addAttribute", "(Ljava/lang/String;II)V"⟩ : MethodName) prog_60_method_5_code 4 none ws ({ frames := 1, cells := 0, slots := 0, locals := 19 } : Room) Z #[(.ref t), (.ref nm), (.int p1), (.int p2)] h0 (Q_at3_2_ss Z t nm p1 p2 aA kaA bA kbA aM kaM bM kbM aW kaW bW kbW x0 x1 x2 x3 s0 s1 h0 n0) := by
  refine own_body (own := "com/example/boxwood/boxwood/XmlNodeTable") rfl (plainFor_of_name pn_11) (fun m => ef_at3_0_ m t nm p1 p2) ?_
  intro p e s m below meth c s₁ Bd hml hZ hh hx hby hown X0 e0
  have N0 := Fr.nil n0
  have lt4 : h0.size > t := E_t.lt
  have lt5 : h0.size > nm := E_nm.lt
  have lt6 : h0.size > aA := V_aA.lt
  have lt7 : h0.size > bA := V_bA.lt
  have lt8 : h0.size > aM := V_aM.lt
  have lt9 : h0.size > bM := V_bM.lt
  have lt10 : h0.size > aW := V_aW.lt
  have lt11 : h0.size > bW := V_bW.lt
  refine own_aloadN X0.here hx hby d11_0 rfl rfl ?_
  refine own_aloadN X0.here hx hby d11_1 rfl rfl ?_
  refine own_aconstNull X0.here hx hby d11_2 ?_
  refine own_iloadN X0.here hx hby d11_3 rfl ?_
  refine own_iloadN X0.here hx hby d11_4 rfl ?_
  refine own_private X0 hx hZ hown (own_w hw 82 rfl) (own_w hw 83 rfl) (own_w hw 31 rfl) (own_w hw 84 rfl) (own_w hw 32 rfl) (own_w hw 85 rfl) (by decide) (at4_2_ss l Z a0 hw [] t nm p1 p2 aA kaA bA kbA aM kaM bM kbM aW kaW bW kbW x0 x1 x2 x3 s0 s1 h0 n0 Z0 E_t F_attributeCount_t g_t E_nm F_attributeNumbers_t V_aA V_bA g_bA F_attributeNames_t V_aM V_bM g_bM O_bM F_attributeValues_t V_aW V_bW g_bW O_bW) 0 (Nat.le_of_eq rfl) (by decide) (by decide) (by rw [hml]; rfl) (argsL := [(.ref nm), .null, (.int p1), (.int p2)]) (st := []) E_t (lenOf pd_5 rfl) rfl rfl (by decide) (by decide) e0 hby d11_5 ?_
  intro T12 v12 L12 X12 hQ12
  obtain ⟨rfl, Nq12, K12, P12_0, P12_1, P12_2, P12_3, P12_4, P12_5, P12_6, P12_7, P12_8, P12_9, P12_10⟩ := hQ12
  have N12 := Fr.app N0 Nq12
  have z13 : h0.size ≤ T12.heap.size := K12.1
  have lt14 : T12.heap.size > t := P12_0.lt
  have lt15 : T12.heap.size > aA := P12_3.lt
  have lt16 : T12.heap.size > bA := P12_4.lt
  have lt17 : T12.heap.size > aM := P12_6.lt
  have lt18 : T12.heap.size > bM := P12_7.lt
  have lt19 : T12.heap.size > aW := P12_9.lt
  have lt20 : T12.heap.size > bW := P12_10.lt
  refine own_sh (T := T12) 8 #[.val (.ref t), .val (.ref nm), .val (.int p1), .val (.int p2)] [] ?_
  have K21 : Keep h0 T12.heap [t, bA, bM, bW] := ((Keep.refl h0 [t, bA, bM, bW]).trans K12 (allS (P := fun xq_ => xq_ ∈ [t, bA, bM, bW] ∨ h0.size ≤ xq_) (Or.inl (List.mem_of_getElem? (i := 0) rfl)) (allS (P := fun xq_ => xq_ ∈ [t, bA, bM, bW] ∨ h0.size ≤ xq_) (Or.inl (List.mem_of_getElem? (i := 1) rfl)) (allS (P := fun xq_ => xq_ ∈ [t, bA, bM, bW] ∨ h0.size ≤ xq_) (Or.inl (List.mem_of_getElem? (i := 2) rfl)) (allS (P := fun xq_ => xq_ ∈ [t, bA, bM, bW] ∨ h0.size ≤ xq_) (Or.inl (List.mem_of_getElem? (i := 3) rfl)) all0)))))
  obtain ⟨fs, hr, hrun, hended, hW, hsame⟩ := X12.leave (v := none) (fun _ => rfl)
  refine own_ret (t := T12.setFrames fs) ?_ ⟨_, hrun, hended, _, _, rfl, ?_, ⟨_, rfl⟩, hW, hsame.mono (by decide) (by decide)⟩
  · exact X12.returnOut hx Bd.returns (hb hby d11_8) hr
  · show Q_at3_2_ss Z t nm p1 p2 aA kaA bA kbA aM kaM bM kbM aW kaW bW kbW x0 x1 x2 x3 s0 s1 h0 n0 _ T12.heap _
    exact ⟨rfl, N12, K21, P12_0, P12_1, P12_2, P12_3, P12_4, P12_5, P12_6, P12_7, P12_8, P12_9, P12_10⟩
def Q_at4_2_sn (Z : State) (t : Nat) (nm : Nat) (p1 : Int32) (p2 : Int32) (aA : Nat) (kaA : ClassId) (bA : Nat) (kbA : ClassId) (aM : Nat) (kaM : ClassId) (bM : Nat) (kbM : ClassId) (aW : Nat) (kaW : ClassId) (bW : Nat) (kbW : ClassId) (x0 : Int32) (x1 : Int32) (x2 : Int32) (x3 : Int32) (s0 : Nat) (h0 : Heap) (n0 : Nat) (vR : Option Value) (hR : Heap) (LR : List Loc) : Prop := vR = none ∧ Fr n0 LR ∧ Keep h0 hR [t, bA, bM, bW] ∧ (Exa Z hR t "com/example/boxwood/boxwood/XmlNodeTable") ∧ (Fld Z hR t "com/example/boxwood/boxwood/XmlNodeTable" "attributeCount" "I" (.int 3)) ∧ (Fld Z hR t "com/example/boxwood/boxwood/XmlNodeTable" "attributeNumbers" "[[I" (.ref aA)) ∧ (Arv Z hR aA kaA (.array .int) (1 : Int32) [(.ref bA)] .null) ∧ (Arv Z hR bA kbA .int (8192 : Int32) [(.int x0), (.int x1), (.int x2), (.int x3), (.int p1), (.int p2)] (.int 0)) ∧ (Fld Z hR t "com/example/boxwood/boxwood/XmlNodeTable" "attributeNames" "[[Ljava/lang/String;" (.ref aM)) ∧ (Arv Z hR aM kaM (.array (.object "java/lang/String")) (1 : Int32) [(.ref bM)] .null) ∧ (Arv Z hR bM kbM (.object "java/lang/String") (4096 : Int32) [(.ref s0), .null, (.ref nm)] .null) ∧ (Fld Z hR t "com/example/boxwood/boxwood/XmlNodeTable" "attributeValues" "[[Lcom/example/boxwood/boxwood/XmlValue;" (.ref aW)) ∧ (Arv Z hR aW kaW (.array (.object "com/example/boxwood/boxwood/XmlValue")) (1 : Int32) [(.ref bW)] .null) ∧ (Arv Z hR bW kbW (.object "com/example/boxwood/boxwood/XmlValue") (4096 : Int32) [.null, .null, .null] .null)
set_option maxRecDepth 65536 in
set_option maxHeartbeats 40000000 in
theorem at4_2_sn (l : Launch) (Z : State) (a0 : Array Value) (hw : ∀ d ∈ tables_1, d.before a0 Z = true) (ws : List Jvm.Cond) (t : Nat) (nm : Nat) (p1 : Int32) (p2 : Int32) (aA : Nat) (kaA : ClassId) (bA : Nat) (kbA : ClassId) (aM : Nat) (kaM : ClassId) (bM : Nat) (kbM : ClassId) (aW : Nat) (kaW : ClassId) (bW : Nat) (kbW : ClassId) (x0 : Int32) (x1 : Int32) (x2 : Int32) (x3 : Int32) (s0 : Nat) (h0 : Heap) (n0 : Nat) (Z0 : n0 ≤ h0.size) (E_t : Exa Z h0 t "com/example/boxwood/boxwood/XmlNodeTable") (F_attributeCount_t : Fld Z h0 t "com/example/boxwood/boxwood/XmlNodeTable" "attributeCount" "I" (.int 2)) (g_t : n0 ≤ t) (E_nm : Exa Z h0 nm "java/lang/String") (F_attributeNumbers_t : Fld Z h0 t "com/example/boxwood/boxwood/XmlNodeTable" "attributeNumbers" "[[I" (.ref aA)) (V_aA : Arv Z h0 aA kaA (.array .int) (1 : Int32) [(.ref bA)] .null) (V_bA : Arv Z h0 bA kbA .int (8192 : Int32) [(.int x0), (.int x1), (.int x2), (.int x3)] (.int 0)) (g_bA : n0 ≤ bA) (F_attributeNames_t : Fld Z h0 t "com/example/boxwood/boxwood/XmlNodeTable" "attributeNames" "[[Ljava/lang/String;" (.ref aM)) (V_aM : Arv Z h0 aM kaM (.array (.object "java/lang/String")) (1 : Int32) [(.ref bM)] .null) (V_bM : Arv Z h0 bM kbM (.object "java/lang/String") (4096 : Int32) [(.ref s0), .null] .null) (g_bM : n0 ≤ bM) (O_bM : Ovr Z kbM "java/lang/String") (F_attributeValues_t : Fld Z h0 t "com/example/boxwood/boxwood/XmlNodeTable" "attributeValues" "[[Lcom/example/boxwood/boxwood/XmlValue;" (.ref aW)) (V_aW : Arv Z h0 aW kaW (.array (.object "com/example/boxwood/boxwood/XmlValue")) (1 : Int32) [(.ref bW)] .null) (V_bW : Arv Z h0 bW kbW (.object "com/example/boxwood/boxwood/XmlValue") (4096 : Int32) [.null, .null] .null) (g_bW : n0 ≤ bW) (O_bW : Ovr Z kbW "com/example/boxwood/boxwood/XmlValue") :
    own_M l (⟨"com/example/boxwood/boxwood/XmlNodeTable", "addAttribute", "(Ljava/lang/String;Lcom/example/boxwood/boxwood/XmlValue;II)V"⟩ : MethodName) prog_60_method_25_code 8 none ws ({ frames := 0, cells := 0, slots := 0, locals := 0 } : Room) Z #[(.ref t), (.ref nm), .null, (.int p1), (.int p2)] h0 (Q_at4_2_sn Z t nm p1 p2 aA kaA bA kbA aM kaM bM kbM aW kaW bW kbW x0 x1 x2 x3 s0 h0 n0) := by
  refine own_body (own := "com/example/boxwood/boxwood/XmlNodeTable") rfl (plainFor_of_name pn_12) (fun m => ef_at4_0_ m t nm p1 p2) ?_
  intro p e s m below meth c s₁ Bd hml hZ hh hx hby hown X0 e0
  have N0 := Fr.nil n0
  have lt4 : h0.size > t := E_t.lt
  have lt5 : h0.size > nm := E_nm.lt
  have lt6 : h0.size > aA := V_aA.lt
  have lt7 : h0.size > bA := V_bA.lt
  have lt8 : h0.size > aM := V_aM.lt
  have lt9 : h0.size > bM := V_bM.lt
  have lt10 : h0.size > aW := V_aW.lt
  have lt11 : h0.size > bW := V_bW.lt
  refine own_aloadN X0.here hx hby d12_0 rfl rfl ?_
  refine own_dup X0.here hx hby d12_1 rfl ?_
  refine own_getF X0 hx hZ hown (host := "") (Or.inl (own_w hw 71 rfl)) Via.refl e0 F_attributeCount_t hby d12_2 ?_
  intro T12 X12 e12
  refine own_dupX1 X12.here hx hby d12_5 rfl rfl ?_
  refine own_iconst X12.here hx hby d12_6 (v := (1 : Int32)) (by decide) ?_
  refine own_iadd X12.here hx hby d12_7 (v := (3 : Int32)) (by decide) ?_
  refine own_putF X12 hx hZ (ty := .int) hown (host := "") (Or.inl (own_w hw 71 rfl)) Via.refl e12 F_attributeCount_t E_t (Or.inl (own_w hw 72 rfl)) (own_w hw 31 rfl) (by decide) rfl rfl hby d12_8 N0 g_t ?_
  intro T13 h13 lo13 X13 e13 N13 W13 F13 z13
  refine own_istore X13.here hx hby d12_11 (l' := #[.val (.ref t), .val (.ref nm), .val .null, .val (.int p1), .val (.int p2), .val (.int 2), .unset, .unset]) rfl ?_
  refine own_iload X13.here hx hby d12_13 rfl ?_
  refine own_bipush X13.here hx hby d12_15 (v := (12 : Int32)) (by decide) ?_
  refine own_iushr X13.here hx hby d12_17 (v := (0 : Int32)) (by decide) ?_
  refine own_istore X13.here hx hby d12_18 (l' := #[.val (.ref t), .val (.ref nm), .val .null, .val (.int p1), .val (.int p2), .val (.int 2), .val (.int 0), .unset]) rfl ?_
  refine own_iload X13.here hx hby d12_20 rfl ?_
  refine own_sipush X13.here hx hby d12_22 (v := (4095 : Int32)) (by decide) ?_
  refine own_iand X13.here hx hby d12_25 (v := (2 : Int32)) (by decide) ?_
  refine own_ifYes X13.here hx hby (pc' := 131) d12_26 ((if0 _ _).trans (feq (show ¬ ((2 : Int32) = (0 : Int32)) from (by decide))).2) (by decide) (by decide) ?_
  refine own_iload X13.here hx hby d12_131 rfl ?_
  refine own_sipush X13.here hx hby d12_133 (v := (4095 : Int32)) (by decide) ?_
  refine own_iand X13.here hx hby d12_136 (v := (2 : Int32)) (by decide) ?_
  refine own_iconst X13.here hx hby d12_137 (v := (2 : Int32)) (by decide) ?_
  refine own_imul X13.here hx hby d12_138 (v := (4 : Int32)) (by decide) ?_
  refine own_istore X13.here hx hby d12_139 (l' := #[.val (.ref t), .val (.ref nm), .val .null, .val (.int p1), .val (.int p2), .val (.int 2), .val (.int 0), .val (.int 4)]) rfl ?_
  refine own_aloadN X13.here hx hby d12_141 rfl rfl ?_
  have f14 : Fld Z h13 t "com/example/boxwood/boxwood/XmlNodeTable" "attributeNumbers" "[[I" (.ref aA) := (F_attributeNumbers_t.other W13 (Or.inr (slot_ne (Or.inl (own_w hw 46 rfl)) (Or.inl (own_w hw 72 rfl)) (by decide) (t := (.array (.array .int))) (t' := .int) (by decide) (by decide))))
  refine own_getF X13 hx hZ hown (host := "") (Or.inl (own_w hw 45 rfl)) Via.refl e13 f14 hby d12_142 ?_
  intro T15 X15 e15
  refine own_iload X15.here hx hby d12_145 rfl ?_
  have f16 : Arv Z h13 aA kaA (.array .int) (1 : Int32) [(.ref bA)] .null := (V_aA.other W13 (Ne.symm (own_ne_oa E_t (own_w hw 31 rfl) V_aA)))
  refine own_aaload X15 hx hZ e15 f16 rfl ⟨by decide, by decide⟩ (v := (.ref bA)) rfl hby d12_147 ?_
  refine own_iload X15.here hx hby d12_148 rfl ?_
  refine own_iconst X15.here hx hby d12_150 (v := (0 : Int32)) (by decide) ?_
  refine own_iadd X15.here hx hby d12_151 (v := (4 : Int32)) (by decide) ?_
  refine own_iloadN X15.here hx hby d12_152 rfl ?_
  have f17 : Arv Z h13 bA kbA .int (8192 : Int32) [(.int x0), (.int x1), (.int x2), (.int x3)] (.int 0) := (V_bA.other W13 (Ne.symm (own_ne_oa E_t (own_w hw 31 rfl) V_bA)))
  have V19 : Arv Z h13 bA kbA .int (8192 : Int32) [(.int x0), (.int x1), (.int x2), (.int x3), (.int 0)] (.int 0) := f17.pad (pad_rep [(.int x0), (.int x1), (.int x2), (.int x3)] (.int 0) 1)
  refine own_iastore X15 hx hZ e15 V19 ⟨by decide, by decide⟩ 4 (by decide) (Nat.le_of_ble_eq_true rfl) rfl hby d12_153 N13 g_bA ?_
  intro T18 h18 lo18 X18 e18 N18 W18 V18 z18
  have V20 : Arv Z h18 bA kbA .int (8192 : Int32) [(.int x0), (.int x1), (.int x2), (.int x3), (.int p1)] (.int 0) := V18
  refine own_aloadN X18.here hx hby d12_154 rfl rfl ?_
  have f21 : Fld Z h18 t "com/example/boxwood/boxwood/XmlNodeTable" "attributeNumbers" "[[I" (.ref aA) := (f14.other W18 (Or.inl (own_ne_oa E_t (own_w hw 31 rfl) V_bA)))
  refine own_getF X18 hx hZ hown (host := "") (Or.inl (own_w hw 45 rfl)) Via.refl e18 f21 hby d12_155 ?_
  intro T22 X22 e22
  refine own_iload X22.here hx hby d12_158 rfl ?_
  have f23 : Arv Z h18 aA kaA (.array .int) (1 : Int32) [(.ref bA)] .null := (f16.other W18 (own_ne_aa V_aA V_bA (by decide)))
  refine own_aaload X22 hx hZ e22 f23 rfl ⟨by decide, by decide⟩ (v := (.ref bA)) rfl hby d12_160 ?_
  refine own_iload X22.here hx hby d12_161 rfl ?_
  refine own_iconst X22.here hx hby d12_163 (v := (1 : Int32)) (by decide) ?_
  refine own_iadd X22.here hx hby d12_164 (v := (5 : Int32)) (by decide) ?_
  refine own_iload X22.here hx hby d12_165 rfl ?_
  have V25 : Arv Z h18 bA kbA .int (8192 : Int32) [(.int x0), (.int x1), (.int x2), (.int x3), (.int p1), (.int 0)] (.int 0) := V20.pad (pad_rep [(.int x0), (.int x1), (.int x2), (.int x3), (.int p1)] (.int 0) 1)
  refine own_iastore X22 hx hZ e22 V25 ⟨by decide, by decide⟩ 5 (by decide) (Nat.le_of_ble_eq_true rfl) rfl hby d12_167 N18 g_bA ?_
  intro T24 h24 lo24 X24 e24 N24 W24 V24 z24
  have V26 : Arv Z h24 bA kbA .int (8192 : Int32) [(.int x0), (.int x1), (.int x2), (.int x3), (.int p1), (.int p2)] (.int 0) := V24
  refine own_aloadN X24.here hx hby d12_168 rfl rfl ?_
  have f27 : Fld Z h24 t "com/example/boxwood/boxwood/XmlNodeTable" "attributeNames" "[[Ljava/lang/String;" (.ref aM) := (((F_attributeNames_t.other W13 (Or.inr (slot_ne (Or.inl (own_w hw 48 rfl)) (Or.inl (own_w hw 72 rfl)) (by decide) (t := (.array (.array (.object "java/lang/String")))) (t' := .int) (by decide) (by decide)))).other W18 (Or.inl (own_ne_oa E_t (own_w hw 31 rfl) V_bA))).other W24 (Or.inl (own_ne_oa E_t (own_w hw 31 rfl) V_bA)))
  refine own_getF X24 hx hZ hown (host := "") (Or.inl (own_w hw 47 rfl)) Via.refl e24 f27 hby d12_169 ?_
  intro T28 X28 e28
  refine own_iload X28.here hx hby d12_172 rfl ?_
  have f29 : Arv Z h24 aM kaM (.array (.object "java/lang/String")) (1 : Int32) [(.ref bM)] .null := (((V_aM.other W13 (Ne.symm (own_ne_oa E_t (own_w hw 31 rfl) V_aM))).other W18 (own_ne_aa V_aM V_bA (by decide))).other W24 (own_ne_aa V_aM V_bA (by decide)))
  refine own_aaload X28 hx hZ e28 f29 rfl ⟨by decide, by decide⟩ (v := (.ref bM)) rfl hby d12_174 ?_
  refine own_iload X28.here hx hby d12_175 rfl ?_
  refine own_sipush X28.here hx hby d12_177 (v := (4095 : Int32)) (by decide) ?_
  refine own_iand X28.here hx hby d12_180 (v := (2 : Int32)) (by decide) ?_
  refine own_aloadN X28.here hx hby d12_181 rfl rfl ?_
  have f30 : Arv Z h24 bM kbM (.object "java/lang/String") (4096 : Int32) [(.ref s0), .null] .null := (((V_bM.other W13 (Ne.symm (own_ne_oa E_t (own_w hw 31 rfl) V_bM))).other W18 (own_ne_aa V_bM V_bA (by decide))).other W24 (own_ne_aa V_bM V_bA (by decide)))
  have V32 : Arv Z h24 bM kbM (.object "java/lang/String") (4096 : Int32) [(.ref s0), .null, .null] .null := f30.pad (pad_rep [(.ref s0), .null] .null 1)
  have f33 : Exa Z h24 nm "java/lang/String" := (((E_nm.wr W13).wr W18).wr W24)
  refine own_aastore X28 hx hZ e28 V32 rfl rfl (own_stoV V32 O_bM (Ins.self f33)) ⟨by decide, by decide⟩ 2 (by decide) (Nat.le_of_ble_eq_true rfl) hby d12_182 N24 g_bM ?_
  intro T31 h31 lo31 X31 e31 N31 W31 V31 z31
  have V34 : Arv Z h31 bM kbM (.object "java/lang/String") (4096 : Int32) [(.ref s0), .null, (.ref nm)] .null := V31
  refine own_aloadN X31.here hx hby d12_183 rfl rfl ?_
  have f35 : Fld Z h31 t "com/example/boxwood/boxwood/XmlNodeTable" "attributeValues" "[[Lcom/example/boxwood/boxwood/XmlValue;" (.ref aW) := ((((F_attributeValues_t.other W13 (Or.inr (slot_ne (Or.inl (own_w hw 52 rfl)) (Or.inl (own_w hw 72 rfl)) (by decide) (t := (.array (.array (.object "com/example/boxwood/boxwood/XmlValue")))) (t' := .int) (by decide) (by decide)))).other W18 (Or.inl (own_ne_oa E_t (own_w hw 31 rfl) V_bA))).other W24 (Or.inl (own_ne_oa E_t (own_w hw 31 rfl) V_bA))).other W31 (Or.inl (own_ne_oa E_t (own_w hw 31 rfl) V_bM)))
  refine own_getF X31 hx hZ hown (host := "") (Or.inl (own_w hw 51 rfl)) Via.refl e31 f35 hby d12_184 ?_
  intro T36 X36 e36
  refine own_iload X36.here hx hby d12_187 rfl ?_
  have f37 : Arv Z h31 aW kaW (.array (.object "com/example/boxwood/boxwood/XmlValue")) (1 : Int32) [(.ref bW)] .null := ((((V_aW.other W13 (Ne.symm (own_ne_oa E_t (own_w hw 31 rfl) V_aW))).other W18 (own_ne_aa V_aW V_bA (by decide))).other W24 (own_ne_aa V_aW V_bA (by decide))).other W31 (own_ne_aa V_aW V_bM (by decide)))
  refine own_aaload X36 hx hZ e36 f37 rfl ⟨by decide, by decide⟩ (v := (.ref bW)) rfl hby d12_189 ?_
  refine own_iload X36.here hx hby d12_190 rfl ?_
  refine own_sipush X36.here hx hby d12_192 (v := (4095 : Int32)) (by decide) ?_
  refine own_iand X36.here hx hby d12_195 (v := (2 : Int32)) (by decide) ?_
  refine own_aloadN X36.here hx hby d12_196 rfl rfl ?_
  have f38 : Arv Z h31 bW kbW (.object "com/example/boxwood/boxwood/XmlValue") (4096 : Int32) [.null, .null] .null := ((((V_bW.other W13 (Ne.symm (own_ne_oa E_t (own_w hw 31 rfl) V_bW))).other W18 (own_ne_aa V_bW V_bA (by decide))).other W24 (own_ne_aa V_bW V_bA (by decide))).other W31 (own_ne_aa V_bW V_bM (by decide)))
  have V40 : Arv Z h31 bW kbW (.object "com/example/boxwood/boxwood/XmlValue") (4096 : Int32) [.null, .null, .null] .null := f38.pad (pad_rep [.null, .null] .null 1)
  refine own_aastore X36 hx hZ e36 V40 rfl rfl (Or.inl rfl) ⟨by decide, by decide⟩ 2 (by decide) (Nat.le_of_ble_eq_true rfl) hby d12_197 N31 g_bW ?_
  intro T39 h39 lo39 X39 e39 N39 W39 V39 z39
  have V41 : Arv Z h39 bW kbW (.object "com/example/boxwood/boxwood/XmlValue") (4096 : Int32) [.null, .null, .null] .null := V39
  have K42 : Keep h0 h39 [t, bA, bM, bW] := ((((((Keep.refl h0 [t, bA, bM, bW]).wr W13 (Or.inl (List.mem_of_getElem? (i := 0) rfl))).wr W18 (Or.inl (List.mem_of_getElem? (i := 1) rfl))).wr W24 (Or.inl (List.mem_of_getElem? (i := 1) rfl))).wr W31 (Or.inl (List.mem_of_getElem? (i := 2) rfl))).wr W39 (Or.inl (List.mem_of_getElem? (i := 3) rfl)))
  have f43 : Exa Z h39 t "com/example/boxwood/boxwood/XmlNodeTable" := (((((E_t.wr W13).wr W18).wr W24).wr W31).wr W39)
  have f44 : Fld Z h39 t "com/example/boxwood/boxwood/XmlNodeTable" "attributeCount" "I" (.int 3) := ((((F13.other W18 (Or.inl (own_ne_oa E_t (own_w hw 31 rfl) V_bA))).other W24 (Or.inl (own_ne_oa E_t (own_w hw 31 rfl) V_bA))).other W31 (Or.inl (own_ne_oa E_t (own_w hw 31 rfl) V_bM))).other W39 (Or.inl (own_ne_oa E_t (own_w hw 31 rfl) V_bW)))
  have f45 : Fld Z h39 t "com/example/boxwood/boxwood/XmlNodeTable" "attributeNumbers" "[[I" (.ref aA) := (((f21.other W24 (Or.inl (own_ne_oa E_t (own_w hw 31 rfl) V_bA))).other W31 (Or.inl (own_ne_oa E_t (own_w hw 31 rfl) V_bM))).other W39 (Or.inl (own_ne_oa E_t (own_w hw 31 rfl) V_bW)))
  have f46 : Arv Z h39 aA kaA (.array .int) (1 : Int32) [(.ref bA)] .null := (((f23.other W24 (own_ne_aa V_aA V_bA (by decide))).other W31 (own_ne_aa V_aA V_bM (by decide))).other W39 (own_ne_aa V_aA V_bW (by decide)))
  have f47 : Arv Z h39 bA kbA .int (8192 : Int32) [(.int x0), (.int x1), (.int x2), (.int x3), (.int p1), (.int p2)] (.int 0) := ((V26.other W31 (own_ne_aa V_bA V_bM (by decide))).other W39 (own_ne_aa V_bA V_bW (by decide)))
  have f48 : Fld Z h39 t "com/example/boxwood/boxwood/XmlNodeTable" "attributeNames" "[[Ljava/lang/String;" (.ref aM) := ((f27.other W31 (Or.inl (own_ne_oa E_t (own_w hw 31 rfl) V_bM))).other W39 (Or.inl (own_ne_oa E_t (own_w hw 31 rfl) V_bW)))
  have f49 : Arv Z h39 aM kaM (.array (.object "java/lang/String")) (1 : Int32) [(.ref bM)] .null := ((f29.other W31 (own_ne_aa V_aM V_bM (by decide))).other W39 (own_ne_aa V_aM V_bW (by decide)))
  have f50 : Arv Z h39 bM kbM (.object "java/lang/String") (4096 : Int32) [(.ref s0), .null, (.ref nm)] .null := (V34.other W39 (own_ne_aa V_bM V_bW (by decide)))
  have f51 : Fld Z h39 t "com/example/boxwood/boxwood/XmlNodeTable" "attributeValues" "[[Lcom/example/boxwood/boxwood/XmlValue;" (.ref aW) := (f35.other W39 (Or.inl (own_ne_oa E_t (own_w hw 31 rfl) V_bW)))
  have f52 : Arv Z h39 aW kaW (.array (.object "com/example/boxwood/boxwood/XmlValue")) (1 : Int32) [(.ref bW)] .null := (f37.other W39 (own_ne_aa V_aW V_bW (by decide)))
  obtain ⟨fs, hr, hrun, hended, hW, hsame⟩ := X39.leave (v := none) (fun _ => rfl)
  refine own_ret (t := T39.setFrames fs) ?_ ⟨_, hrun, hended, _, _, rfl, ?_, ⟨_, rfl⟩, hW, hsame.mono (by decide) (by decide)⟩
  · exact X39.returnOut hx Bd.returns (hb hby d12_198) hr
  · show Q_at4_2_sn Z t nm p1 p2 aA kaA bA kbA aM kaM bM kbM aW kaW bW kbW x0 x1 x2 x3 s0 h0 n0 _ T39.heap _
    rw [e39]
    exact ⟨rfl, N39, K42, f43, f44, f45, f46, f47, f48, f49, f50, f51, f52, V41⟩
def Q_at3_2_sn (Z : State) (t : Nat) (nm : Nat) (p1 : Int32) (p2 : Int32) (aA : Nat) (kaA : ClassId) (bA : Nat) (kbA : ClassId) (aM : Nat) (kaM : ClassId) (bM : Nat) (kbM : ClassId) (aW : Nat) (kaW : ClassId) (bW : Nat) (kbW : ClassId) (x0 : Int32) (x1 : Int32) (x2 : Int32) (x3 : Int32) (s0 : Nat) (h0 : Heap) (n0 : Nat) (vR : Option Value) (hR : Heap) (LR : List Loc) : Prop := vR = none ∧ Fr n0 LR ∧ Keep h0 hR [t, bA, bM, bW] ∧ (Exa Z hR t "com/example/boxwood/boxwood/XmlNodeTable") ∧ (Fld Z hR t "com/example/boxwood/boxwood/XmlNodeTable" "attributeCount" "I" (.int 3)) ∧ (Fld Z hR t "com/example/boxwood/boxwood/XmlNodeTable" "attributeNumbers" "[[I" (.ref aA)) ∧ (Arv Z hR aA kaA (.array .int) (1 : Int32) [(.ref bA)] .null) ∧ (Arv Z hR bA kbA .int (8192 : Int32) [(.int x0), (.int x1), (.int x2), (.int x3), (.int p1), (.int p2)] (.int 0)) ∧ (Fld Z hR t "com/example/boxwood/boxwood/XmlNodeTable" "attributeNames" "[[Ljava/lang/String;" (.ref aM)) ∧ (Arv Z hR aM kaM (.array (.object "java/lang/String")) (1 : Int32) [(.ref bM)] .null) ∧ (Arv Z hR bM kbM (.object "java/lang/String") (4096 : Int32) [(.ref s0), .null, (.ref nm)] .null) ∧ (Fld Z hR t "com/example/boxwood/boxwood/XmlNodeTable" "attributeValues" "[[Lcom/example/boxwood/boxwood/XmlValue;" (.ref aW)) ∧ (Arv Z hR aW kaW (.array (.object "com/example/boxwood/boxwood/XmlValue")) (1 : Int32) [(.ref bW)] .null) ∧ (Arv Z hR bW kbW (.object "com/example/boxwood/boxwood/XmlValue") (4096 : Int32) [.null, .null, .null] .null)
set_option maxRecDepth 65536 in
set_option maxHeartbeats 40000000 in
theorem at3_2_sn (l : Launch) (Z : State) (a0 : Array Value) (hw : ∀ d ∈ tables_1, d.before a0 Z = true) (ws : List Jvm.Cond) (t : Nat) (nm : Nat) (p1 : Int32) (p2 : Int32) (aA : Nat) (kaA : ClassId) (bA : Nat) (kbA : ClassId) (aM : Nat) (kaM : ClassId) (bM : Nat) (kbM : ClassId) (aW : Nat) (kaW : ClassId) (bW : Nat) (kbW : ClassId) (x0 : Int32) (x1 : Int32) (x2 : Int32) (x3 : Int32) (s0 : Nat) (h0 : Heap) (n0 : Nat) (Z0 : n0 ≤ h0.size) (E_t : Exa Z h0 t "com/example/boxwood/boxwood/XmlNodeTable") (F_attributeCount_t : Fld Z h0 t "com/example/boxwood/boxwood/XmlNodeTable" "attributeCount" "I" (.int 2)) (g_t : n0 ≤ t) (E_nm : Exa Z h0 nm "java/lang/String") (F_attributeNumbers_t : Fld Z h0 t "com/example/boxwood/boxwood/XmlNodeTable" "attributeNumbers" "[[I" (.ref aA)) (V_aA : Arv Z h0 aA kaA (.array .int) (1 : Int32) [(.ref bA)] .null) (V_bA : Arv Z h0 bA kbA .int (8192 : Int32) [(.int x0), (.int x1), (.int x2), (.int x3)] (.int 0)) (g_bA : n0 ≤ bA) (F_attributeNames_t : Fld Z h0 t "com/example/boxwood/boxwood/XmlNodeTable" "attributeNames" "[[Ljava/lang/String;" (.ref aM)) (V_aM : Arv Z h0 aM kaM (.array (.object "java/lang/String")) (1 : Int32) [(.ref bM)] .null) (V_bM : Arv Z h0 bM kbM (.object "java/lang/String") (4096 : Int32) [(.ref s0), .null] .null) (g_bM : n0 ≤ bM) (O_bM : Ovr Z kbM "java/lang/String") (F_attributeValues_t : Fld Z h0 t "com/example/boxwood/boxwood/XmlNodeTable" "attributeValues" "[[Lcom/example/boxwood/boxwood/XmlValue;" (.ref aW)) (V_aW : Arv Z h0 aW kaW (.array (.object "com/example/boxwood/boxwood/XmlValue")) (1 : Int32) [(.ref bW)] .null) (V_bW : Arv Z h0 bW kbW (.object "com/example/boxwood/boxwood/XmlValue") (4096 : Int32) [.null, .null] .null) (g_bW : n0 ≤ bW) (O_bW : Ovr Z kbW "com/example/boxwood/boxwood/XmlValue") :
    own_M l (⟨"com/example/boxwood/boxwood/XmlNodeTable", "addAttribute", "(Ljava/lang/String;II)V"⟩ : MethodName) prog_60_method_5_code 4 none ws ({ frames := 1, cells := 0, slots := 0, locals := 19 } : Room) Z #[(.ref t), (.ref nm), (.int p1), (.int p2)] h0 (Q_at3_2_sn Z t nm p1 p2 aA kaA bA kbA aM kaM bM kbM aW kaW bW kbW x0 x1 x2 x3 s0 h0 n0) := by
  refine own_body (own := "com/example/boxwood/boxwood/XmlNodeTable") rfl (plainFor_of_name pn_11) (fun m => ef_at3_0_ m t nm p1 p2) ?_
  intro p e s m below meth c s₁ Bd hml hZ hh hx hby hown X0 e0
  have N0 := Fr.nil n0
  have lt4 : h0.size > t := E_t.lt
  have lt5 : h0.size > nm := E_nm.lt
  have lt6 : h0.size > aA := V_aA.lt
  have lt7 : h0.size > bA := V_bA.lt
  have lt8 : h0.size > aM := V_aM.lt
  have lt9 : h0.size > bM := V_bM.lt
  have lt10 : h0.size > aW := V_aW.lt
  have lt11 : h0.size > bW := V_bW.lt
  refine own_aloadN X0.here hx hby d11_0 rfl rfl ?_
  refine own_aloadN X0.here hx hby d11_1 rfl rfl ?_
  refine own_aconstNull X0.here hx hby d11_2 ?_
  refine own_iloadN X0.here hx hby d11_3 rfl ?_
  refine own_iloadN X0.here hx hby d11_4 rfl ?_
  refine own_private X0 hx hZ hown (own_w hw 82 rfl) (own_w hw 83 rfl) (own_w hw 31 rfl) (own_w hw 84 rfl) (own_w hw 32 rfl) (own_w hw 85 rfl) (by decide) (at4_2_sn l Z a0 hw [] t nm p1 p2 aA kaA bA kbA aM kaM bM kbM aW kaW bW kbW x0 x1 x2 x3 s0 h0 n0 Z0 E_t F_attributeCount_t g_t E_nm F_attributeNumbers_t V_aA V_bA g_bA F_attributeNames_t V_aM V_bM g_bM O_bM F_attributeValues_t V_aW V_bW g_bW O_bW) 0 (Nat.le_of_eq rfl) (by decide) (by decide) (by rw [hml]; rfl) (argsL := [(.ref nm), .null, (.int p1), (.int p2)]) (st := []) E_t (lenOf pd_5 rfl) rfl rfl (by decide) (by decide) e0 hby d11_5 ?_
  intro T12 v12 L12 X12 hQ12
  obtain ⟨rfl, Nq12, K12, P12_0, P12_1, P12_2, P12_3, P12_4, P12_5, P12_6, P12_7, P12_8, P12_9, P12_10⟩ := hQ12
  have N12 := Fr.app N0 Nq12
  have z13 : h0.size ≤ T12.heap.size := K12.1
  have lt14 : T12.heap.size > t := P12_0.lt
  have lt15 : T12.heap.size > aA := P12_3.lt
  have lt16 : T12.heap.size > bA := P12_4.lt
  have lt17 : T12.heap.size > aM := P12_6.lt
  have lt18 : T12.heap.size > bM := P12_7.lt
  have lt19 : T12.heap.size > aW := P12_9.lt
  have lt20 : T12.heap.size > bW := P12_10.lt
  refine own_sh (T := T12) 8 #[.val (.ref t), .val (.ref nm), .val (.int p1), .val (.int p2)] [] ?_
  have K21 : Keep h0 T12.heap [t, bA, bM, bW] := ((Keep.refl h0 [t, bA, bM, bW]).trans K12 (allS (P := fun xq_ => xq_ ∈ [t, bA, bM, bW] ∨ h0.size ≤ xq_) (Or.inl (List.mem_of_getElem? (i := 0) rfl)) (allS (P := fun xq_ => xq_ ∈ [t, bA, bM, bW] ∨ h0.size ≤ xq_) (Or.inl (List.mem_of_getElem? (i := 1) rfl)) (allS (P := fun xq_ => xq_ ∈ [t, bA, bM, bW] ∨ h0.size ≤ xq_) (Or.inl (List.mem_of_getElem? (i := 2) rfl)) (allS (P := fun xq_ => xq_ ∈ [t, bA, bM, bW] ∨ h0.size ≤ xq_) (Or.inl (List.mem_of_getElem? (i := 3) rfl)) all0)))))
  obtain ⟨fs, hr, hrun, hended, hW, hsame⟩ := X12.leave (v := none) (fun _ => rfl)
  refine own_ret (t := T12.setFrames fs) ?_ ⟨_, hrun, hended, _, _, rfl, ?_, ⟨_, rfl⟩, hW, hsame.mono (by decide) (by decide)⟩
  · exact X12.returnOut hx Bd.returns (hb hby d11_8) hr
  · show Q_at3_2_sn Z t nm p1 p2 aA kaA bA kbA aM kaM bM kbM aW kaW bW kbW x0 x1 x2 x3 s0 h0 n0 _ T12.heap _
    exact ⟨rfl, N12, K21, P12_0, P12_1, P12_2, P12_3, P12_4, P12_5, P12_6, P12_7, P12_8, P12_9, P12_10⟩
theorem ef_attributeName_0_sss (m : MethodId) (x0 : Nat) (x1 : Int32) : entryFrame m #[(.ref x0), (.int x1)] 2 = mkF m 0 #[.val (.ref x0), .val (.int x1)] [] := by first | (simp [entryFrame, mkF, argsToLocals, Value.category]; done) | rfl
theorem pn_14 : plainName "com/example/boxwood/boxwood/XmlNodeTable" = true := by first | (simp [plainName, overriddenIn]; done) | decide +kernel
theorem d14_0 : decode prog_60_method_22_code 0 = .ok (.aload_n 0, 1) := by decide +kernel
theorem d14_1 : decode prog_60_method_22_code 1 = .ok (.getfield 24, 3) := by decide +kernel
theorem d14_4 : decode prog_60_method_22_code 4 = .ok (.iload_n 1, 1) := by decide +kernel
theorem d14_5 : decode prog_60_method_22_code 5 = .ok (.bipush 12, 2) := by decide +kernel
theorem d14_7 : decode prog_60_method_22_code 7 = .ok (.iushr, 1) := by decide +kernel
theorem d14_8 : decode prog_60_method_22_code 8 = .ok (.aaload, 1) := by decide +kernel
theorem d14_9 : decode prog_60_method_22_code 9 = .ok (.iload_n 1, 1) := by decide +kernel
theorem d14_10 : decode prog_60_method_22_code 10 = .ok (.sipush 4095, 3) := by decide +kernel
theorem d14_13 : decode prog_60_method_22_code 13 = .ok (.iand, 1) := by decide +kernel
theorem d14_14 : decode prog_60_method_22_code 14 = .ok (.aaload, 1) := by decide +kernel
theorem d14_15 : decode prog_60_method_22_code 15 = .ok (.areturn, 1) := by decide +kernel
def Q_attributeName_0_sss (Z : State) (t : Nat) (aM : Nat) (bM : Nat) (kM : ClassId) (kc : ClassId) (s0 : Nat) (s1 : Nat) (s2 : Nat) (h0 : Heap) (n0 : Nat) (vR : Option Value) (hR : Heap) (LR : List Loc) : Prop := vR = some (.ref s0) ∧ Fr n0 LR ∧ hR = h0
set_option maxRecDepth 65536 in
set_option maxHeartbeats 40000000 in
theorem attributeName_0_sss (l : Launch) (Z : State) (a0 : Array Value) (hw : ∀ d ∈ tables_1, d.before a0 Z = true) (ws : List Jvm.Cond) (t : Nat) (aM : Nat) (bM : Nat) (kM : ClassId) (kc : ClassId) (s0 : Nat) (s1 : Nat) (s2 : Nat) (h0 : Heap) (n0 : Nat) (Z0 : n0 ≤ h0.size) (F_attributeNames_t : Fld Z h0 t "com/example/boxwood/boxwood/XmlNodeTable" "attributeNames" "[[Ljava/lang/String;" (.ref aM)) (V_aM : Arv Z h0 aM kM (.array (.object "java/lang/String")) (1 : Int32) [(.ref bM)] .null) (V_bM : Arv Z h0 bM kc (.object "java/lang/String") (4096 : Int32) [(.ref s0), (.ref s1), (.ref s2)] .null) :
    own_M l (⟨"com/example/boxwood/boxwood/XmlNodeTable", "attributeName", "(I)Ljava/lang/String;"⟩ : MethodName) prog_60_method_22_code 2 (some (.object "java/lang/String")) ws ({ frames := 0, cells := 0, slots := 0, locals := 0 } : Room) Z #[(.ref t), (.int 0)] h0 (Q_attributeName_0_sss Z t aM bM kM kc s0 s1 s2 h0 n0) := by
  refine own_body (own := "com/example/boxwood/boxwood/XmlNodeTable") rfl (plainFor_of_name pn_14) (fun m => ef_attributeName_0_sss m t (0 : Int32)) ?_
  intro p e s m below meth c s₁ Bd hml hZ hh hx hby hown X0 e0
  have N0 := Fr.nil n0
  have lt3 : h0.size > t := F_attributeNames_t.lt
  have lt4 : h0.size > aM := V_aM.lt
  have lt5 : h0.size > bM := V_bM.lt
  refine own_aloadN X0.here hx hby d14_0 rfl rfl ?_
  refine own_getF X0 hx hZ hown (host := "") (Or.inl (own_w hw 47 rfl)) Via.refl e0 F_attributeNames_t hby d14_1 ?_
  intro T6 X6 e6
  refine own_iloadN X6.here hx hby d14_4 rfl ?_
  refine own_bipush X6.here hx hby d14_5 (v := (12 : Int32)) (by decide) ?_
  refine own_iushr X6.here hx hby d14_7 (v := (0 : Int32)) (by decide) ?_
  refine own_aaload X6 hx hZ e6 V_aM rfl ⟨by decide, by decide⟩ (v := (.ref bM)) rfl hby d14_8 ?_
  refine own_iloadN X6.here hx hby d14_9 rfl ?_
  refine own_sipush X6.here hx hby d14_10 (v := (4095 : Int32)) (by decide) ?_
  refine own_iand X6.here hx hby d14_13 (v := (0 : Int32)) (by decide) ?_
  refine own_aaload X6 hx hZ e6 V_bM rfl ⟨by decide, by decide⟩ (v := (.ref s0)) rfl hby d14_14 ?_
  obtain ⟨fs, hr, hrun, hended, hW, hsame⟩ := X6.leave (v := some (.ref s0)) (fun h => by rw [Bd.returns] at h; cases h)
  refine own_ret (t := T6.setFrames fs) ?_ ⟨_, hrun, hended, _, _, rfl, ?_, ⟨_, rfl⟩, hW, hsame.mono (by decide) (by decide)⟩
  · exact retOut X6 hx Bd.returns rfl (Or.inr (Or.inr (Or.inr (Or.inr ⟨rfl, rfl, rfl⟩)))) (hb hby d14_15) hr
  · show Q_attributeName_0_sss Z t aM bM kM kc s0 s1 s2 h0 n0 _ T6.heap _
    rw [e6]
    exact ⟨rfl, N0, rfl⟩
def Q_attributeName_1_sss (Z : State) (t : Nat) (aM : Nat) (bM : Nat) (kM : ClassId) (kc : ClassId) (s0 : Nat) (s1 : Nat) (s2 : Nat) (h0 : Heap) (n0 : Nat) (vR : Option Value) (hR : Heap) (LR : List Loc) : Prop := vR = some (.ref s1) ∧ Fr n0 LR ∧ hR = h0
set_option maxRecDepth 65536 in
set_option maxHeartbeats 40000000 in
theorem attributeName_1_sss (l : Launch) (Z : State) (a0 : Array Value) (hw : ∀ d ∈ tables_1, d.before a0 Z = true) (ws : List Jvm.Cond) (t : Nat) (aM : Nat) (bM : Nat) (kM : ClassId) (kc : ClassId) (s0 : Nat) (s1 : Nat) (s2 : Nat) (h0 : Heap) (n0 : Nat) (Z0 : n0 ≤ h0.size) (F_attributeNames_t : Fld Z h0 t "com/example/boxwood/boxwood/XmlNodeTable" "attributeNames" "[[Ljava/lang/String;" (.ref aM)) (V_aM : Arv Z h0 aM kM (.array (.object "java/lang/String")) (1 : Int32) [(.ref bM)] .null) (V_bM : Arv Z h0 bM kc (.object "java/lang/String") (4096 : Int32) [(.ref s0), (.ref s1), (.ref s2)] .null) :
    own_M l (⟨"com/example/boxwood/boxwood/XmlNodeTable", "attributeName", "(I)Ljava/lang/String;"⟩ : MethodName) prog_60_method_22_code 2 (some (.object "java/lang/String")) ws ({ frames := 0, cells := 0, slots := 0, locals := 0 } : Room) Z #[(.ref t), (.int 1)] h0 (Q_attributeName_1_sss Z t aM bM kM kc s0 s1 s2 h0 n0) := by
  refine own_body (own := "com/example/boxwood/boxwood/XmlNodeTable") rfl (plainFor_of_name pn_14) (fun m => ef_attributeName_0_sss m t (1 : Int32)) ?_
  intro p e s m below meth c s₁ Bd hml hZ hh hx hby hown X0 e0
  have N0 := Fr.nil n0
  have lt3 : h0.size > t := F_attributeNames_t.lt
  have lt4 : h0.size > aM := V_aM.lt
  have lt5 : h0.size > bM := V_bM.lt
  refine own_aloadN X0.here hx hby d14_0 rfl rfl ?_
  refine own_getF X0 hx hZ hown (host := "") (Or.inl (own_w hw 47 rfl)) Via.refl e0 F_attributeNames_t hby d14_1 ?_
  intro T6 X6 e6
  refine own_iloadN X6.here hx hby d14_4 rfl ?_
  refine own_bipush X6.here hx hby d14_5 (v := (12 : Int32)) (by decide) ?_
  refine own_iushr X6.here hx hby d14_7 (v := (0 : Int32)) (by decide) ?_
  refine own_aaload X6 hx hZ e6 V_aM rfl ⟨by decide, by decide⟩ (v := (.ref bM)) rfl hby d14_8 ?_
  refine own_iloadN X6.here hx hby d14_9 rfl ?_
  refine own_sipush X6.here hx hby d14_10 (v := (4095 : Int32)) (by decide) ?_
  refine own_iand X6.here hx hby d14_13 (v := (1 : Int32)) (by decide) ?_
  refine own_aaload X6 hx hZ e6 V_bM rfl ⟨by decide, by decide⟩ (v := (.ref s1)) rfl hby d14_14 ?_
  obtain ⟨fs, hr, hrun, hended, hW, hsame⟩ := X6.leave (v := some (.ref s1)) (fun h => by rw [Bd.returns] at h; cases h)
  refine own_ret (t := T6.setFrames fs) ?_ ⟨_, hrun, hended, _, _, rfl, ?_, ⟨_, rfl⟩, hW, hsame.mono (by decide) (by decide)⟩
  · exact retOut X6 hx Bd.returns rfl (Or.inr (Or.inr (Or.inr (Or.inr ⟨rfl, rfl, rfl⟩)))) (hb hby d14_15) hr
  · show Q_attributeName_1_sss Z t aM bM kM kc s0 s1 s2 h0 n0 _ T6.heap _
    rw [e6]
    exact ⟨rfl, N0, rfl⟩
def Q_attributeName_2_sss (Z : State) (t : Nat) (aM : Nat) (bM : Nat) (kM : ClassId) (kc : ClassId) (s0 : Nat) (s1 : Nat) (s2 : Nat) (h0 : Heap) (n0 : Nat) (vR : Option Value) (hR : Heap) (LR : List Loc) : Prop := vR = some (.ref s2) ∧ Fr n0 LR ∧ hR = h0
set_option maxRecDepth 65536 in
set_option maxHeartbeats 40000000 in
theorem attributeName_2_sss (l : Launch) (Z : State) (a0 : Array Value) (hw : ∀ d ∈ tables_1, d.before a0 Z = true) (ws : List Jvm.Cond) (t : Nat) (aM : Nat) (bM : Nat) (kM : ClassId) (kc : ClassId) (s0 : Nat) (s1 : Nat) (s2 : Nat) (h0 : Heap) (n0 : Nat) (Z0 : n0 ≤ h0.size) (F_attributeNames_t : Fld Z h0 t "com/example/boxwood/boxwood/XmlNodeTable" "attributeNames" "[[Ljava/lang/String;" (.ref aM)) (V_aM : Arv Z h0 aM kM (.array (.object "java/lang/String")) (1 : Int32) [(.ref bM)] .null) (V_bM : Arv Z h0 bM kc (.object "java/lang/String") (4096 : Int32) [(.ref s0), (.ref s1), (.ref s2)] .null) :
    own_M l (⟨"com/example/boxwood/boxwood/XmlNodeTable", "attributeName", "(I)Ljava/lang/String;"⟩ : MethodName) prog_60_method_22_code 2 (some (.object "java/lang/String")) ws ({ frames := 0, cells := 0, slots := 0, locals := 0 } : Room) Z #[(.ref t), (.int 2)] h0 (Q_attributeName_2_sss Z t aM bM kM kc s0 s1 s2 h0 n0) := by
  refine own_body (own := "com/example/boxwood/boxwood/XmlNodeTable") rfl (plainFor_of_name pn_14) (fun m => ef_attributeName_0_sss m t (2 : Int32)) ?_
  intro p e s m below meth c s₁ Bd hml hZ hh hx hby hown X0 e0
  have N0 := Fr.nil n0
  have lt3 : h0.size > t := F_attributeNames_t.lt
  have lt4 : h0.size > aM := V_aM.lt
  have lt5 : h0.size > bM := V_bM.lt
  refine own_aloadN X0.here hx hby d14_0 rfl rfl ?_
  refine own_getF X0 hx hZ hown (host := "") (Or.inl (own_w hw 47 rfl)) Via.refl e0 F_attributeNames_t hby d14_1 ?_
  intro T6 X6 e6
  refine own_iloadN X6.here hx hby d14_4 rfl ?_
  refine own_bipush X6.here hx hby d14_5 (v := (12 : Int32)) (by decide) ?_
  refine own_iushr X6.here hx hby d14_7 (v := (0 : Int32)) (by decide) ?_
  refine own_aaload X6 hx hZ e6 V_aM rfl ⟨by decide, by decide⟩ (v := (.ref bM)) rfl hby d14_8 ?_
  refine own_iloadN X6.here hx hby d14_9 rfl ?_
  refine own_sipush X6.here hx hby d14_10 (v := (4095 : Int32)) (by decide) ?_
  refine own_iand X6.here hx hby d14_13 (v := (2 : Int32)) (by decide) ?_
  refine own_aaload X6 hx hZ e6 V_bM rfl ⟨by decide, by decide⟩ (v := (.ref s2)) rfl hby d14_14 ?_
  obtain ⟨fs, hr, hrun, hended, hW, hsame⟩ := X6.leave (v := some (.ref s2)) (fun h => by rw [Bd.returns] at h; cases h)
  refine own_ret (t := T6.setFrames fs) ?_ ⟨_, hrun, hended, _, _, rfl, ?_, ⟨_, rfl⟩, hW, hsame.mono (by decide) (by decide)⟩
  · exact retOut X6 hx Bd.returns rfl (Or.inr (Or.inr (Or.inr (Or.inr ⟨rfl, rfl, rfl⟩)))) (hb hby d14_15) hr
  · show Q_attributeName_2_sss Z t aM bM kM kc s0 s1 s2 h0 n0 _ T6.heap _
    rw [e6]
    exact ⟨rfl, N0, rfl⟩
def Q_attributeName_0_sns (Z : State) (t : Nat) (aM : Nat) (bM : Nat) (kM : ClassId) (kc : ClassId) (s0 : Nat) (s2 : Nat) (h0 : Heap) (n0 : Nat) (vR : Option Value) (hR : Heap) (LR : List Loc) : Prop := vR = some (.ref s0) ∧ Fr n0 LR ∧ hR = h0
set_option maxRecDepth 65536 in
set_option maxHeartbeats 40000000 in
theorem attributeName_0_sns (l : Launch) (Z : State) (a0 : Array Value) (hw : ∀ d ∈ tables_1, d.before a0 Z = true) (ws : List Jvm.Cond) (t : Nat) (aM : Nat) (bM : Nat) (kM : ClassId) (kc : ClassId) (s0 : Nat) (s2 : Nat) (h0 : Heap) (n0 : Nat) (Z0 : n0 ≤ h0.size) (F_attributeNames_t : Fld Z h0 t "com/example/boxwood/boxwood/XmlNodeTable" "attributeNames" "[[Ljava/lang/String;" (.ref aM)) (V_aM : Arv Z h0 aM kM (.array (.object "java/lang/String")) (1 : Int32) [(.ref bM)] .null) (V_bM : Arv Z h0 bM kc (.object "java/lang/String") (4096 : Int32) [(.ref s0), .null, (.ref s2)] .null) :
    own_M l (⟨"com/example/boxwood/boxwood/XmlNodeTable", "attributeName", "(I)Ljava/lang/String;"⟩ : MethodName) prog_60_method_22_code 2 (some (.object "java/lang/String")) ws ({ frames := 0, cells := 0, slots := 0, locals := 0 } : Room) Z #[(.ref t), (.int 0)] h0 (Q_attributeName_0_sns Z t aM bM kM kc s0 s2 h0 n0) := by
  refine own_body (own := "com/example/boxwood/boxwood/XmlNodeTable") rfl (plainFor_of_name pn_14) (fun m => ef_attributeName_0_sss m t (0 : Int32)) ?_
  intro p e s m below meth c s₁ Bd hml hZ hh hx hby hown X0 e0
  have N0 := Fr.nil n0
  have lt1 : h0.size > t := F_attributeNames_t.lt
  have lt3 : h0.size > aM := V_aM.lt
  have lt4 : h0.size > bM := V_bM.lt
  refine own_aloadN X0.here hx hby d14_0 rfl rfl ?_
  refine own_getF X0 hx hZ hown (host := "") (Or.inl (own_w hw 47 rfl)) Via.refl e0 F_attributeNames_t hby d14_1 ?_
  intro T5 X5 e5
  refine own_iloadN X5.here hx hby d14_4 rfl ?_
  refine own_bipush X5.here hx hby d14_5 (v := (12 : Int32)) (by decide) ?_
  refine own_iushr X5.here hx hby d14_7 (v := (0 : Int32)) (by decide) ?_
  refine own_aaload X5 hx hZ e5 V_aM rfl ⟨by decide, by decide⟩ (v := (.ref bM)) rfl hby d14_8 ?_
  refine own_iloadN X5.here hx hby d14_9 rfl ?_
  refine own_sipush X5.here hx hby d14_10 (v := (4095 : Int32)) (by decide) ?_
  refine own_iand X5.here hx hby d14_13 (v := (0 : Int32)) (by decide) ?_
  refine own_aaload X5 hx hZ e5 V_bM rfl ⟨by decide, by decide⟩ (v := (.ref s0)) rfl hby d14_14 ?_
  obtain ⟨fs, hr, hrun, hended, hW, hsame⟩ := X5.leave (v := some (.ref s0)) (fun h => by rw [Bd.returns] at h; cases h)
  refine own_ret (t := T5.setFrames fs) ?_ ⟨_, hrun, hended, _, _, rfl, ?_, ⟨_, rfl⟩, hW, hsame.mono (by decide) (by decide)⟩
  · exact retOut X5 hx Bd.returns rfl (Or.inr (Or.inr (Or.inr (Or.inr ⟨rfl, rfl, rfl⟩)))) (hb hby d14_15) hr
  · show Q_attributeName_0_sns Z t aM bM kM kc s0 s2 h0 n0 _ T5.heap _
    rw [e5]
    exact ⟨rfl, N0, rfl⟩
def Q_attributeName_1_sns (Z : State) (t : Nat) (aM : Nat) (bM : Nat) (kM : ClassId) (kc : ClassId) (s0 : Nat) (s2 : Nat) (h0 : Heap) (n0 : Nat) (vR : Option Value) (hR : Heap) (LR : List Loc) : Prop := vR = some .null ∧ Fr n0 LR ∧ hR = h0
set_option maxRecDepth 65536 in
set_option maxHeartbeats 40000000 in
theorem attributeName_1_sns (l : Launch) (Z : State) (a0 : Array Value) (hw : ∀ d ∈ tables_1, d.before a0 Z = true) (ws : List Jvm.Cond) (t : Nat) (aM : Nat) (bM : Nat) (kM : ClassId) (kc : ClassId) (s0 : Nat) (s2 : Nat) (h0 : Heap) (n0 : Nat) (Z0 : n0 ≤ h0.size) (F_attributeNames_t : Fld Z h0 t "com/example/boxwood/boxwood/XmlNodeTable" "attributeNames" "[[Ljava/lang/String;" (.ref aM)) (V_aM : Arv Z h0 aM kM (.array (.object "java/lang/String")) (1 : Int32) [(.ref bM)] .null) (V_bM : Arv Z h0 bM kc (.object "java/lang/String") (4096 : Int32) [(.ref s0), .null, (.ref s2)] .null) :
    own_M l (⟨"com/example/boxwood/boxwood/XmlNodeTable", "attributeName", "(I)Ljava/lang/String;"⟩ : MethodName) prog_60_method_22_code 2 (some (.object "java/lang/String")) ws ({ frames := 0, cells := 0, slots := 0, locals := 0 } : Room) Z #[(.ref t), (.int 1)] h0 (Q_attributeName_1_sns Z t aM bM kM kc s0 s2 h0 n0) := by
  refine own_body (own := "com/example/boxwood/boxwood/XmlNodeTable") rfl (plainFor_of_name pn_14) (fun m => ef_attributeName_0_sss m t (1 : Int32)) ?_
  intro p e s m below meth c s₁ Bd hml hZ hh hx hby hown X0 e0
  have N0 := Fr.nil n0
  have lt1 : h0.size > t := F_attributeNames_t.lt
  have lt3 : h0.size > aM := V_aM.lt
  have lt4 : h0.size > bM := V_bM.lt
  refine own_aloadN X0.here hx hby d14_0 rfl rfl ?_
  refine own_getF X0 hx hZ hown (host := "") (Or.inl (own_w hw 47 rfl)) Via.refl e0 F_attributeNames_t hby d14_1 ?_
  intro T5 X5 e5
  refine own_iloadN X5.here hx hby d14_4 rfl ?_
  refine own_bipush X5.here hx hby d14_5 (v := (12 : Int32)) (by decide) ?_
  refine own_iushr X5.here hx hby d14_7 (v := (0 : Int32)) (by decide) ?_
  refine own_aaload X5 hx hZ e5 V_aM rfl ⟨by decide, by decide⟩ (v := (.ref bM)) rfl hby d14_8 ?_
  refine own_iloadN X5.here hx hby d14_9 rfl ?_
  refine own_sipush X5.here hx hby d14_10 (v := (4095 : Int32)) (by decide) ?_
  refine own_iand X5.here hx hby d14_13 (v := (1 : Int32)) (by decide) ?_
  refine own_aaload X5 hx hZ e5 V_bM rfl ⟨by decide, by decide⟩ (v := .null) rfl hby d14_14 ?_
  obtain ⟨fs, hr, hrun, hended, hW, hsame⟩ := X5.leave (v := some .null) (fun h => by rw [Bd.returns] at h; cases h)
  refine own_ret (t := T5.setFrames fs) ?_ ⟨_, hrun, hended, _, _, rfl, ?_, ⟨_, rfl⟩, hW, hsame.mono (by decide) (by decide)⟩
  · exact retOut X5 hx Bd.returns rfl (Or.inr (Or.inr (Or.inr (Or.inr ⟨rfl, rfl, rfl⟩)))) (hb hby d14_15) hr
  · show Q_attributeName_1_sns Z t aM bM kM kc s0 s2 h0 n0 _ T5.heap _
    rw [e5]
    exact ⟨rfl, N0, rfl⟩
def Q_attributeName_2_sns (Z : State) (t : Nat) (aM : Nat) (bM : Nat) (kM : ClassId) (kc : ClassId) (s0 : Nat) (s2 : Nat) (h0 : Heap) (n0 : Nat) (vR : Option Value) (hR : Heap) (LR : List Loc) : Prop := vR = some (.ref s2) ∧ Fr n0 LR ∧ hR = h0
set_option maxRecDepth 65536 in
set_option maxHeartbeats 40000000 in
theorem attributeName_2_sns (l : Launch) (Z : State) (a0 : Array Value) (hw : ∀ d ∈ tables_1, d.before a0 Z = true) (ws : List Jvm.Cond) (t : Nat) (aM : Nat) (bM : Nat) (kM : ClassId) (kc : ClassId) (s0 : Nat) (s2 : Nat) (h0 : Heap) (n0 : Nat) (Z0 : n0 ≤ h0.size) (F_attributeNames_t : Fld Z h0 t "com/example/boxwood/boxwood/XmlNodeTable" "attributeNames" "[[Ljava/lang/String;" (.ref aM)) (V_aM : Arv Z h0 aM kM (.array (.object "java/lang/String")) (1 : Int32) [(.ref bM)] .null) (V_bM : Arv Z h0 bM kc (.object "java/lang/String") (4096 : Int32) [(.ref s0), .null, (.ref s2)] .null) :
    own_M l (⟨"com/example/boxwood/boxwood/XmlNodeTable", "attributeName", "(I)Ljava/lang/String;"⟩ : MethodName) prog_60_method_22_code 2 (some (.object "java/lang/String")) ws ({ frames := 0, cells := 0, slots := 0, locals := 0 } : Room) Z #[(.ref t), (.int 2)] h0 (Q_attributeName_2_sns Z t aM bM kM kc s0 s2 h0 n0) := by
  refine own_body (own := "com/example/boxwood/boxwood/XmlNodeTable") rfl (plainFor_of_name pn_14) (fun m => ef_attributeName_0_sss m t (2 : Int32)) ?_
  intro p e s m below meth c s₁ Bd hml hZ hh hx hby hown X0 e0
  have N0 := Fr.nil n0
  have lt1 : h0.size > t := F_attributeNames_t.lt
  have lt3 : h0.size > aM := V_aM.lt
  have lt4 : h0.size > bM := V_bM.lt
  refine own_aloadN X0.here hx hby d14_0 rfl rfl ?_
  refine own_getF X0 hx hZ hown (host := "") (Or.inl (own_w hw 47 rfl)) Via.refl e0 F_attributeNames_t hby d14_1 ?_
  intro T5 X5 e5
  refine own_iloadN X5.here hx hby d14_4 rfl ?_
  refine own_bipush X5.here hx hby d14_5 (v := (12 : Int32)) (by decide) ?_
  refine own_iushr X5.here hx hby d14_7 (v := (0 : Int32)) (by decide) ?_
  refine own_aaload X5 hx hZ e5 V_aM rfl ⟨by decide, by decide⟩ (v := (.ref bM)) rfl hby d14_8 ?_
  refine own_iloadN X5.here hx hby d14_9 rfl ?_
  refine own_sipush X5.here hx hby d14_10 (v := (4095 : Int32)) (by decide) ?_
  refine own_iand X5.here hx hby d14_13 (v := (2 : Int32)) (by decide) ?_
  refine own_aaload X5 hx hZ e5 V_bM rfl ⟨by decide, by decide⟩ (v := (.ref s2)) rfl hby d14_14 ?_
  obtain ⟨fs, hr, hrun, hended, hW, hsame⟩ := X5.leave (v := some (.ref s2)) (fun h => by rw [Bd.returns] at h; cases h)
  refine own_ret (t := T5.setFrames fs) ?_ ⟨_, hrun, hended, _, _, rfl, ?_, ⟨_, rfl⟩, hW, hsame.mono (by decide) (by decide)⟩
  · exact retOut X5 hx Bd.returns rfl (Or.inr (Or.inr (Or.inr (Or.inr ⟨rfl, rfl, rfl⟩)))) (hb hby d14_15) hr
  · show Q_attributeName_2_sns Z t aM bM kM kc s0 s2 h0 n0 _ T5.heap _
    rw [e5]
    exact ⟨rfl, N0, rfl⟩
theorem ef_rm0 (m : MethodId) (x0 : Int32) (x1 : Int32) (x2 : Int32) (x3 : Int32) (x4 : Int32) (x5 : Int32) : entryFrame m #[(.int x0), (.int x1), (.int x2), (.int x3), (.int x4), (.int x5)] maxLocals = mkF m 0 #[.val (.int x0), .val (.int x1), .val (.int x2), .val (.int x3), .val (.int x4), .val (.int x5), .unset, .unset, .unset, .unset, .unset, .unset] [] := by first | (simp [entryFrame, mkF, argsToLocals, Value.category, maxLocals]; done) | rfl
theorem pn_0 : plainName "com/example/boxwood/boxwood/XmlNodeTableAttributeNamePinLaw" = true := by first | (simp [plainName, overriddenIn]; done) | decide +kernel
theorem pd_6 : parseMethodDescriptor "([C)V" = some ⟨[(.array .char)], none⟩ := by decide +kernel
theorem pd_7 : parseMethodDescriptor "(C)Ljava/lang/String;" = some ⟨[.char], some (.object "java/lang/String")⟩ := by decide +kernel
theorem pd_8 : parseMethodDescriptor "([B)V" = some ⟨[(.array .byte)], none⟩ := by decide +kernel
theorem pd_9 : parseMethodDescriptor "(Ljava/lang/String;II)V" = some ⟨[(.object "java/lang/String"), .int, .int], none⟩ := by decide +kernel
theorem pd_10 : parseMethodDescriptor "(Ljava/lang/String;Lcom/example/boxwood/boxwood/XmlValue;)V" = some ⟨[(.object "java/lang/String"), (.object "com/example/boxwood/boxwood/XmlValue")], none⟩ := by decide +kernel
theorem pd_11 : parseMethodDescriptor "(I)Ljava/lang/String;" = some ⟨[.int], some (.object "java/lang/String")⟩ := by decide +kernel
theorem pd_12 : parseMethodDescriptor "(Ljava/lang/String;II)I" = some ⟨[(.object "java/lang/String"), .int, .int], some .int⟩ := by decide +kernel
def Q_rm0 (Z : State) (p1 : Int32) (p2 : Int32) (p3 : Int32) (p4 : Int32) (p5 : Int32) (p6 : Int32) (zc : Int32) (h0 : Heap) (n0 : Nat) (vR : Option Value) (hR : Heap) (LR : List Loc) : Prop := vR = some (.int 1) ∧ Fr n0 LR ∧ True
set_option maxRecDepth 65536 in
set_option maxHeartbeats 40000000 in
theorem rm0 (l : Launch) (Z : State) (a0 : Array Value) (hw : ∀ d ∈ tables_1, d.before a0 Z = true) (ws : List Jvm.Cond) (p1 : Int32) (p2 : Int32) (p3 : Int32) (p4 : Int32) (p5 : Int32) (p6 : Int32) (zc : Int32) (h0 : Heap) (n0 : Nat) (Z0 : n0 ≤ h0.size) (S_COMPACT : Sta Z h0 "java/lang/String" "COMPACT_STRINGS" "Z" (.int zc)) (hz : ¬ (zc = (0 : Int32))) :
    own_M l x code maxLocals ret ws room_1 Z #[(.int p1), (.int p2), (.int p3), (.int p4), (.int p5), (.int p6)] h0 (Q_rm0 Z p1 p2 p3 p4 p5 p6 zc h0 n0) := by
  refine own_body (own := "com/example/boxwood/boxwood/XmlNodeTableAttributeNamePinLaw") rfl (plainFor_of_name pn_0) (fun m => ef_rm0 m p1 p2 p3 p4 p5 p6) ?_
  intro p e s m below meth c s₁ Bd hml hZ hh hx hby hown X0 e0
  have N0 := Fr.nil n0
  refine own_iconst X0.here hx hby at_0 (v := (2 : Int32)) (by decide) ?_
  refine own_newP X0 hx hZ (aty := .char) (own_w hw 0 rfl) e0 hby at_1 (by decide) 2 (by decide) (by decide) (by decide) (by decide) (ad := "[C") (by decide) ?_
  intro T7 h7 k7 b7 X7 e7 E7 g7 V7 C7 lt7
  have z8 : h0.size ≤ h7.size := E7.1
  have V9 : Arv Z h7 b7 k7 .char (2 : Int32) [(.int 0), (.int 0)] (.int 0) := V7.pad (pad_rep [] (.int 0) 2)
  refine own_astore X7.here hx hby at_3 rfl (l' := #[.val (.int p1), .val (.int p2), .val (.int p3), .val (.int p4), .val (.int p5), .val (.int p6), .val (.ref b7), .unset, .unset, .unset, .unset, .unset]) rfl ?_
  refine own_aload X7.here hx hby at_5 rfl rfl ?_
  refine own_iconst X7.here hx hby at_7 (v := (0 : Int32)) (by decide) ?_
  refine own_iloadN X7.here hx hby at_8 rfl ?_
  refine own_sipush X7.here hx hby at_9 (v := (255 : Int32)) (by decide) ?_
  refine own_iand X7.here hx hby at_12 rfl ?_
  refine own_i2c X7.here hx hby at_13 rfl ?_
  refine own_castore X7 hx hZ e7 V9 ⟨by decide, by decide⟩ 0 (by decide) (Nat.le_of_ble_eq_true rfl) (w := (.int (p1 &&& (255 : Int32)))) (congrArg Value.int (own_narc p1)) hby at_14 N0 (by omega) ?_
  intro T10 h10 lo10 X10 e10 N10 W10 V10 z10
  have V11 : Arv Z h10 b7 k7 .char (2 : Int32) [(.int (p1 &&& (255 : Int32))), (.int 0)] (.int 0) := V10
  refine own_aload X10.here hx hby at_15 rfl rfl ?_
  refine own_iconst X10.here hx hby at_17 (v := (1 : Int32)) (by decide) ?_
  refine own_iloadN X10.here hx hby at_18 rfl ?_
  refine own_bipush X10.here hx hby at_19 (v := (8 : Int32)) (by decide) ?_
  refine own_iushr X10.here hx hby at_21 rfl ?_
  refine own_sipush X10.here hx hby at_22 (v := (255 : Int32)) (by decide) ?_
  refine own_iand X10.here hx hby at_25 rfl ?_
  refine own_i2c X10.here hx hby at_26 rfl ?_
  refine own_castore X10 hx hZ e10 V11 ⟨by decide, by decide⟩ 1 (by decide) (Nat.le_of_ble_eq_true rfl) (w := (.int (((p1.toUInt32 >>> ((8 : Int32) &&& 31).toUInt32).toInt32) &&& (255 : Int32)))) (congrArg Value.int (own_narc ((p1.toUInt32 >>> ((8 : Int32) &&& 31).toUInt32).toInt32))) hby at_27 N10 (by omega) ?_
  intro T12 h12 lo12 X12 e12 N12 W12 V12 z12
  have V13 : Arv Z h12 b7 k7 .char (2 : Int32) [(.int (p1 &&& (255 : Int32))), (.int (((p1.toUInt32 >>> ((8 : Int32) &&& 31).toUInt32).toInt32) &&& (255 : Int32)))] (.int 0) := V12
  refine own_newO X12 hx hZ hown (own_w hw 1 rfl) (own_w hw 2 rfl) (own_w hw 3 rfl) e12 hby at_28 (by decide) (by decide) ?_
  intro T14 h14 b14 X14 e14 E14 g14 A14 D14 lt14
  have z15 : h12.size ≤ h14.size := E14.1
  have F16 : Fld Z h14 b14 "java/lang/String" "coder" "B" (.int 0) := D14 (Or.inr (own_w hw 27 rfl)) (ty := .byte) (by decide)
  have F17 : Fld Z h14 b14 "java/lang/String" "value" "[B" .null := D14 (Or.inr (own_w hw 29 rfl)) (ty := (.array .byte)) (by decide)
  refine own_dup X14.here hx hby at_31 rfl ?_
  refine own_aload X14.here hx hby at_32 rfl rfl ?_
  have f18 : Arv Z h14 b7 k7 .char (2 : Int32) [(.int (p1 &&& (255 : Int32))), (.int (((p1.toUInt32 >>> ((8 : Int32) &&& 31).toUInt32).toInt32) &&& (255 : Int32)))] (.int 0) := (V13.ext E14)
  have f19 : Sta Z h14 "java/lang/String" "COMPACT_STRINGS" "Z" (.int zc) := ((((S_COMPACT.ext E7).wr W10).wr W12).ext E14)
  have z21 : n0 ≤ h14.size := by omega
  have hws_words : ∀ d ∈ StrChars.Road.words, d.before a0 Z = true := fun d hd => hw d ((by decide +kernel : ∀ d ∈ StrChars.Road.words, d ∈ tables_1) d hd)
  refine own_specialB X14 hx hZ rfl hown (own_w hw 4 rfl) (own_w hw 5 rfl) (own_w hw 6 rfl) (by decide) (StrChars.Road.backV (W := 1) hZ hws_words (kI := 4) (own_w hw 2 rfl) (cs := ([(p1 &&& (255 : Int32)), (((p1.toUInt32 >>> ((8 : Int32) &&& 31).toUInt32).toInt32) &&& (255 : Int32))] : List Int32)) (bs := ([(p1 &&& (255 : Int32)), (((p1.toUInt32 >>> ((8 : Int32) &&& 31).toUInt32).toInt32) &&& (255 : Int32))] : List Int32).map (fun c => c.toInt8.toInt32)) (n := 2) (by omega) z21 A14 F17 F16 f18 f19 hz rfl rfl (by decide) (by decide) (own_lS (own_c255 p1) (own_lS (own_c255 ((p1.toUInt32 >>> ((8 : Int32) &&& 31).toUInt32).toInt32)) own_l0)) rfl (by decide) (by decide)) (Nat.le_of_eq rfl) (by rw [hml]; rfl) (argsL := [(.ref b7)]) (st := [(.ref b14)]) (a := b14) (lenOf pd_6 rfl) rfl rfl (by decide) (by decide) e14 hby at_34 ?_
  intro T20 v20 L20 X20 hQ20
  obtain ⟨rfl, Nq20, K20, P20_0, P20_1, t_20, kb_20, P20_2, P20_3, P20_4, P20_5, P20_6⟩ := hQ20
  have N20 := Fr.app N12 Nq20
  have z22 : h14.size ≤ T20.heap.size := K20.1
  have lt23 : T20.heap.size > b14 := P20_0.lt
  have lt24 : T20.heap.size > t_20 := P20_6.lt
  refine own_sh (T := T20) 37 #[.val (.int p1), .val (.int p2), .val (.int p3), .val (.int p4), .val (.int p5), .val (.int p6), .val (.ref b7), .unset, .unset, .unset, .unset, .unset] [(.ref b14)] ?_
  refine own_astore X20.here hx hby at_37 rfl (l' := #[.val (.int p1), .val (.int p2), .val (.int p3), .val (.int p4), .val (.int p5), .val (.int p6), .val (.ref b7), .val (.ref b14), .unset, .unset, .unset, .unset]) rfl ?_
  refine own_iload X20.here hx hby at_39 rfl ?_
  refine own_iconst X20.here hx hby at_41 (v := (1 : Int32)) (by decide) ?_
  refine own_iand X20.here hx hby at_42 rfl ?_
  by_cases hc43_25 : (p6 &&& (1 : Int32)) = (0 : Int32)
  · refine own_ifYes X20.here hx hby (pc' := 50) at_43 ((if0 _ _).trans (teq hc43_25).1) (by decide) (by decide) ?_
    refine own_iloadN X20.here hx hby at_50 rfl ?_
    refine own_sipush X20.here hx hby at_51 (v := (255 : Int32)) (by decide) ?_
    refine own_iand X20.here hx hby at_54 rfl ?_
    refine own_i2c X20.here hx hby at_55 rfl ?_
    refine own_sh (T := T20) 56 #[.val (.int p1), .val (.int p2), .val (.int p3), .val (.int p4), .val (.int p5), .val (.int p6), .val (.ref b7), .val (.ref b14), .unset, .unset, .unset, .unset] [(.int ((p2 &&& (255 : Int32)).toUInt32.toUInt16.toUInt32.toInt32))] ?_
    rw [show ((p2 &&& (255 : Int32)).toUInt32.toUInt16.toUInt32.toInt32) = (p2 &&& (255 : Int32)) from (i2c_mask p2)]
    have f26 : Sta Z T20.heap "java/lang/String" "COMPACT_STRINGS" "Z" (.int zc) := (own_sta_keep f19 K20 (allS (own_exa_plain A14) all0))
    have z28 : n0 ≤ T20.heap.size := by omega
    refine own_callS X20 hx hZ hown (own_w hw 99 rfl) (own_w hw 100 rfl) (own_w hw 3 rfl) (own_w hw 101 rfl) (by decide) (valOf l Z a0 hw [] (p2 &&& (255 : Int32)) zc T20.heap n0 z28 f26 hz (own_c255 p2).2) 0 (Nat.le_of_eq rfl) (by decide) (by decide) (by rw [hml]; rfl) (argsL := [(.int (p2 &&& (255 : Int32)))]) (st := []) (lenOf pd_7 rfl) rfl rfl (by decide) (by decide) rfl hby at_56 ?_
    intro T27 v27 L27 X27 hQ27
    obtain ⟨x_27, t_27, kb_27, rfl, Nq27, K27, P27_0, P27_1, P27_2, P27_3, P27_4, P27_5, P27_6⟩ := hQ27
    have N27 := Fr.app N20 Nq27
    have z29 : T20.heap.size ≤ T27.heap.size := K27.1
    have lt30 : T27.heap.size > x_27 := P27_3.lt
    have lt31 : T27.heap.size > t_27 := P27_6.lt
    refine own_sh (T := T27) 59 #[.val (.int p1), .val (.int p2), .val (.int p3), .val (.int p4), .val (.int p5), .val (.int p6), .val (.ref b7), .val (.ref b14), .unset, .unset, .unset, .unset] [(.ref x_27)] ?_
    refine own_astore X27.here hx hby at_59 rfl (l' := #[.val (.int p1), .val (.int p2), .val (.int p3), .val (.int p4), .val (.int p5), .val (.int p6), .val (.ref b7), .val (.ref b14), .val (.ref x_27), .unset, .unset, .unset]) rfl ?_
    refine own_iconst X27.here hx hby at_61 (v := (1 : Int32)) (by decide) ?_
    refine own_newP X27 hx hZ (aty := .char) (own_w hw 0 rfl) rfl hby at_62 (by decide) 1 (by decide) (by decide) (by decide) (by decide) (ad := "[C") (by decide) ?_
    intro T32 h32 k32 b32 X32 e32 E32 g32 V32 C32 lt32
    have z33 : T27.heap.size ≤ h32.size := E32.1
    have V34 : Arv Z h32 b32 k32 .char (1 : Int32) [(.int 0)] (.int 0) := V32.pad (pad_rep [] (.int 0) 1)
    refine own_astore X32.here hx hby at_64 rfl (l' := #[.val (.int p1), .val (.int p2), .val (.int p3), .val (.int p4), .val (.int p5), .val (.int p6), .val (.ref b7), .val (.ref b14), .val (.ref x_27), .val (.ref b32), .unset, .unset]) rfl ?_
    refine own_aload X32.here hx hby at_66 rfl rfl ?_
    refine own_iconst X32.here hx hby at_68 (v := (0 : Int32)) (by decide) ?_
    refine own_iloadN X32.here hx hby at_69 rfl ?_
    refine own_sipush X32.here hx hby at_70 (v := (255 : Int32)) (by decide) ?_
    refine own_iand X32.here hx hby at_73 rfl ?_
    refine own_i2c X32.here hx hby at_74 rfl ?_
    refine own_castore X32 hx hZ e32 V34 ⟨by decide, by decide⟩ 0 (by decide) (Nat.le_of_ble_eq_true rfl) (w := (.int (p3 &&& (255 : Int32)))) (congrArg Value.int (own_narc p3)) hby at_75 N27 (by omega) ?_
    intro T35 h35 lo35 X35 e35 N35 W35 V35 z35
    have V36 : Arv Z h35 b32 k32 .char (1 : Int32) [(.int (p3 &&& (255 : Int32)))] (.int 0) := V35
    refine own_newO X35 hx hZ hown (own_w hw 1 rfl) (own_w hw 2 rfl) (own_w hw 3 rfl) e35 hby at_76 (by decide) (by decide) ?_
    intro T37 h37 b37 X37 e37 E37 g37 A37 D37 lt37
    have z38 : h35.size ≤ h37.size := E37.1
    have F39 : Fld Z h37 b37 "java/lang/String" "coder" "B" (.int 0) := D37 (Or.inr (own_w hw 27 rfl)) (ty := .byte) (by decide)
    have F40 : Fld Z h37 b37 "java/lang/String" "value" "[B" .null := D37 (Or.inr (own_w hw 29 rfl)) (ty := (.array .byte)) (by decide)
    refine own_dup X37.here hx hby at_79 rfl ?_
    refine own_aload X37.here hx hby at_80 rfl rfl ?_
    have f41 : Arv Z h37 b32 k32 .char (1 : Int32) [(.int (p3 &&& (255 : Int32)))] (.int 0) := (V36.ext E37)
    have f42 : Sta Z h37 "java/lang/String" "COMPACT_STRINGS" "Z" (.int zc) := ((((own_sta_keep f26 K27 all0).ext E32).wr W35).ext E37)
    have z44 : n0 ≤ h37.size := by omega
    refine own_specialB X37 hx hZ rfl hown (own_w hw 4 rfl) (own_w hw 5 rfl) (own_w hw 6 rfl) (by decide) (StrChars.Road.backV (W := 1) hZ hws_words (kI := 4) (own_w hw 2 rfl) (cs := ([(p3 &&& (255 : Int32))] : List Int32)) (bs := ([(p3 &&& (255 : Int32))] : List Int32).map (fun c => c.toInt8.toInt32)) (n := 1) (by omega) z44 A37 F40 F39 f41 f42 hz rfl rfl (by decide) (by decide) (own_lS (own_c255 p3) own_l0) rfl (by decide) (by decide)) (Nat.le_of_eq rfl) (by rw [hml]; rfl) (argsL := [(.ref b32)]) (st := [(.ref b37)]) (a := b37) (lenOf pd_6 rfl) rfl rfl (by decide) (by decide) e37 hby at_82 ?_
    intro T43 v43 L43 X43 hQ43
    obtain ⟨rfl, Nq43, K43, P43_0, P43_1, t_43, kb_43, P43_2, P43_3, P43_4, P43_5, P43_6⟩ := hQ43
    have N43 := Fr.app N35 Nq43
    have z45 : h37.size ≤ T43.heap.size := K43.1
    have lt46 : T43.heap.size > b37 := P43_0.lt
    have lt47 : T43.heap.size > t_43 := P43_6.lt
    refine own_sh (T := T43) 85 #[.val (.int p1), .val (.int p2), .val (.int p3), .val (.int p4), .val (.int p5), .val (.int p6), .val (.ref b7), .val (.ref b14), .val (.ref x_27), .val (.ref b32), .unset, .unset] [(.ref b37)] ?_
    refine own_astore X43.here hx hby at_85 rfl (l' := #[.val (.int p1), .val (.int p2), .val (.int p3), .val (.int p4), .val (.int p5), .val (.int p6), .val (.ref b7), .val (.ref b14), .val (.ref x_27), .val (.ref b32), .val (.ref b37), .unset]) rfl ?_
    refine own_newO X43 hx hZ hown (own_w hw 30 rfl) (own_w hw 31 rfl) (own_w hw 32 rfl) rfl hby at_87 (by decide) (by decide) ?_
    intro T48 h48 b48 X48 e48 E48 g48 A48 D48 lt48
    have z49 : T43.heap.size ≤ h48.size := E48.1
    have F50 : Fld Z h48 b48 "com/example/boxwood/boxwood/XmlNodeTable" "numbers" "[[I" .null := D48 (Or.inl (own_w hw 40 rfl)) (ty := (.array (.array .int))) (by decide)
    have F51 : Fld Z h48 b48 "com/example/boxwood/boxwood/XmlNodeTable" "strings" "[[Ljava/lang/String;" .null := D48 (Or.inl (own_w hw 44 rfl)) (ty := (.array (.array (.object "java/lang/String")))) (by decide)
    have F52 : Fld Z h48 b48 "com/example/boxwood/boxwood/XmlNodeTable" "attributeNumbers" "[[I" .null := D48 (Or.inl (own_w hw 46 rfl)) (ty := (.array (.array .int))) (by decide)
    have F53 : Fld Z h48 b48 "com/example/boxwood/boxwood/XmlNodeTable" "attributeNames" "[[Ljava/lang/String;" .null := D48 (Or.inl (own_w hw 48 rfl)) (ty := (.array (.array (.object "java/lang/String")))) (by decide)
    have F54 : Fld Z h48 b48 "com/example/boxwood/boxwood/XmlNodeTable" "attributeValues" "[[Lcom/example/boxwood/boxwood/XmlValue;" .null := D48 (Or.inl (own_w hw 52 rfl)) (ty := (.array (.array (.object "com/example/boxwood/boxwood/XmlValue")))) (by decide)
    have F55 : Fld Z h48 b48 "com/example/boxwood/boxwood/XmlNodeTable" "content" "[B" .null := D48 (Or.inr (own_w hw 54 rfl)) (ty := (.array .byte)) (by decide)
    have F56 : Fld Z h48 b48 "com/example/boxwood/boxwood/XmlNodeTable" "size" "I" (.int 0) := D48 (Or.inl (own_w hw 65 rfl)) (ty := .int) (by decide)
    have F57 : Fld Z h48 b48 "com/example/boxwood/boxwood/XmlNodeTable" "attributeCount" "I" (.int 0) := D48 (Or.inl (own_w hw 72 rfl)) (ty := .int) (by decide)
    refine own_dup X48.here hx hby at_90 rfl ?_
    refine own_iconst X48.here hx hby at_91 (v := (0 : Int32)) (by decide) ?_
    refine own_newP X48 hx hZ (aty := .byte) (own_w hw 19 rfl) e48 hby at_92 (by decide) 0 (by decide) (by decide) (by decide) (by decide) (ad := "[B") (by decide) ?_
    intro T58 h58 k58 b58 X58 e58 E58 g58 V58 C58 lt58
    have z59 : h48.size ≤ h58.size := E58.1
    have V60 : Arv Z h58 b58 k58 .byte (0 : Int32) [] (.int 0) := V58
    have f61 : Exa Z h58 b48 "com/example/boxwood/boxwood/XmlNodeTable" := (A48.ext E58)
    have f62 : Fld Z h58 b48 "com/example/boxwood/boxwood/XmlNodeTable" "content" "[B" .null := (F55.ext E58)
    have f63 : Fld Z h58 b48 "com/example/boxwood/boxwood/XmlNodeTable" "numbers" "[[I" .null := (F50.ext E58)
    have f64 : Fld Z h58 b48 "com/example/boxwood/boxwood/XmlNodeTable" "strings" "[[Ljava/lang/String;" .null := (F51.ext E58)
    have f65 : Fld Z h58 b48 "com/example/boxwood/boxwood/XmlNodeTable" "attributeNumbers" "[[I" .null := (F52.ext E58)
    have f66 : Fld Z h58 b48 "com/example/boxwood/boxwood/XmlNodeTable" "attributeNames" "[[Ljava/lang/String;" .null := (F53.ext E58)
    have f67 : Fld Z h58 b48 "com/example/boxwood/boxwood/XmlNodeTable" "attributeValues" "[[Lcom/example/boxwood/boxwood/XmlValue;" .null := (F54.ext E58)
    have f68 : Fld Z h58 b48 "com/example/boxwood/boxwood/XmlNodeTable" "size" "I" (.int 0) := (F56.ext E58)
    have f69 : Fld Z h58 b48 "com/example/boxwood/boxwood/XmlNodeTable" "attributeCount" "I" (.int 0) := (F57.ext E58)
    have z71 : n0 ≤ h58.size := by omega
    refine own_special X58 hx hZ rfl hown (own_w hw 33 rfl) (own_w hw 34 rfl) (own_w hw 32 rfl) (own_w hw 35 rfl) (by decide) (tabInit l Z a0 hw [] b48 b58 h58 n0 z71 f61 f62 (by omega) f63 f64 f65 f66 f67 f68 f69) 1 (Nat.le_of_eq rfl) (by decide) (by decide) (by rw [hml]; rfl) (argsL := [(.ref b58)]) (st := [(.ref b48)]) (a := b48) (lenOf pd_8 rfl) rfl rfl (by decide) (by decide) e58 hby at_94 ?_
    intro T70 v70 L70 X70 hQ70
    obtain ⟨aN_70, kaN_70, aS_70, kaS_70, aA_70, kaA_70, aM_70, kaM_70, aW_70, kaW_70, rfl, Nq70, K70, P70_0, P70_1, P70_2, P70_3, P70_4, P70_5, P70_6, P70_7, P70_8, P70_9, P70_10, P70_11, P70_12, P70_13, P70_14, P70_15, P70_16, P70_17, P70_18, P70_19, P70_20, P70_21, P70_22, P70_23, P70_24, P70_25, P70_26⟩ := hQ70
    have N70 := Fr.app N43 Nq70
    have z72 : h58.size ≤ T70.heap.size := K70.1
    have lt73 : T70.heap.size > b48 := P70_0.lt
    have lt74 : T70.heap.size > aN_70 := P70_5.lt
    have lt75 : T70.heap.size > aS_70 := P70_9.lt
    have lt76 : T70.heap.size > aA_70 := P70_13.lt
    have lt77 : T70.heap.size > aM_70 := P70_17.lt
    have lt78 : T70.heap.size > aW_70 := P70_21.lt
    refine own_sh (T := T70) 97 #[.val (.int p1), .val (.int p2), .val (.int p3), .val (.int p4), .val (.int p5), .val (.int p6), .val (.ref b7), .val (.ref b14), .val (.ref x_27), .val (.ref b32), .val (.ref b37), .unset] [(.ref b48)] ?_
    refine own_astore X70.here hx hby at_97 rfl (l' := #[.val (.int p1), .val (.int p2), .val (.int p3), .val (.int p4), .val (.int p5), .val (.int p6), .val (.ref b7), .val (.ref b14), .val (.ref x_27), .val (.ref b32), .val (.ref b37), .val (.ref b48)]) rfl ?_
    refine own_iload X70.here hx hby at_99 rfl ?_
    refine own_iconst X70.here hx hby at_101 (v := (2 : Int32)) (by decide) ?_
    refine own_iand X70.here hx hby at_102 rfl ?_
    by_cases hc103_79 : (p6 &&& (2 : Int32)) = (0 : Int32)
    · refine own_ifYes X70.here hx hby (pc' := 117) at_103 ((if0 _ _).trans (teq hc103_79).1) (by decide) (by decide) ?_
      refine own_aload X70.here hx hby at_117 rfl rfl ?_
      refine own_aload X70.here hx hby at_119 rfl rfl ?_
      refine own_iloadN X70.here hx hby at_121 rfl ?_
      refine own_iload X70.here hx hby at_122 rfl ?_
      have f80 : Exa Z T70.heap b14 "java/lang/String" := ((((((((P20_0.keep K27).ext E32).wr W35).ext E37).keep K43).ext E48).ext E58).keep K70)
      have z82 : n0 ≤ T70.heap.size := by omega
      refine own_virtual X70 hx hZ hown (own_w hw 77 rfl) (own_w hw 78 rfl) (notFace_of_selects (args := #[]) (mvT hZ (own_w hw 80 rfl))) (own_w hw 80 rfl) (own_w hw 79 rfl) (own_w hw 32 rfl) (own_w hw 81 rfl) (by decide) (at3_0_ l Z a0 hw [] b48 b14 p4 p5 aA_70 kaA_70 aM_70 kaM_70 aW_70 kaW_70 T70.heap n0 z82 P70_0 P70_2 (by omega) f80 P70_12 P70_13 P70_14 (by omega) P70_16 P70_17 P70_18 (by omega) P70_20 P70_21 P70_22 (by omega)) 0 (Nat.le_of_eq rfl) (by decide) (by decide) (by rw [hml]; rfl) (argsL := [(.ref b14), (.int p4), (.int p5)]) (st := []) P70_0 (lenOf pd_9 rfl) rfl rfl (by decide) (by decide) rfl hby at_124 ?_
      intro T81 v81 L81 X81 hQ81
      obtain ⟨bA_81, kbA_81, bM_81, kbM_81, bW_81, kbW_81, rfl, Nq81, K81, P81_0, P81_1, P81_2, P81_3, P81_4, P81_5, P81_6, P81_7, P81_8, P81_9, P81_10, P81_11, P81_12, P81_13, P81_14, P81_15, P81_16, P81_17⟩ := hQ81
      have N81 := Fr.app N70 Nq81
      have z83 : T70.heap.size ≤ T81.heap.size := K81.1
      have lt84 : T81.heap.size > b48 := P81_0.lt
      have lt85 : T81.heap.size > aA_70 := P81_3.lt
      have lt86 : T81.heap.size > bA_81 := P81_4.lt
      have lt87 : T81.heap.size > aM_70 := P81_7.lt
      have lt88 : T81.heap.size > bM_81 := P81_8.lt
      have lt89 : T81.heap.size > aW_70 := P81_12.lt
      have lt90 : T81.heap.size > bW_81 := P81_13.lt
      refine own_sh (T := T81) 127 #[.val (.int p1), .val (.int p2), .val (.int p3), .val (.int p4), .val (.int p5), .val (.int p6), .val (.ref b7), .val (.ref b14), .val (.ref x_27), .val (.ref b32), .val (.ref b37), .val (.ref b48)] [] ?_
      refine own_aload X81.here hx hby at_127 rfl rfl ?_
      refine own_aload X81.here hx hby at_129 rfl rfl ?_
      refine own_aconstNull X81.here hx hby at_131 ?_
      refine own_castNull X81 hx hby at_132 ?_
      have f91 : Exa Z T81.heap x_27 "java/lang/String" := ((((((((P27_3.ext E32).wr W35).ext E37).keep K43).ext E48).ext E58).keep K70).keep K81)
      have z93 : n0 ≤ T81.heap.size := by omega
      refine own_virtual X81 hx hZ hown (own_w hw 89 rfl) (own_w hw 90 rfl) (notFace_of_selects (args := #[]) (mvT hZ (own_w hw 92 rfl))) (own_w hw 92 rfl) (own_w hw 91 rfl) (own_w hw 32 rfl) (own_w hw 93 rfl) (by decide) (at2_1_s l Z a0 hw [] b48 x_27 aA_70 kaA_70 bA_81 kbA_81 aM_70 kaM_70 bM_81 kbM_81 aW_70 kaW_70 bW_81 kbW_81 p4 p5 b14 T81.heap n0 z93 P81_0 P81_1 (by omega) f91 P81_2 P81_3 P81_4 (by omega) P81_6 P81_7 P81_8 (by omega) P81_10 P81_11 P81_12 P81_13 (by omega) P81_15) 0 (Nat.le_of_eq rfl) (by decide) (by decide) (by rw [hml]; rfl) (argsL := [(.ref x_27), .null]) (st := []) P81_0 (lenOf pd_10 rfl) rfl rfl (by decide) (by decide) rfl hby at_135 ?_
      intro T92 v92 L92 X92 hQ92
      obtain ⟨rfl, Nq92, K92, P92_0, P92_1, P92_2, P92_3, P92_4, P92_5, P92_6, P92_7, P92_8, P92_9, P92_10⟩ := hQ92
      have N92 := Fr.app N81 Nq92
      have z94 : T81.heap.size ≤ T92.heap.size := K92.1
      have lt95 : T92.heap.size > b48 := P92_0.lt
      have lt96 : T92.heap.size > aA_70 := P92_3.lt
      have lt97 : T92.heap.size > bA_81 := P92_4.lt
      have lt98 : T92.heap.size > aM_70 := P92_6.lt
      have lt99 : T92.heap.size > bM_81 := P92_7.lt
      have lt100 : T92.heap.size > aW_70 := P92_9.lt
      have lt101 : T92.heap.size > bW_81 := P92_10.lt
      refine own_sh (T := T92) 138 #[.val (.int p1), .val (.int p2), .val (.int p3), .val (.int p4), .val (.int p5), .val (.int p6), .val (.ref b7), .val (.ref b14), .val (.ref x_27), .val (.ref b32), .val (.ref b37), .val (.ref b48)] [] ?_
      refine own_aload X92.here hx hby at_138 rfl rfl ?_
      refine own_aload X92.here hx hby at_140 rfl rfl ?_
      refine own_iload X92.here hx hby at_142 rfl ?_
      refine own_iloadN X92.here hx hby at_144 rfl ?_
      have f102 : Exa Z T92.heap b37 "java/lang/String" := (((((P43_0.ext E48).ext E58).keep K70).keep K81).keep K92)
      have z104 : n0 ≤ T92.heap.size := by omega
      refine own_virtual X92 hx hZ hown (own_w hw 77 rfl) (own_w hw 78 rfl) (notFace_of_selects (args := #[]) (mvT hZ (own_w hw 80 rfl))) (own_w hw 80 rfl) (own_w hw 79 rfl) (own_w hw 32 rfl) (own_w hw 81 rfl) (by decide) (at3_2_ss l Z a0 hw [] b48 b37 p5 p4 aA_70 kaA_70 bA_81 kbA_81 aM_70 kaM_70 bM_81 kbM_81 aW_70 kaW_70 bW_81 kbW_81 p4 p5 (-1 : Int32) (-1 : Int32) b14 x_27 T92.heap n0 z104 P92_0 P92_1 (by omega) f102 P92_2 P92_3 P92_4 (by omega) P92_5 P92_6 P92_7 (by omega) P81_10 P92_8 P92_9 P92_10 (by omega) P81_15) 0 (Nat.le_of_eq rfl) (by decide) (by decide) (by rw [hml]; rfl) (argsL := [(.ref b37), (.int p5), (.int p4)]) (st := []) P92_0 (lenOf pd_9 rfl) rfl rfl (by decide) (by decide) rfl hby at_145 ?_
      intro T103 v103 L103 X103 hQ103
      obtain ⟨rfl, Nq103, K103, P103_0, P103_1, P103_2, P103_3, P103_4, P103_5, P103_6, P103_7, P103_8, P103_9, P103_10⟩ := hQ103
      have N103 := Fr.app N92 Nq103
      have z105 : T92.heap.size ≤ T103.heap.size := K103.1
      have lt106 : T103.heap.size > b48 := P103_0.lt
      have lt107 : T103.heap.size > aA_70 := P103_3.lt
      have lt108 : T103.heap.size > bA_81 := P103_4.lt
      have lt109 : T103.heap.size > aM_70 := P103_6.lt
      have lt110 : T103.heap.size > bM_81 := P103_7.lt
      have lt111 : T103.heap.size > aW_70 := P103_9.lt
      have lt112 : T103.heap.size > bW_81 := P103_10.lt
      refine own_sh (T := T103) 148 #[.val (.int p1), .val (.int p2), .val (.int p3), .val (.int p4), .val (.int p5), .val (.int p6), .val (.ref b7), .val (.ref b14), .val (.ref x_27), .val (.ref b32), .val (.ref b37), .val (.ref b48)] [] ?_
      refine own_aload X103.here hx hby at_148 rfl rfl ?_
      refine own_iconst X103.here hx hby at_150 (v := (0 : Int32)) (by decide) ?_
      have z114 : n0 ≤ T103.heap.size := by omega
      refine own_virtual X103 hx hZ hown (own_w hw 94 rfl) (own_w hw 95 rfl) (notFace_of_selects (args := #[]) (mvT hZ (own_w hw 97 rfl))) (own_w hw 97 rfl) (own_w hw 96 rfl) (own_w hw 32 rfl) (own_w hw 98 rfl) (by decide) (attributeName_0_sss l Z a0 hw [] b48 aM_70 bM_81 kaM_70 kbM_81 b14 x_27 b37 T103.heap n0 z114 P103_5 P103_6 P103_7) 0 (Nat.le_of_eq rfl) (by decide) (by decide) (by rw [hml]; rfl) (argsL := [(.int 0)]) (st := []) P103_0 (lenOf pd_11 rfl) rfl rfl (by decide) (by decide) rfl hby at_151 ?_
      intro T113 v113 L113 X113 hQ113
      obtain ⟨rfl, Nq113, eh113⟩ := hQ113
      have N113 := Fr.app N103 Nq113
      refine own_sh (T := T113) 154 #[.val (.int p1), .val (.int p2), .val (.int p3), .val (.int p4), .val (.int p5), .val (.int p6), .val (.ref b7), .val (.ref b14), .val (.ref x_27), .val (.ref b32), .val (.ref b37), .val (.ref b48)] [(.ref b14)] ?_
      refine own_aload X113.here hx hby at_154 rfl rfl ?_
      refine own_acmp X113 hx (same := true) (pc' := 159) hby at_156 rfl rfl (decide_eq_true rfl) (by decide) (by decide) ?_
      refine own_aload X113.here hx hby at_159 rfl rfl ?_
      refine own_iconst X113.here hx hby at_161 (v := (1 : Int32)) (by decide) ?_
      refine own_virtual X113 hx hZ hown (own_w hw 94 rfl) (own_w hw 95 rfl) (notFace_of_selects (args := #[]) (mvT hZ (own_w hw 97 rfl))) (own_w hw 97 rfl) (own_w hw 96 rfl) (own_w hw 32 rfl) (own_w hw 98 rfl) (by decide) (attributeName_1_sss l Z a0 hw [] b48 aM_70 bM_81 kaM_70 kbM_81 b14 x_27 b37 T103.heap n0 z114 P103_5 P103_6 P103_7) 0 (Nat.le_of_eq rfl) (by decide) (by decide) (by rw [hml]; rfl) (argsL := [(.int 1)]) (st := []) P103_0 (lenOf pd_11 rfl) rfl rfl (by decide) (by decide) eh113 hby at_162 ?_
      intro T115 v115 L115 X115 hQ115
      obtain ⟨rfl, Nq115, eh115⟩ := hQ115
      have N115 := Fr.app N113 Nq115
      refine own_sh (T := T115) 165 #[.val (.int p1), .val (.int p2), .val (.int p3), .val (.int p4), .val (.int p5), .val (.int p6), .val (.ref b7), .val (.ref b14), .val (.ref x_27), .val (.ref b32), .val (.ref b37), .val (.ref b48)] [(.ref x_27)] ?_
      refine own_aload X115.here hx hby at_165 rfl rfl ?_
      refine own_acmp X115 hx (same := true) (pc' := 170) hby at_167 rfl rfl (decide_eq_true rfl) (by decide) (by decide) ?_
      refine own_aload X115.here hx hby at_170 rfl rfl ?_
      refine own_iconst X115.here hx hby at_172 (v := (2 : Int32)) (by decide) ?_
      refine own_virtual X115 hx hZ hown (own_w hw 94 rfl) (own_w hw 95 rfl) (notFace_of_selects (args := #[]) (mvT hZ (own_w hw 97 rfl))) (own_w hw 97 rfl) (own_w hw 96 rfl) (own_w hw 32 rfl) (own_w hw 98 rfl) (by decide) (attributeName_2_sss l Z a0 hw [] b48 aM_70 bM_81 kaM_70 kbM_81 b14 x_27 b37 T103.heap n0 z114 P103_5 P103_6 P103_7) 0 (Nat.le_of_eq rfl) (by decide) (by decide) (by rw [hml]; rfl) (argsL := [(.int 2)]) (st := []) P103_0 (lenOf pd_11 rfl) rfl rfl (by decide) (by decide) eh115 hby at_173 ?_
      intro T116 v116 L116 X116 hQ116
      obtain ⟨rfl, Nq116, eh116⟩ := hQ116
      have N116 := Fr.app N115 Nq116
      refine own_sh (T := T116) 176 #[.val (.int p1), .val (.int p2), .val (.int p3), .val (.int p4), .val (.int p5), .val (.int p6), .val (.ref b7), .val (.ref b14), .val (.ref x_27), .val (.ref b32), .val (.ref b37), .val (.ref b48)] [(.ref b37)] ?_
      refine own_aload X116.here hx hby at_176 rfl rfl ?_
      refine own_acmp X116 hx (same := true) (pc' := 181) hby at_178 rfl rfl (decide_eq_true rfl) (by decide) (by decide) ?_
      refine own_iconst X116.here hx hby at_181 (v := (1 : Int32)) (by decide) ?_
      refine own_goto X116.here hx hby (pc' := 186) at_182 (by decide) (by decide) ?_
      obtain ⟨fs, hr, hrun, hended, hW, hsame⟩ := X116.leave (v := some (.int 1)) (fun h => by rw [Bd.returns] at h; cases h)
      refine own_ret (t := T116.setFrames fs) ?_ ⟨_, hrun, hended, _, _, rfl, ?_, ⟨_, rfl⟩, hW, hsame.mono (by decide) (by decide)⟩
      · exact retN X116 hx (t := .boolean) Bd.returns (by simp) (hb hby at_186) hr
      · show Q_rm0 Z p1 p2 p3 p4 p5 p6 zc h0 n0 _ T116.heap _
        rw [eh116]
        exact ⟨rfl, N116, trivial⟩
    · refine own_ifNo X70.here hx hby at_103 ((if0 _ _).trans (feq hc103_79).1) ?_
      refine own_aload X70.here hx hby at_106 rfl rfl ?_
      refine own_aload X70.here hx hby at_108 rfl rfl ?_
      refine own_iloadN X70.here hx hby at_110 rfl ?_
      refine own_iload X70.here hx hby at_111 rfl ?_
      have f117 : Exa Z T70.heap b37 "java/lang/String" := (((P43_0.ext E48).ext E58).keep K70)
      have z119 : n0 ≤ T70.heap.size := by omega
      refine own_virtual X70 hx hZ hown (own_w hw 55 rfl) (own_w hw 56 rfl) (notFace_of_selects (args := #[]) (mvT hZ (own_w hw 58 rfl))) (own_w hw 58 rfl) (own_w hw 57 rfl) (own_w hw 32 rfl) (own_w hw 59 rfl) (by decide) (start_0 l Z a0 hw [] b48 b37 aN_70 aS_70 p4 p5 (0 : Int32) kaN_70 kaS_70 aA_70 aM_70 aW_70 T70.heap n0 z119 P70_0 P70_1 P70_4 P70_2 P70_5 P70_8 P70_9 P70_6 P70_10 (by omega) (by omega) (by omega) f117 P70_12 P70_16 P70_20) 0 (Nat.le_of_eq rfl) (by decide) (by decide) (by rw [hml]; rfl) (argsL := [(.ref b37), (.int p4), (.int p5)]) (st := []) P70_0 (lenOf pd_12 rfl) rfl rfl (by decide) (by decide) rfl hby at_113 ?_
      intro T118 v118 L118 X118 hQ118
      obtain ⟨bN_118, bS_118, kb_118, kc_118, rfl, Nq118, K118, P118_0, P118_1, P118_2, P118_3, P118_4, P118_5, P118_6, P118_7, P118_8, P118_9, P118_10, P118_11, P118_12, P118_13, P118_14, P118_15⟩ := hQ118
      have N118 := Fr.app N70 Nq118
      have z120 : T70.heap.size ≤ T118.heap.size := K118.1
      have lt121 : T118.heap.size > b48 := P118_0.lt
      have lt122 : T118.heap.size > aN_70 := P118_2.lt
      have lt123 : T118.heap.size > aS_70 := P118_3.lt
      have lt124 : T118.heap.size > bN_118 := P118_7.lt
      have lt125 : T118.heap.size > bS_118 := P118_8.lt
      refine own_sh (T := T118) 116 #[.val (.int p1), .val (.int p2), .val (.int p3), .val (.int p4), .val (.int p5), .val (.int p6), .val (.ref b7), .val (.ref b14), .val (.ref x_27), .val (.ref b32), .val (.ref b37), .val (.ref b48)] [(.int 0)] ?_
      refine own_pop X118.here hx hby at_116 rfl ?_
      refine own_aload X118.here hx hby at_117 rfl rfl ?_
      refine own_aload X118.here hx hby at_119 rfl rfl ?_
      refine own_iloadN X118.here hx hby at_121 rfl ?_
      refine own_iload X118.here hx hby at_122 rfl ?_
      have f126 : Exa Z T118.heap b14 "java/lang/String" := (((((((((P20_0.keep K27).ext E32).wr W35).ext E37).keep K43).ext E48).ext E58).keep K70).keep K118)
      have f127 : Arv Z T118.heap aA_70 kaA_70 (.array .int) (1 : Int32) [.null] .null := (P70_13.keep K118 (ninS (own_nn (by omega)) (ninS (own_nn (by omega)) (ninS (own_nn (by omega)) nin0))))
      have f128 : Arv Z T118.heap aM_70 kaM_70 (.array (.object "java/lang/String")) (1 : Int32) [.null] .null := (P70_17.keep K118 (ninS (own_nn (by omega)) (ninS (own_nn (by omega)) (ninS (own_nn (by omega)) nin0))))
      have f129 : Arv Z T118.heap aW_70 kaW_70 (.array (.object "com/example/boxwood/boxwood/XmlValue")) (1 : Int32) [.null] .null := (P70_21.keep K118 (ninS (own_nn (by omega)) (ninS (own_nn (by omega)) (ninS (own_nn (by omega)) nin0))))
      have z131 : n0 ≤ T118.heap.size := by omega
      refine own_virtual X118 hx hZ hown (own_w hw 77 rfl) (own_w hw 78 rfl) (notFace_of_selects (args := #[]) (mvT hZ (own_w hw 80 rfl))) (own_w hw 80 rfl) (own_w hw 79 rfl) (own_w hw 32 rfl) (own_w hw 81 rfl) (by decide) (at3_0_ l Z a0 hw [] b48 b14 p4 p5 aA_70 kaA_70 aM_70 kaM_70 aW_70 kaW_70 T118.heap n0 z131 P118_0 P118_12 (by omega) f126 P118_13 f127 P70_14 (by omega) P118_14 f128 P70_18 (by omega) P118_15 f129 P70_22 (by omega)) 0 (Nat.le_of_eq rfl) (by decide) (by decide) (by rw [hml]; rfl) (argsL := [(.ref b14), (.int p4), (.int p5)]) (st := []) P118_0 (lenOf pd_9 rfl) rfl rfl (by decide) (by decide) rfl hby at_124 ?_
      intro T130 v130 L130 X130 hQ130
      obtain ⟨bA_130, kbA_130, bM_130, kbM_130, bW_130, kbW_130, rfl, Nq130, K130, P130_0, P130_1, P130_2, P130_3, P130_4, P130_5, P130_6, P130_7, P130_8, P130_9, P130_10, P130_11, P130_12, P130_13, P130_14, P130_15, P130_16, P130_17⟩ := hQ130
      have N130 := Fr.app N118 Nq130
      have z132 : T118.heap.size ≤ T130.heap.size := K130.1
      have lt133 : T130.heap.size > b48 := P130_0.lt
      have lt134 : T130.heap.size > aA_70 := P130_3.lt
      have lt135 : T130.heap.size > bA_130 := P130_4.lt
      have lt136 : T130.heap.size > aM_70 := P130_7.lt
      have lt137 : T130.heap.size > bM_130 := P130_8.lt
      have lt138 : T130.heap.size > aW_70 := P130_12.lt
      have lt139 : T130.heap.size > bW_130 := P130_13.lt
      refine own_sh (T := T130) 127 #[.val (.int p1), .val (.int p2), .val (.int p3), .val (.int p4), .val (.int p5), .val (.int p6), .val (.ref b7), .val (.ref b14), .val (.ref x_27), .val (.ref b32), .val (.ref b37), .val (.ref b48)] [] ?_
      refine own_aload X130.here hx hby at_127 rfl rfl ?_
      refine own_aload X130.here hx hby at_129 rfl rfl ?_
      refine own_aconstNull X130.here hx hby at_131 ?_
      refine own_castNull X130 hx hby at_132 ?_
      have f140 : Exa Z T130.heap x_27 "java/lang/String" := (((((((((P27_3.ext E32).wr W35).ext E37).keep K43).ext E48).ext E58).keep K70).keep K118).keep K130)
      have z142 : n0 ≤ T130.heap.size := by omega
      refine own_virtual X130 hx hZ hown (own_w hw 89 rfl) (own_w hw 90 rfl) (notFace_of_selects (args := #[]) (mvT hZ (own_w hw 92 rfl))) (own_w hw 92 rfl) (own_w hw 91 rfl) (own_w hw 32 rfl) (own_w hw 93 rfl) (by decide) (at2_1_s l Z a0 hw [] b48 x_27 aA_70 kaA_70 bA_130 kbA_130 aM_70 kaM_70 bM_130 kbM_130 aW_70 kaW_70 bW_130 kbW_130 p4 p5 b14 T130.heap n0 z142 P130_0 P130_1 (by omega) f140 P130_2 P130_3 P130_4 (by omega) P130_6 P130_7 P130_8 (by omega) P130_10 P130_11 P130_12 P130_13 (by omega) P130_15) 0 (Nat.le_of_eq rfl) (by decide) (by decide) (by rw [hml]; rfl) (argsL := [(.ref x_27), .null]) (st := []) P130_0 (lenOf pd_10 rfl) rfl rfl (by decide) (by decide) rfl hby at_135 ?_
      intro T141 v141 L141 X141 hQ141
      obtain ⟨rfl, Nq141, K141, P141_0, P141_1, P141_2, P141_3, P141_4, P141_5, P141_6, P141_7, P141_8, P141_9, P141_10⟩ := hQ141
      have N141 := Fr.app N130 Nq141
      have z143 : T130.heap.size ≤ T141.heap.size := K141.1
      have lt144 : T141.heap.size > b48 := P141_0.lt
      have lt145 : T141.heap.size > aA_70 := P141_3.lt
      have lt146 : T141.heap.size > bA_130 := P141_4.lt
      have lt147 : T141.heap.size > aM_70 := P141_6.lt
      have lt148 : T141.heap.size > bM_130 := P141_7.lt
      have lt149 : T141.heap.size > aW_70 := P141_9.lt
      have lt150 : T141.heap.size > bW_130 := P141_10.lt
      refine own_sh (T := T141) 138 #[.val (.int p1), .val (.int p2), .val (.int p3), .val (.int p4), .val (.int p5), .val (.int p6), .val (.ref b7), .val (.ref b14), .val (.ref x_27), .val (.ref b32), .val (.ref b37), .val (.ref b48)] [] ?_
      refine own_aload X141.here hx hby at_138 rfl rfl ?_
      refine own_aload X141.here hx hby at_140 rfl rfl ?_
      refine own_iload X141.here hx hby at_142 rfl ?_
      refine own_iloadN X141.here hx hby at_144 rfl ?_
      have f151 : Exa Z T141.heap b37 "java/lang/String" := (((f117.keep K118).keep K130).keep K141)
      have z153 : n0 ≤ T141.heap.size := by omega
      refine own_virtual X141 hx hZ hown (own_w hw 77 rfl) (own_w hw 78 rfl) (notFace_of_selects (args := #[]) (mvT hZ (own_w hw 80 rfl))) (own_w hw 80 rfl) (own_w hw 79 rfl) (own_w hw 32 rfl) (own_w hw 81 rfl) (by decide) (at3_2_ss l Z a0 hw [] b48 b37 p5 p4 aA_70 kaA_70 bA_130 kbA_130 aM_70 kaM_70 bM_130 kbM_130 aW_70 kaW_70 bW_130 kbW_130 p4 p5 (-1 : Int32) (-1 : Int32) b14 x_27 T141.heap n0 z153 P141_0 P141_1 (by omega) f151 P141_2 P141_3 P141_4 (by omega) P141_5 P141_6 P141_7 (by omega) P130_10 P141_8 P141_9 P141_10 (by omega) P130_15) 0 (Nat.le_of_eq rfl) (by decide) (by decide) (by rw [hml]; rfl) (argsL := [(.ref b37), (.int p5), (.int p4)]) (st := []) P141_0 (lenOf pd_9 rfl) rfl rfl (by decide) (by decide) rfl hby at_145 ?_
      intro T152 v152 L152 X152 hQ152
      obtain ⟨rfl, Nq152, K152, P152_0, P152_1, P152_2, P152_3, P152_4, P152_5, P152_6, P152_7, P152_8, P152_9, P152_10⟩ := hQ152
      have N152 := Fr.app N141 Nq152
      have z154 : T141.heap.size ≤ T152.heap.size := K152.1
      have lt155 : T152.heap.size > b48 := P152_0.lt
      have lt156 : T152.heap.size > aA_70 := P152_3.lt
      have lt157 : T152.heap.size > bA_130 := P152_4.lt
      have lt158 : T152.heap.size > aM_70 := P152_6.lt
      have lt159 : T152.heap.size > bM_130 := P152_7.lt
      have lt160 : T152.heap.size > aW_70 := P152_9.lt
      have lt161 : T152.heap.size > bW_130 := P152_10.lt
      refine own_sh (T := T152) 148 #[.val (.int p1), .val (.int p2), .val (.int p3), .val (.int p4), .val (.int p5), .val (.int p6), .val (.ref b7), .val (.ref b14), .val (.ref x_27), .val (.ref b32), .val (.ref b37), .val (.ref b48)] [] ?_
      refine own_aload X152.here hx hby at_148 rfl rfl ?_
      refine own_iconst X152.here hx hby at_150 (v := (0 : Int32)) (by decide) ?_
      have z163 : n0 ≤ T152.heap.size := by omega
      refine own_virtual X152 hx hZ hown (own_w hw 94 rfl) (own_w hw 95 rfl) (notFace_of_selects (args := #[]) (mvT hZ (own_w hw 97 rfl))) (own_w hw 97 rfl) (own_w hw 96 rfl) (own_w hw 32 rfl) (own_w hw 98 rfl) (by decide) (attributeName_0_sss l Z a0 hw [] b48 aM_70 bM_130 kaM_70 kbM_130 b14 x_27 b37 T152.heap n0 z163 P152_5 P152_6 P152_7) 0 (Nat.le_of_eq rfl) (by decide) (by decide) (by rw [hml]; rfl) (argsL := [(.int 0)]) (st := []) P152_0 (lenOf pd_11 rfl) rfl rfl (by decide) (by decide) rfl hby at_151 ?_
      intro T162 v162 L162 X162 hQ162
      obtain ⟨rfl, Nq162, eh162⟩ := hQ162
      have N162 := Fr.app N152 Nq162
      refine own_sh (T := T162) 154 #[.val (.int p1), .val (.int p2), .val (.int p3), .val (.int p4), .val (.int p5), .val (.int p6), .val (.ref b7), .val (.ref b14), .val (.ref x_27), .val (.ref b32), .val (.ref b37), .val (.ref b48)] [(.ref b14)] ?_
      refine own_aload X162.here hx hby at_154 rfl rfl ?_
      refine own_acmp X162 hx (same := true) (pc' := 159) hby at_156 rfl rfl (decide_eq_true rfl) (by decide) (by decide) ?_
      refine own_aload X162.here hx hby at_159 rfl rfl ?_
      refine own_iconst X162.here hx hby at_161 (v := (1 : Int32)) (by decide) ?_
      refine own_virtual X162 hx hZ hown (own_w hw 94 rfl) (own_w hw 95 rfl) (notFace_of_selects (args := #[]) (mvT hZ (own_w hw 97 rfl))) (own_w hw 97 rfl) (own_w hw 96 rfl) (own_w hw 32 rfl) (own_w hw 98 rfl) (by decide) (attributeName_1_sss l Z a0 hw [] b48 aM_70 bM_130 kaM_70 kbM_130 b14 x_27 b37 T152.heap n0 z163 P152_5 P152_6 P152_7) 0 (Nat.le_of_eq rfl) (by decide) (by decide) (by rw [hml]; rfl) (argsL := [(.int 1)]) (st := []) P152_0 (lenOf pd_11 rfl) rfl rfl (by decide) (by decide) eh162 hby at_162 ?_
      intro T164 v164 L164 X164 hQ164
      obtain ⟨rfl, Nq164, eh164⟩ := hQ164
      have N164 := Fr.app N162 Nq164
      refine own_sh (T := T164) 165 #[.val (.int p1), .val (.int p2), .val (.int p3), .val (.int p4), .val (.int p5), .val (.int p6), .val (.ref b7), .val (.ref b14), .val (.ref x_27), .val (.ref b32), .val (.ref b37), .val (.ref b48)] [(.ref x_27)] ?_
      refine own_aload X164.here hx hby at_165 rfl rfl ?_
      refine own_acmp X164 hx (same := true) (pc' := 170) hby at_167 rfl rfl (decide_eq_true rfl) (by decide) (by decide) ?_
      refine own_aload X164.here hx hby at_170 rfl rfl ?_
      refine own_iconst X164.here hx hby at_172 (v := (2 : Int32)) (by decide) ?_
      refine own_virtual X164 hx hZ hown (own_w hw 94 rfl) (own_w hw 95 rfl) (notFace_of_selects (args := #[]) (mvT hZ (own_w hw 97 rfl))) (own_w hw 97 rfl) (own_w hw 96 rfl) (own_w hw 32 rfl) (own_w hw 98 rfl) (by decide) (attributeName_2_sss l Z a0 hw [] b48 aM_70 bM_130 kaM_70 kbM_130 b14 x_27 b37 T152.heap n0 z163 P152_5 P152_6 P152_7) 0 (Nat.le_of_eq rfl) (by decide) (by decide) (by rw [hml]; rfl) (argsL := [(.int 2)]) (st := []) P152_0 (lenOf pd_11 rfl) rfl rfl (by decide) (by decide) eh164 hby at_173 ?_
      intro T165 v165 L165 X165 hQ165
      obtain ⟨rfl, Nq165, eh165⟩ := hQ165
      have N165 := Fr.app N164 Nq165
      refine own_sh (T := T165) 176 #[.val (.int p1), .val (.int p2), .val (.int p3), .val (.int p4), .val (.int p5), .val (.int p6), .val (.ref b7), .val (.ref b14), .val (.ref x_27), .val (.ref b32), .val (.ref b37), .val (.ref b48)] [(.ref b37)] ?_
      refine own_aload X165.here hx hby at_176 rfl rfl ?_
      refine own_acmp X165 hx (same := true) (pc' := 181) hby at_178 rfl rfl (decide_eq_true rfl) (by decide) (by decide) ?_
      refine own_iconst X165.here hx hby at_181 (v := (1 : Int32)) (by decide) ?_
      refine own_goto X165.here hx hby (pc' := 186) at_182 (by decide) (by decide) ?_
      obtain ⟨fs, hr, hrun, hended, hW, hsame⟩ := X165.leave (v := some (.int 1)) (fun h => by rw [Bd.returns] at h; cases h)
      refine own_ret (t := T165.setFrames fs) ?_ ⟨_, hrun, hended, _, _, rfl, ?_, ⟨_, rfl⟩, hW, hsame.mono (by decide) (by decide)⟩
      · exact retN X165 hx (t := .boolean) Bd.returns (by simp) (hb hby at_186) hr
      · show Q_rm0 Z p1 p2 p3 p4 p5 p6 zc h0 n0 _ T165.heap _
        rw [eh165]
        exact ⟨rfl, N165, trivial⟩
  · refine own_ifNo X20.here hx hby at_43 ((if0 _ _).trans (feq hc43_25).1) ?_
    refine own_aconstNull X20.here hx hby at_46 ?_
    refine own_goto X20.here hx hby (pc' := 59) at_47 (by decide) (by decide) ?_
    refine own_astore X20.here hx hby at_59 rfl (l' := #[.val (.int p1), .val (.int p2), .val (.int p3), .val (.int p4), .val (.int p5), .val (.int p6), .val (.ref b7), .val (.ref b14), .val .null, .unset, .unset, .unset]) rfl ?_
    refine own_iconst X20.here hx hby at_61 (v := (1 : Int32)) (by decide) ?_
    refine own_newP X20 hx hZ (aty := .char) (own_w hw 0 rfl) rfl hby at_62 (by decide) 1 (by decide) (by decide) (by decide) (by decide) (ad := "[C") (by decide) ?_
    intro T166 h166 k166 b166 X166 e166 E166 g166 V166 C166 lt166
    have z167 : T20.heap.size ≤ h166.size := E166.1
    have V168 : Arv Z h166 b166 k166 .char (1 : Int32) [(.int 0)] (.int 0) := V166.pad (pad_rep [] (.int 0) 1)
    refine own_astore X166.here hx hby at_64 rfl (l' := #[.val (.int p1), .val (.int p2), .val (.int p3), .val (.int p4), .val (.int p5), .val (.int p6), .val (.ref b7), .val (.ref b14), .val .null, .val (.ref b166), .unset, .unset]) rfl ?_
    refine own_aload X166.here hx hby at_66 rfl rfl ?_
    refine own_iconst X166.here hx hby at_68 (v := (0 : Int32)) (by decide) ?_
    refine own_iloadN X166.here hx hby at_69 rfl ?_
    refine own_sipush X166.here hx hby at_70 (v := (255 : Int32)) (by decide) ?_
    refine own_iand X166.here hx hby at_73 rfl ?_
    refine own_i2c X166.here hx hby at_74 rfl ?_
    refine own_castore X166 hx hZ e166 V168 ⟨by decide, by decide⟩ 0 (by decide) (Nat.le_of_ble_eq_true rfl) (w := (.int (p3 &&& (255 : Int32)))) (congrArg Value.int (own_narc p3)) hby at_75 N20 (by omega) ?_
    intro T169 h169 lo169 X169 e169 N169 W169 V169 z169
    have V170 : Arv Z h169 b166 k166 .char (1 : Int32) [(.int (p3 &&& (255 : Int32)))] (.int 0) := V169
    refine own_newO X169 hx hZ hown (own_w hw 1 rfl) (own_w hw 2 rfl) (own_w hw 3 rfl) e169 hby at_76 (by decide) (by decide) ?_
    intro T171 h171 b171 X171 e171 E171 g171 A171 D171 lt171
    have z172 : h169.size ≤ h171.size := E171.1
    have F173 : Fld Z h171 b171 "java/lang/String" "coder" "B" (.int 0) := D171 (Or.inr (own_w hw 27 rfl)) (ty := .byte) (by decide)
    have F174 : Fld Z h171 b171 "java/lang/String" "value" "[B" .null := D171 (Or.inr (own_w hw 29 rfl)) (ty := (.array .byte)) (by decide)
    refine own_dup X171.here hx hby at_79 rfl ?_
    refine own_aload X171.here hx hby at_80 rfl rfl ?_
    have f175 : Arv Z h171 b166 k166 .char (1 : Int32) [(.int (p3 &&& (255 : Int32)))] (.int 0) := (V170.ext E171)
    have f176 : Sta Z h171 "java/lang/String" "COMPACT_STRINGS" "Z" (.int zc) := ((((own_sta_keep f19 K20 (allS (own_exa_plain A14) all0)).ext E166).wr W169).ext E171)
    have z178 : n0 ≤ h171.size := by omega
    refine own_specialB X171 hx hZ rfl hown (own_w hw 4 rfl) (own_w hw 5 rfl) (own_w hw 6 rfl) (by decide) (StrChars.Road.backV (W := 1) hZ hws_words (kI := 4) (own_w hw 2 rfl) (cs := ([(p3 &&& (255 : Int32))] : List Int32)) (bs := ([(p3 &&& (255 : Int32))] : List Int32).map (fun c => c.toInt8.toInt32)) (n := 1) (by omega) z178 A171 F174 F173 f175 f176 hz rfl rfl (by decide) (by decide) (own_lS (own_c255 p3) own_l0) rfl (by decide) (by decide)) (Nat.le_of_eq rfl) (by rw [hml]; rfl) (argsL := [(.ref b166)]) (st := [(.ref b171)]) (a := b171) (lenOf pd_6 rfl) rfl rfl (by decide) (by decide) e171 hby at_82 ?_
    intro T177 v177 L177 X177 hQ177
    obtain ⟨rfl, Nq177, K177, P177_0, P177_1, t_177, kb_177, P177_2, P177_3, P177_4, P177_5, P177_6⟩ := hQ177
    have N177 := Fr.app N169 Nq177
    have z179 : h171.size ≤ T177.heap.size := K177.1
    have lt180 : T177.heap.size > b171 := P177_0.lt
    have lt181 : T177.heap.size > t_177 := P177_6.lt
    refine own_sh (T := T177) 85 #[.val (.int p1), .val (.int p2), .val (.int p3), .val (.int p4), .val (.int p5), .val (.int p6), .val (.ref b7), .val (.ref b14), .val .null, .val (.ref b166), .unset, .unset] [(.ref b171)] ?_
    refine own_astore X177.here hx hby at_85 rfl (l' := #[.val (.int p1), .val (.int p2), .val (.int p3), .val (.int p4), .val (.int p5), .val (.int p6), .val (.ref b7), .val (.ref b14), .val .null, .val (.ref b166), .val (.ref b171), .unset]) rfl ?_
    refine own_newO X177 hx hZ hown (own_w hw 30 rfl) (own_w hw 31 rfl) (own_w hw 32 rfl) rfl hby at_87 (by decide) (by decide) ?_
    intro T182 h182 b182 X182 e182 E182 g182 A182 D182 lt182
    have z183 : T177.heap.size ≤ h182.size := E182.1
    have F184 : Fld Z h182 b182 "com/example/boxwood/boxwood/XmlNodeTable" "numbers" "[[I" .null := D182 (Or.inl (own_w hw 40 rfl)) (ty := (.array (.array .int))) (by decide)
    have F185 : Fld Z h182 b182 "com/example/boxwood/boxwood/XmlNodeTable" "strings" "[[Ljava/lang/String;" .null := D182 (Or.inl (own_w hw 44 rfl)) (ty := (.array (.array (.object "java/lang/String")))) (by decide)
    have F186 : Fld Z h182 b182 "com/example/boxwood/boxwood/XmlNodeTable" "attributeNumbers" "[[I" .null := D182 (Or.inl (own_w hw 46 rfl)) (ty := (.array (.array .int))) (by decide)
    have F187 : Fld Z h182 b182 "com/example/boxwood/boxwood/XmlNodeTable" "attributeNames" "[[Ljava/lang/String;" .null := D182 (Or.inl (own_w hw 48 rfl)) (ty := (.array (.array (.object "java/lang/String")))) (by decide)
    have F188 : Fld Z h182 b182 "com/example/boxwood/boxwood/XmlNodeTable" "attributeValues" "[[Lcom/example/boxwood/boxwood/XmlValue;" .null := D182 (Or.inl (own_w hw 52 rfl)) (ty := (.array (.array (.object "com/example/boxwood/boxwood/XmlValue")))) (by decide)
    have F189 : Fld Z h182 b182 "com/example/boxwood/boxwood/XmlNodeTable" "content" "[B" .null := D182 (Or.inr (own_w hw 54 rfl)) (ty := (.array .byte)) (by decide)
    have F190 : Fld Z h182 b182 "com/example/boxwood/boxwood/XmlNodeTable" "size" "I" (.int 0) := D182 (Or.inl (own_w hw 65 rfl)) (ty := .int) (by decide)
    have F191 : Fld Z h182 b182 "com/example/boxwood/boxwood/XmlNodeTable" "attributeCount" "I" (.int 0) := D182 (Or.inl (own_w hw 72 rfl)) (ty := .int) (by decide)
    refine own_dup X182.here hx hby at_90 rfl ?_
    refine own_iconst X182.here hx hby at_91 (v := (0 : Int32)) (by decide) ?_
    refine own_newP X182 hx hZ (aty := .byte) (own_w hw 19 rfl) e182 hby at_92 (by decide) 0 (by decide) (by decide) (by decide) (by decide) (ad := "[B") (by decide) ?_
    intro T192 h192 k192 b192 X192 e192 E192 g192 V192 C192 lt192
    have z193 : h182.size ≤ h192.size := E192.1
    have V194 : Arv Z h192 b192 k192 .byte (0 : Int32) [] (.int 0) := V192
    have f195 : Exa Z h192 b182 "com/example/boxwood/boxwood/XmlNodeTable" := (A182.ext E192)
    have f196 : Fld Z h192 b182 "com/example/boxwood/boxwood/XmlNodeTable" "content" "[B" .null := (F189.ext E192)
    have f197 : Fld Z h192 b182 "com/example/boxwood/boxwood/XmlNodeTable" "numbers" "[[I" .null := (F184.ext E192)
    have f198 : Fld Z h192 b182 "com/example/boxwood/boxwood/XmlNodeTable" "strings" "[[Ljava/lang/String;" .null := (F185.ext E192)
    have f199 : Fld Z h192 b182 "com/example/boxwood/boxwood/XmlNodeTable" "attributeNumbers" "[[I" .null := (F186.ext E192)
    have f200 : Fld Z h192 b182 "com/example/boxwood/boxwood/XmlNodeTable" "attributeNames" "[[Ljava/lang/String;" .null := (F187.ext E192)
    have f201 : Fld Z h192 b182 "com/example/boxwood/boxwood/XmlNodeTable" "attributeValues" "[[Lcom/example/boxwood/boxwood/XmlValue;" .null := (F188.ext E192)
    have f202 : Fld Z h192 b182 "com/example/boxwood/boxwood/XmlNodeTable" "size" "I" (.int 0) := (F190.ext E192)
    have f203 : Fld Z h192 b182 "com/example/boxwood/boxwood/XmlNodeTable" "attributeCount" "I" (.int 0) := (F191.ext E192)
    have z205 : n0 ≤ h192.size := by omega
    refine own_special X192 hx hZ rfl hown (own_w hw 33 rfl) (own_w hw 34 rfl) (own_w hw 32 rfl) (own_w hw 35 rfl) (by decide) (tabInit l Z a0 hw [] b182 b192 h192 n0 z205 f195 f196 (by omega) f197 f198 f199 f200 f201 f202 f203) 1 (Nat.le_of_eq rfl) (by decide) (by decide) (by rw [hml]; rfl) (argsL := [(.ref b192)]) (st := [(.ref b182)]) (a := b182) (lenOf pd_8 rfl) rfl rfl (by decide) (by decide) e192 hby at_94 ?_
    intro T204 v204 L204 X204 hQ204
    obtain ⟨aN_204, kaN_204, aS_204, kaS_204, aA_204, kaA_204, aM_204, kaM_204, aW_204, kaW_204, rfl, Nq204, K204, P204_0, P204_1, P204_2, P204_3, P204_4, P204_5, P204_6, P204_7, P204_8, P204_9, P204_10, P204_11, P204_12, P204_13, P204_14, P204_15, P204_16, P204_17, P204_18, P204_19, P204_20, P204_21, P204_22, P204_23, P204_24, P204_25, P204_26⟩ := hQ204
    have N204 := Fr.app N177 Nq204
    have z206 : h192.size ≤ T204.heap.size := K204.1
    have lt207 : T204.heap.size > b182 := P204_0.lt
    have lt208 : T204.heap.size > aN_204 := P204_5.lt
    have lt209 : T204.heap.size > aS_204 := P204_9.lt
    have lt210 : T204.heap.size > aA_204 := P204_13.lt
    have lt211 : T204.heap.size > aM_204 := P204_17.lt
    have lt212 : T204.heap.size > aW_204 := P204_21.lt
    refine own_sh (T := T204) 97 #[.val (.int p1), .val (.int p2), .val (.int p3), .val (.int p4), .val (.int p5), .val (.int p6), .val (.ref b7), .val (.ref b14), .val .null, .val (.ref b166), .val (.ref b171), .unset] [(.ref b182)] ?_
    refine own_astore X204.here hx hby at_97 rfl (l' := #[.val (.int p1), .val (.int p2), .val (.int p3), .val (.int p4), .val (.int p5), .val (.int p6), .val (.ref b7), .val (.ref b14), .val .null, .val (.ref b166), .val (.ref b171), .val (.ref b182)]) rfl ?_
    refine own_iload X204.here hx hby at_99 rfl ?_
    refine own_iconst X204.here hx hby at_101 (v := (2 : Int32)) (by decide) ?_
    refine own_iand X204.here hx hby at_102 rfl ?_
    by_cases hc103_213 : (p6 &&& (2 : Int32)) = (0 : Int32)
    · refine own_ifYes X204.here hx hby (pc' := 117) at_103 ((if0 _ _).trans (teq hc103_213).1) (by decide) (by decide) ?_
      refine own_aload X204.here hx hby at_117 rfl rfl ?_
      refine own_aload X204.here hx hby at_119 rfl rfl ?_
      refine own_iloadN X204.here hx hby at_121 rfl ?_
      refine own_iload X204.here hx hby at_122 rfl ?_
      have f214 : Exa Z T204.heap b14 "java/lang/String" := (((((((P20_0.ext E166).wr W169).ext E171).keep K177).ext E182).ext E192).keep K204)
      have z216 : n0 ≤ T204.heap.size := by omega
      refine own_virtual X204 hx hZ hown (own_w hw 77 rfl) (own_w hw 78 rfl) (notFace_of_selects (args := #[]) (mvT hZ (own_w hw 80 rfl))) (own_w hw 80 rfl) (own_w hw 79 rfl) (own_w hw 32 rfl) (own_w hw 81 rfl) (by decide) (at3_0_ l Z a0 hw [] b182 b14 p4 p5 aA_204 kaA_204 aM_204 kaM_204 aW_204 kaW_204 T204.heap n0 z216 P204_0 P204_2 (by omega) f214 P204_12 P204_13 P204_14 (by omega) P204_16 P204_17 P204_18 (by omega) P204_20 P204_21 P204_22 (by omega)) 0 (Nat.le_of_eq rfl) (by decide) (by decide) (by rw [hml]; rfl) (argsL := [(.ref b14), (.int p4), (.int p5)]) (st := []) P204_0 (lenOf pd_9 rfl) rfl rfl (by decide) (by decide) rfl hby at_124 ?_
      intro T215 v215 L215 X215 hQ215
      obtain ⟨bA_215, kbA_215, bM_215, kbM_215, bW_215, kbW_215, rfl, Nq215, K215, P215_0, P215_1, P215_2, P215_3, P215_4, P215_5, P215_6, P215_7, P215_8, P215_9, P215_10, P215_11, P215_12, P215_13, P215_14, P215_15, P215_16, P215_17⟩ := hQ215
      have N215 := Fr.app N204 Nq215
      have z217 : T204.heap.size ≤ T215.heap.size := K215.1
      have lt218 : T215.heap.size > b182 := P215_0.lt
      have lt219 : T215.heap.size > aA_204 := P215_3.lt
      have lt220 : T215.heap.size > bA_215 := P215_4.lt
      have lt221 : T215.heap.size > aM_204 := P215_7.lt
      have lt222 : T215.heap.size > bM_215 := P215_8.lt
      have lt223 : T215.heap.size > aW_204 := P215_12.lt
      have lt224 : T215.heap.size > bW_215 := P215_13.lt
      refine own_sh (T := T215) 127 #[.val (.int p1), .val (.int p2), .val (.int p3), .val (.int p4), .val (.int p5), .val (.int p6), .val (.ref b7), .val (.ref b14), .val .null, .val (.ref b166), .val (.ref b171), .val (.ref b182)] [] ?_
      refine own_aload X215.here hx hby at_127 rfl rfl ?_
      refine own_aload X215.here hx hby at_129 rfl rfl ?_
      refine own_aconstNull X215.here hx hby at_131 ?_
      refine own_castNull X215 hx hby at_132 ?_
      have z226 : n0 ≤ T215.heap.size := by omega
      refine own_virtual X215 hx hZ hown (own_w hw 89 rfl) (own_w hw 90 rfl) (notFace_of_selects (args := #[]) (mvT hZ (own_w hw 92 rfl))) (own_w hw 92 rfl) (own_w hw 91 rfl) (own_w hw 32 rfl) (own_w hw 93 rfl) (by decide) (at2_1n_s l Z a0 hw [] b182 aA_204 kaA_204 bA_215 kbA_215 aM_204 kaM_204 bM_215 kbM_215 aW_204 kaW_204 bW_215 kbW_215 p4 p5 b14 T215.heap n0 z226 P215_0 P215_1 (by omega) P215_2 P215_3 P215_4 (by omega) P215_6 P215_7 P215_8 (by omega) P215_10 P215_11 P215_12 P215_13 (by omega) P215_15) 0 (Nat.le_of_eq rfl) (by decide) (by decide) (by rw [hml]; rfl) (argsL := [.null, .null]) (st := []) P215_0 (lenOf pd_10 rfl) rfl rfl (by decide) (by decide) rfl hby at_135 ?_
      intro T225 v225 L225 X225 hQ225
      obtain ⟨rfl, Nq225, K225, P225_0, P225_1, P225_2, P225_3, P225_4, P225_5, P225_6, P225_7, P225_8, P225_9, P225_10⟩ := hQ225
      have N225 := Fr.app N215 Nq225
      have z227 : T215.heap.size ≤ T225.heap.size := K225.1
      have lt228 : T225.heap.size > b182 := P225_0.lt
      have lt229 : T225.heap.size > aA_204 := P225_3.lt
      have lt230 : T225.heap.size > bA_215 := P225_4.lt
      have lt231 : T225.heap.size > aM_204 := P225_6.lt
      have lt232 : T225.heap.size > bM_215 := P225_7.lt
      have lt233 : T225.heap.size > aW_204 := P225_9.lt
      have lt234 : T225.heap.size > bW_215 := P225_10.lt
      refine own_sh (T := T225) 138 #[.val (.int p1), .val (.int p2), .val (.int p3), .val (.int p4), .val (.int p5), .val (.int p6), .val (.ref b7), .val (.ref b14), .val .null, .val (.ref b166), .val (.ref b171), .val (.ref b182)] [] ?_
      refine own_aload X225.here hx hby at_138 rfl rfl ?_
      refine own_aload X225.here hx hby at_140 rfl rfl ?_
      refine own_iload X225.here hx hby at_142 rfl ?_
      refine own_iloadN X225.here hx hby at_144 rfl ?_
      have f235 : Exa Z T225.heap b171 "java/lang/String" := (((((P177_0.ext E182).ext E192).keep K204).keep K215).keep K225)
      have z237 : n0 ≤ T225.heap.size := by omega
      refine own_virtual X225 hx hZ hown (own_w hw 77 rfl) (own_w hw 78 rfl) (notFace_of_selects (args := #[]) (mvT hZ (own_w hw 80 rfl))) (own_w hw 80 rfl) (own_w hw 79 rfl) (own_w hw 32 rfl) (own_w hw 81 rfl) (by decide) (at3_2_sn l Z a0 hw [] b182 b171 p5 p4 aA_204 kaA_204 bA_215 kbA_215 aM_204 kaM_204 bM_215 kbM_215 aW_204 kaW_204 bW_215 kbW_215 p4 p5 (-1 : Int32) (-1 : Int32) b14 T225.heap n0 z237 P225_0 P225_1 (by omega) f235 P225_2 P225_3 P225_4 (by omega) P225_5 P225_6 P225_7 (by omega) P215_10 P225_8 P225_9 P225_10 (by omega) P215_15) 0 (Nat.le_of_eq rfl) (by decide) (by decide) (by rw [hml]; rfl) (argsL := [(.ref b171), (.int p5), (.int p4)]) (st := []) P225_0 (lenOf pd_9 rfl) rfl rfl (by decide) (by decide) rfl hby at_145 ?_
      intro T236 v236 L236 X236 hQ236
      obtain ⟨rfl, Nq236, K236, P236_0, P236_1, P236_2, P236_3, P236_4, P236_5, P236_6, P236_7, P236_8, P236_9, P236_10⟩ := hQ236
      have N236 := Fr.app N225 Nq236
      have z238 : T225.heap.size ≤ T236.heap.size := K236.1
      have lt239 : T236.heap.size > b182 := P236_0.lt
      have lt240 : T236.heap.size > aA_204 := P236_3.lt
      have lt241 : T236.heap.size > bA_215 := P236_4.lt
      have lt242 : T236.heap.size > aM_204 := P236_6.lt
      have lt243 : T236.heap.size > bM_215 := P236_7.lt
      have lt244 : T236.heap.size > aW_204 := P236_9.lt
      have lt245 : T236.heap.size > bW_215 := P236_10.lt
      refine own_sh (T := T236) 148 #[.val (.int p1), .val (.int p2), .val (.int p3), .val (.int p4), .val (.int p5), .val (.int p6), .val (.ref b7), .val (.ref b14), .val .null, .val (.ref b166), .val (.ref b171), .val (.ref b182)] [] ?_
      refine own_aload X236.here hx hby at_148 rfl rfl ?_
      refine own_iconst X236.here hx hby at_150 (v := (0 : Int32)) (by decide) ?_
      have z247 : n0 ≤ T236.heap.size := by omega
      refine own_virtual X236 hx hZ hown (own_w hw 94 rfl) (own_w hw 95 rfl) (notFace_of_selects (args := #[]) (mvT hZ (own_w hw 97 rfl))) (own_w hw 97 rfl) (own_w hw 96 rfl) (own_w hw 32 rfl) (own_w hw 98 rfl) (by decide) (attributeName_0_sns l Z a0 hw [] b182 aM_204 bM_215 kaM_204 kbM_215 b14 b171 T236.heap n0 z247 P236_5 P236_6 P236_7) 0 (Nat.le_of_eq rfl) (by decide) (by decide) (by rw [hml]; rfl) (argsL := [(.int 0)]) (st := []) P236_0 (lenOf pd_11 rfl) rfl rfl (by decide) (by decide) rfl hby at_151 ?_
      intro T246 v246 L246 X246 hQ246
      obtain ⟨rfl, Nq246, eh246⟩ := hQ246
      have N246 := Fr.app N236 Nq246
      refine own_sh (T := T246) 154 #[.val (.int p1), .val (.int p2), .val (.int p3), .val (.int p4), .val (.int p5), .val (.int p6), .val (.ref b7), .val (.ref b14), .val .null, .val (.ref b166), .val (.ref b171), .val (.ref b182)] [(.ref b14)] ?_
      refine own_aload X246.here hx hby at_154 rfl rfl ?_
      refine own_acmp X246 hx (same := true) (pc' := 159) hby at_156 rfl rfl (decide_eq_true rfl) (by decide) (by decide) ?_
      refine own_aload X246.here hx hby at_159 rfl rfl ?_
      refine own_iconst X246.here hx hby at_161 (v := (1 : Int32)) (by decide) ?_
      refine own_virtual X246 hx hZ hown (own_w hw 94 rfl) (own_w hw 95 rfl) (notFace_of_selects (args := #[]) (mvT hZ (own_w hw 97 rfl))) (own_w hw 97 rfl) (own_w hw 96 rfl) (own_w hw 32 rfl) (own_w hw 98 rfl) (by decide) (attributeName_1_sns l Z a0 hw [] b182 aM_204 bM_215 kaM_204 kbM_215 b14 b171 T236.heap n0 z247 P236_5 P236_6 P236_7) 0 (Nat.le_of_eq rfl) (by decide) (by decide) (by rw [hml]; rfl) (argsL := [(.int 1)]) (st := []) P236_0 (lenOf pd_11 rfl) rfl rfl (by decide) (by decide) eh246 hby at_162 ?_
      intro T248 v248 L248 X248 hQ248
      obtain ⟨rfl, Nq248, eh248⟩ := hQ248
      have N248 := Fr.app N246 Nq248
      refine own_sh (T := T248) 165 #[.val (.int p1), .val (.int p2), .val (.int p3), .val (.int p4), .val (.int p5), .val (.int p6), .val (.ref b7), .val (.ref b14), .val .null, .val (.ref b166), .val (.ref b171), .val (.ref b182)] [.null] ?_
      refine own_aload X248.here hx hby at_165 rfl rfl ?_
      refine own_acmp X248 hx (same := true) (pc' := 170) hby at_167 rfl rfl (decide_eq_true rfl) (by decide) (by decide) ?_
      refine own_aload X248.here hx hby at_170 rfl rfl ?_
      refine own_iconst X248.here hx hby at_172 (v := (2 : Int32)) (by decide) ?_
      refine own_virtual X248 hx hZ hown (own_w hw 94 rfl) (own_w hw 95 rfl) (notFace_of_selects (args := #[]) (mvT hZ (own_w hw 97 rfl))) (own_w hw 97 rfl) (own_w hw 96 rfl) (own_w hw 32 rfl) (own_w hw 98 rfl) (by decide) (attributeName_2_sns l Z a0 hw [] b182 aM_204 bM_215 kaM_204 kbM_215 b14 b171 T236.heap n0 z247 P236_5 P236_6 P236_7) 0 (Nat.le_of_eq rfl) (by decide) (by decide) (by rw [hml]; rfl) (argsL := [(.int 2)]) (st := []) P236_0 (lenOf pd_11 rfl) rfl rfl (by decide) (by decide) eh248 hby at_173 ?_
      intro T249 v249 L249 X249 hQ249
      obtain ⟨rfl, Nq249, eh249⟩ := hQ249
      have N249 := Fr.app N248 Nq249
      refine own_sh (T := T249) 176 #[.val (.int p1), .val (.int p2), .val (.int p3), .val (.int p4), .val (.int p5), .val (.int p6), .val (.ref b7), .val (.ref b14), .val .null, .val (.ref b166), .val (.ref b171), .val (.ref b182)] [(.ref b171)] ?_
      refine own_aload X249.here hx hby at_176 rfl rfl ?_
      refine own_acmp X249 hx (same := true) (pc' := 181) hby at_178 rfl rfl (decide_eq_true rfl) (by decide) (by decide) ?_
      refine own_iconst X249.here hx hby at_181 (v := (1 : Int32)) (by decide) ?_
      refine own_goto X249.here hx hby (pc' := 186) at_182 (by decide) (by decide) ?_
      obtain ⟨fs, hr, hrun, hended, hW, hsame⟩ := X249.leave (v := some (.int 1)) (fun h => by rw [Bd.returns] at h; cases h)
      refine own_ret (t := T249.setFrames fs) ?_ ⟨_, hrun, hended, _, _, rfl, ?_, ⟨_, rfl⟩, hW, hsame.mono (by decide) (by decide)⟩
      · exact retN X249 hx (t := .boolean) Bd.returns (by simp) (hb hby at_186) hr
      · show Q_rm0 Z p1 p2 p3 p4 p5 p6 zc h0 n0 _ T249.heap _
        rw [eh249]
        exact ⟨rfl, N249, trivial⟩
    · refine own_ifNo X204.here hx hby at_103 ((if0 _ _).trans (feq hc103_213).1) ?_
      refine own_aload X204.here hx hby at_106 rfl rfl ?_
      refine own_aload X204.here hx hby at_108 rfl rfl ?_
      refine own_iloadN X204.here hx hby at_110 rfl ?_
      refine own_iload X204.here hx hby at_111 rfl ?_
      have f250 : Exa Z T204.heap b171 "java/lang/String" := (((P177_0.ext E182).ext E192).keep K204)
      have z252 : n0 ≤ T204.heap.size := by omega
      refine own_virtual X204 hx hZ hown (own_w hw 55 rfl) (own_w hw 56 rfl) (notFace_of_selects (args := #[]) (mvT hZ (own_w hw 58 rfl))) (own_w hw 58 rfl) (own_w hw 57 rfl) (own_w hw 32 rfl) (own_w hw 59 rfl) (by decide) (start_0 l Z a0 hw [] b182 b171 aN_204 aS_204 p4 p5 (0 : Int32) kaN_204 kaS_204 aA_204 aM_204 aW_204 T204.heap n0 z252 P204_0 P204_1 P204_4 P204_2 P204_5 P204_8 P204_9 P204_6 P204_10 (by omega) (by omega) (by omega) f250 P204_12 P204_16 P204_20) 0 (Nat.le_of_eq rfl) (by decide) (by decide) (by rw [hml]; rfl) (argsL := [(.ref b171), (.int p4), (.int p5)]) (st := []) P204_0 (lenOf pd_12 rfl) rfl rfl (by decide) (by decide) rfl hby at_113 ?_
      intro T251 v251 L251 X251 hQ251
      obtain ⟨bN_251, bS_251, kb_251, kc_251, rfl, Nq251, K251, P251_0, P251_1, P251_2, P251_3, P251_4, P251_5, P251_6, P251_7, P251_8, P251_9, P251_10, P251_11, P251_12, P251_13, P251_14, P251_15⟩ := hQ251
      have N251 := Fr.app N204 Nq251
      have z253 : T204.heap.size ≤ T251.heap.size := K251.1
      have lt254 : T251.heap.size > b182 := P251_0.lt
      have lt255 : T251.heap.size > aN_204 := P251_2.lt
      have lt256 : T251.heap.size > aS_204 := P251_3.lt
      have lt257 : T251.heap.size > bN_251 := P251_7.lt
      have lt258 : T251.heap.size > bS_251 := P251_8.lt
      refine own_sh (T := T251) 116 #[.val (.int p1), .val (.int p2), .val (.int p3), .val (.int p4), .val (.int p5), .val (.int p6), .val (.ref b7), .val (.ref b14), .val .null, .val (.ref b166), .val (.ref b171), .val (.ref b182)] [(.int 0)] ?_
      refine own_pop X251.here hx hby at_116 rfl ?_
      refine own_aload X251.here hx hby at_117 rfl rfl ?_
      refine own_aload X251.here hx hby at_119 rfl rfl ?_
      refine own_iloadN X251.here hx hby at_121 rfl ?_
      refine own_iload X251.here hx hby at_122 rfl ?_
      have f259 : Exa Z T251.heap b14 "java/lang/String" := ((((((((P20_0.ext E166).wr W169).ext E171).keep K177).ext E182).ext E192).keep K204).keep K251)
      have f260 : Arv Z T251.heap aA_204 kaA_204 (.array .int) (1 : Int32) [.null] .null := (P204_13.keep K251 (ninS (own_nn (by omega)) (ninS (own_nn (by omega)) (ninS (own_nn (by omega)) nin0))))
      have f261 : Arv Z T251.heap aM_204 kaM_204 (.array (.object "java/lang/String")) (1 : Int32) [.null] .null := (P204_17.keep K251 (ninS (own_nn (by omega)) (ninS (own_nn (by omega)) (ninS (own_nn (by omega)) nin0))))
      have f262 : Arv Z T251.heap aW_204 kaW_204 (.array (.object "com/example/boxwood/boxwood/XmlValue")) (1 : Int32) [.null] .null := (P204_21.keep K251 (ninS (own_nn (by omega)) (ninS (own_nn (by omega)) (ninS (own_nn (by omega)) nin0))))
      have z264 : n0 ≤ T251.heap.size := by omega
      refine own_virtual X251 hx hZ hown (own_w hw 77 rfl) (own_w hw 78 rfl) (notFace_of_selects (args := #[]) (mvT hZ (own_w hw 80 rfl))) (own_w hw 80 rfl) (own_w hw 79 rfl) (own_w hw 32 rfl) (own_w hw 81 rfl) (by decide) (at3_0_ l Z a0 hw [] b182 b14 p4 p5 aA_204 kaA_204 aM_204 kaM_204 aW_204 kaW_204 T251.heap n0 z264 P251_0 P251_12 (by omega) f259 P251_13 f260 P204_14 (by omega) P251_14 f261 P204_18 (by omega) P251_15 f262 P204_22 (by omega)) 0 (Nat.le_of_eq rfl) (by decide) (by decide) (by rw [hml]; rfl) (argsL := [(.ref b14), (.int p4), (.int p5)]) (st := []) P251_0 (lenOf pd_9 rfl) rfl rfl (by decide) (by decide) rfl hby at_124 ?_
      intro T263 v263 L263 X263 hQ263
      obtain ⟨bA_263, kbA_263, bM_263, kbM_263, bW_263, kbW_263, rfl, Nq263, K263, P263_0, P263_1, P263_2, P263_3, P263_4, P263_5, P263_6, P263_7, P263_8, P263_9, P263_10, P263_11, P263_12, P263_13, P263_14, P263_15, P263_16, P263_17⟩ := hQ263
      have N263 := Fr.app N251 Nq263
      have z265 : T251.heap.size ≤ T263.heap.size := K263.1
      have lt266 : T263.heap.size > b182 := P263_0.lt
      have lt267 : T263.heap.size > aA_204 := P263_3.lt
      have lt268 : T263.heap.size > bA_263 := P263_4.lt
      have lt269 : T263.heap.size > aM_204 := P263_7.lt
      have lt270 : T263.heap.size > bM_263 := P263_8.lt
      have lt271 : T263.heap.size > aW_204 := P263_12.lt
      have lt272 : T263.heap.size > bW_263 := P263_13.lt
      refine own_sh (T := T263) 127 #[.val (.int p1), .val (.int p2), .val (.int p3), .val (.int p4), .val (.int p5), .val (.int p6), .val (.ref b7), .val (.ref b14), .val .null, .val (.ref b166), .val (.ref b171), .val (.ref b182)] [] ?_
      refine own_aload X263.here hx hby at_127 rfl rfl ?_
      refine own_aload X263.here hx hby at_129 rfl rfl ?_
      refine own_aconstNull X263.here hx hby at_131 ?_
      refine own_castNull X263 hx hby at_132 ?_
      have z274 : n0 ≤ T263.heap.size := by omega
      refine own_virtual X263 hx hZ hown (own_w hw 89 rfl) (own_w hw 90 rfl) (notFace_of_selects (args := #[]) (mvT hZ (own_w hw 92 rfl))) (own_w hw 92 rfl) (own_w hw 91 rfl) (own_w hw 32 rfl) (own_w hw 93 rfl) (by decide) (at2_1n_s l Z a0 hw [] b182 aA_204 kaA_204 bA_263 kbA_263 aM_204 kaM_204 bM_263 kbM_263 aW_204 kaW_204 bW_263 kbW_263 p4 p5 b14 T263.heap n0 z274 P263_0 P263_1 (by omega) P263_2 P263_3 P263_4 (by omega) P263_6 P263_7 P263_8 (by omega) P263_10 P263_11 P263_12 P263_13 (by omega) P263_15) 0 (Nat.le_of_eq rfl) (by decide) (by decide) (by rw [hml]; rfl) (argsL := [.null, .null]) (st := []) P263_0 (lenOf pd_10 rfl) rfl rfl (by decide) (by decide) rfl hby at_135 ?_
      intro T273 v273 L273 X273 hQ273
      obtain ⟨rfl, Nq273, K273, P273_0, P273_1, P273_2, P273_3, P273_4, P273_5, P273_6, P273_7, P273_8, P273_9, P273_10⟩ := hQ273
      have N273 := Fr.app N263 Nq273
      have z275 : T263.heap.size ≤ T273.heap.size := K273.1
      have lt276 : T273.heap.size > b182 := P273_0.lt
      have lt277 : T273.heap.size > aA_204 := P273_3.lt
      have lt278 : T273.heap.size > bA_263 := P273_4.lt
      have lt279 : T273.heap.size > aM_204 := P273_6.lt
      have lt280 : T273.heap.size > bM_263 := P273_7.lt
      have lt281 : T273.heap.size > aW_204 := P273_9.lt
      have lt282 : T273.heap.size > bW_263 := P273_10.lt
      refine own_sh (T := T273) 138 #[.val (.int p1), .val (.int p2), .val (.int p3), .val (.int p4), .val (.int p5), .val (.int p6), .val (.ref b7), .val (.ref b14), .val .null, .val (.ref b166), .val (.ref b171), .val (.ref b182)] [] ?_
      refine own_aload X273.here hx hby at_138 rfl rfl ?_
      refine own_aload X273.here hx hby at_140 rfl rfl ?_
      refine own_iload X273.here hx hby at_142 rfl ?_
      refine own_iloadN X273.here hx hby at_144 rfl ?_
      have f283 : Exa Z T273.heap b171 "java/lang/String" := (((f250.keep K251).keep K263).keep K273)
      have z285 : n0 ≤ T273.heap.size := by omega
      refine own_virtual X273 hx hZ hown (own_w hw 77 rfl) (own_w hw 78 rfl) (notFace_of_selects (args := #[]) (mvT hZ (own_w hw 80 rfl))) (own_w hw 80 rfl) (own_w hw 79 rfl) (own_w hw 32 rfl) (own_w hw 81 rfl) (by decide) (at3_2_sn l Z a0 hw [] b182 b171 p5 p4 aA_204 kaA_204 bA_263 kbA_263 aM_204 kaM_204 bM_263 kbM_263 aW_204 kaW_204 bW_263 kbW_263 p4 p5 (-1 : Int32) (-1 : Int32) b14 T273.heap n0 z285 P273_0 P273_1 (by omega) f283 P273_2 P273_3 P273_4 (by omega) P273_5 P273_6 P273_7 (by omega) P263_10 P273_8 P273_9 P273_10 (by omega) P263_15) 0 (Nat.le_of_eq rfl) (by decide) (by decide) (by rw [hml]; rfl) (argsL := [(.ref b171), (.int p5), (.int p4)]) (st := []) P273_0 (lenOf pd_9 rfl) rfl rfl (by decide) (by decide) rfl hby at_145 ?_
      intro T284 v284 L284 X284 hQ284
      obtain ⟨rfl, Nq284, K284, P284_0, P284_1, P284_2, P284_3, P284_4, P284_5, P284_6, P284_7, P284_8, P284_9, P284_10⟩ := hQ284
      have N284 := Fr.app N273 Nq284
      have z286 : T273.heap.size ≤ T284.heap.size := K284.1
      have lt287 : T284.heap.size > b182 := P284_0.lt
      have lt288 : T284.heap.size > aA_204 := P284_3.lt
      have lt289 : T284.heap.size > bA_263 := P284_4.lt
      have lt290 : T284.heap.size > aM_204 := P284_6.lt
      have lt291 : T284.heap.size > bM_263 := P284_7.lt
      have lt292 : T284.heap.size > aW_204 := P284_9.lt
      have lt293 : T284.heap.size > bW_263 := P284_10.lt
      refine own_sh (T := T284) 148 #[.val (.int p1), .val (.int p2), .val (.int p3), .val (.int p4), .val (.int p5), .val (.int p6), .val (.ref b7), .val (.ref b14), .val .null, .val (.ref b166), .val (.ref b171), .val (.ref b182)] [] ?_
      refine own_aload X284.here hx hby at_148 rfl rfl ?_
      refine own_iconst X284.here hx hby at_150 (v := (0 : Int32)) (by decide) ?_
      have z295 : n0 ≤ T284.heap.size := by omega
      refine own_virtual X284 hx hZ hown (own_w hw 94 rfl) (own_w hw 95 rfl) (notFace_of_selects (args := #[]) (mvT hZ (own_w hw 97 rfl))) (own_w hw 97 rfl) (own_w hw 96 rfl) (own_w hw 32 rfl) (own_w hw 98 rfl) (by decide) (attributeName_0_sns l Z a0 hw [] b182 aM_204 bM_263 kaM_204 kbM_263 b14 b171 T284.heap n0 z295 P284_5 P284_6 P284_7) 0 (Nat.le_of_eq rfl) (by decide) (by decide) (by rw [hml]; rfl) (argsL := [(.int 0)]) (st := []) P284_0 (lenOf pd_11 rfl) rfl rfl (by decide) (by decide) rfl hby at_151 ?_
      intro T294 v294 L294 X294 hQ294
      obtain ⟨rfl, Nq294, eh294⟩ := hQ294
      have N294 := Fr.app N284 Nq294
      refine own_sh (T := T294) 154 #[.val (.int p1), .val (.int p2), .val (.int p3), .val (.int p4), .val (.int p5), .val (.int p6), .val (.ref b7), .val (.ref b14), .val .null, .val (.ref b166), .val (.ref b171), .val (.ref b182)] [(.ref b14)] ?_
      refine own_aload X294.here hx hby at_154 rfl rfl ?_
      refine own_acmp X294 hx (same := true) (pc' := 159) hby at_156 rfl rfl (decide_eq_true rfl) (by decide) (by decide) ?_
      refine own_aload X294.here hx hby at_159 rfl rfl ?_
      refine own_iconst X294.here hx hby at_161 (v := (1 : Int32)) (by decide) ?_
      refine own_virtual X294 hx hZ hown (own_w hw 94 rfl) (own_w hw 95 rfl) (notFace_of_selects (args := #[]) (mvT hZ (own_w hw 97 rfl))) (own_w hw 97 rfl) (own_w hw 96 rfl) (own_w hw 32 rfl) (own_w hw 98 rfl) (by decide) (attributeName_1_sns l Z a0 hw [] b182 aM_204 bM_263 kaM_204 kbM_263 b14 b171 T284.heap n0 z295 P284_5 P284_6 P284_7) 0 (Nat.le_of_eq rfl) (by decide) (by decide) (by rw [hml]; rfl) (argsL := [(.int 1)]) (st := []) P284_0 (lenOf pd_11 rfl) rfl rfl (by decide) (by decide) eh294 hby at_162 ?_
      intro T296 v296 L296 X296 hQ296
      obtain ⟨rfl, Nq296, eh296⟩ := hQ296
      have N296 := Fr.app N294 Nq296
      refine own_sh (T := T296) 165 #[.val (.int p1), .val (.int p2), .val (.int p3), .val (.int p4), .val (.int p5), .val (.int p6), .val (.ref b7), .val (.ref b14), .val .null, .val (.ref b166), .val (.ref b171), .val (.ref b182)] [.null] ?_
      refine own_aload X296.here hx hby at_165 rfl rfl ?_
      refine own_acmp X296 hx (same := true) (pc' := 170) hby at_167 rfl rfl (decide_eq_true rfl) (by decide) (by decide) ?_
      refine own_aload X296.here hx hby at_170 rfl rfl ?_
      refine own_iconst X296.here hx hby at_172 (v := (2 : Int32)) (by decide) ?_
      refine own_virtual X296 hx hZ hown (own_w hw 94 rfl) (own_w hw 95 rfl) (notFace_of_selects (args := #[]) (mvT hZ (own_w hw 97 rfl))) (own_w hw 97 rfl) (own_w hw 96 rfl) (own_w hw 32 rfl) (own_w hw 98 rfl) (by decide) (attributeName_2_sns l Z a0 hw [] b182 aM_204 bM_263 kaM_204 kbM_263 b14 b171 T284.heap n0 z295 P284_5 P284_6 P284_7) 0 (Nat.le_of_eq rfl) (by decide) (by decide) (by rw [hml]; rfl) (argsL := [(.int 2)]) (st := []) P284_0 (lenOf pd_11 rfl) rfl rfl (by decide) (by decide) eh296 hby at_173 ?_
      intro T297 v297 L297 X297 hQ297
      obtain ⟨rfl, Nq297, eh297⟩ := hQ297
      have N297 := Fr.app N296 Nq297
      refine own_sh (T := T297) 176 #[.val (.int p1), .val (.int p2), .val (.int p3), .val (.int p4), .val (.int p5), .val (.int p6), .val (.ref b7), .val (.ref b14), .val .null, .val (.ref b166), .val (.ref b171), .val (.ref b182)] [(.ref b171)] ?_
      refine own_aload X297.here hx hby at_176 rfl rfl ?_
      refine own_acmp X297 hx (same := true) (pc' := 181) hby at_178 rfl rfl (decide_eq_true rfl) (by decide) (by decide) ?_
      refine own_iconst X297.here hx hby at_181 (v := (1 : Int32)) (by decide) ?_
      refine own_goto X297.here hx hby (pc' := 186) at_182 (by decide) (by decide) ?_
      obtain ⟨fs, hr, hrun, hended, hW, hsame⟩ := X297.leave (v := some (.int 1)) (fun h => by rw [Bd.returns] at h; cases h)
      refine own_ret (t := T297.setFrames fs) ?_ ⟨_, hrun, hended, _, _, rfl, ?_, ⟨_, rfl⟩, hW, hsame.mono (by decide) (by decide)⟩
      · exact retN X297 hx (t := .boolean) Bd.returns (by simp) (hb hby at_186) hr
      · show Q_rm0 Z p1 p2 p3 p4 p5 p6 zc h0 n0 _ T297.heap _
        rw [eh297]
        exact ⟨rfl, N297, trivial⟩
set_option maxRecDepth 65536 in
set_option maxHeartbeats 40000000 in
theorem comes_1 {Post : Tables → Env → Array Value → State → Outcome → State → Prop} (hpost : ∀ tb e args s v u, (limb_1_1.after args s (.returned v) u = true ∧ limb_1_2.after args s (.returned v) u = true ∧ True) → FrameEnd s (.returned v) u (Jvm.fieldLocs frame_1_writes args s ++ Jvm.arrayLocs frame_1_arrays args s ++ Jvm.staticLocs frame_1_statics s) 48 98432 → Post tb e args s (.returned v) u) :
    ArmFor flags0 classFile x code maxLocals ret World_1 tables_1 room_1 Calls_1 rest_1 Pre_1 Post := by
  intro l hfl _ _ p e ha hc hk s m args below hf hA hF happ hP
  obtain ⟨hcalls, hrest, hpre⟩ := hP
  obtain ⟨-, -, -, hnamed, -, -, -, hat⟩ := (Spec.applies_iff hf).mp happ
  obtain ⟨hg, hn⟩ := and_e (Cond.before_iff.mp (show (Jvm.Cond.and given_1 narrow_1).before args s = true from hpre))
  obtain ⟨g1, g2⟩ := and_e hg
  obtain ⟨g3, g4⟩ := and_e g2
  obtain ⟨g5, g6⟩ := and_e g4
  obtain ⟨g7, g8⟩ := and_e g6
  obtain ⟨g9, g10⟩ := and_e g8
  obtain ⟨g11, g12⟩ := and_e g10
  obtain ⟨w0, w1, w2, w3, w4, w5, rfl⟩ : ∃ w0 w1 w2 w3 w4 w5 : Value, args = #[w0, w1, w2, w3, w4, w5] := by
    have hs : args.size = 6 := by simpa [Cond.value, given_1] using g1
    obtain ⟨L⟩ := args
    match L, hs with
    | [w0, w1, w2, w3, w4, w5], _ => exact ⟨w0, w1, w2, w3, w4, w5, rfl⟩
  have hw := fun d (hd : d ∈ tables_1) => atoms_spec (ws := Jvm.Cond.code x code maxLocals ret :: tables_1) hat d (List.mem_cons_of_mem _ hd)
  have hfit : Fit s := fun {y c} hc i hi => by
    obtain ⟨ha, rfl⟩ := Array.getElem?_eq_some_iff.mp hc
    have q := List.all_eq_true.mp ((Array.all_eq_true_iff_forall_mem.mp hF) _ (Array.getElem_mem ha)) i (List.mem_range.mpr hi)
    simpa [Array.getElem?_eq_getElem hi] using q
  obtain ⟨hsets, hown0⟩ := atoms_of _ (rest_1_c_eq ▸ (show rest_1_c.before _ s = true from hrest))
  have hr0 := Cond.before_iff.mp hown0
  obtain ⟨i0, ei0⟩ := is_v g3
  obtain rfl : w0 = (.int i0) := Option.some.inj ei0
  obtain ⟨i1, ei1⟩ := is_v g5
  obtain rfl : w1 = (.int i1) := Option.some.inj ei1
  obtain ⟨i2, ei2⟩ := is_v g7
  obtain rfl : w2 = (.int i2) := Option.some.inj ei2
  obtain ⟨i3, ei3⟩ := is_v g9
  obtain rfl : w3 = (.int i3) := Option.some.inj ei3
  obtain ⟨i4, ei4⟩ := is_v g11
  obtain rfl : w4 = (.int i4) := Option.some.inj ei4
  obtain ⟨i5, ei5⟩ := is_v g12
  obtain rfl : w5 = (.int i5) := Option.some.inj ei5
  have hCS := Cond.before_iff.mp (hsets _ (List.mem_of_getElem? (i := 1) rfl))
  obtain ⟨zC, evC⟩ := is_v hCS
  have StC := Sta.start evC (Or.inl (hsets _ (List.mem_of_getElem? (i := 0) rfl)))
  have hzC : ¬ (zC = (0 : Int32)) := fun e => by
    have q := not_v (Cond.before_iff.mp (hsets _ (List.mem_of_getElem? (i := 2) rfl)))
    have r := eq_i evC (Term.int_eval (0)) (by rw [e])
    exact absurd (q.symm.trans r) (by decide)
  obtain ⟨n, o, h1, h2, h3, _, L, rfl, ⟨rfl, N, -⟩, hq⟩ := rm0 l s _ hw tables_1 i0 i1 i2 i3 i4 i5 zC s.heap s.heap.size (Nat.le_refl _) StC hzC p e ha hc hk s m _ below hf ((Spec.applies_iff_loose hf).mp happ).1 ⟨rfl, State.Warmed39.refl s, rfl⟩ trivial
  refine ⟨n, _, h1, h2, h3, hpost _ _ _ _ _ _ ⟨Cond.after_iff.mpr rfl, Cond.after_iff.mpr (eq_i res_at (Term.int_eval (1)) rfl), trivial⟩ ⟨hq.1, hq.2.1, (hq.2.2.sift fun y hy => Or.inr (N y hy)).mono (by decide) (by decide)⟩⟩
theorem main_1_1 : Claimed_1_1 := comes_1 fun _ _ _ _ _ _ h hF => ⟨h.1, hF⟩
theorem main_1_2 : Claimed_1_2 := comes_1 fun _ _ _ _ _ _ h hF => ⟨h.2.1, hF⟩
end Jvm.Pilot.@@N@@
namespace Jvm.Pilot.@@N@@
open Jvm Jvm.ClassFile Sem Op Lib Jvm.Free Jvm.Stand Jvm.Pilot.@@N@@.Jvm.D
/-! MADE BY PROGRAM (witnessworld.py) out of the Statement's table words and the real class files: 23 classes; the members and pool entries that the words name. The judged class is class 1, her method 1. -/
namespace start1
open Jvm.ClassFile
def u (s : String) : CpInfo := .utf8 (stringToUtf16 s)
/-- a pool by its gaps: so many unusable entries, then the entry; so many at the end -/
def gap : Nat → List CpInfo → List CpInfo
  | 0, r => r
  | n + 1, r => .unusable :: gap n r
def poolList (es : List (Nat × CpInfo)) (last : Nat) : List CpInfo := es.foldr (fun e r => gap e.1 (e.2 :: r)) (gap last [])
def pool (es : List (Nat × CpInfo)) (last : Nat) : Array CpInfo := ⟨poolList es last⟩
def fileOf (pool : Array CpInfo) (this : Nat) (attrs : Array Attribute := #[]) (ms : Array MethodInfo := #[]) (fl : Nat := 33) (sup : Nat := 0) (ifs : Array Nat := #[]) (fds : Array FieldInfo := #[]) : ClassFile where
  minorVersion := 0
  majorVersion := 65
  constantPool := pool
  accessFlags := fl
  thisClass := this
  superClass := sup
  interfaces := ifs
  fields := fds
  methods := ms
  attributes := attrs
def plain (name : String) (sup : Option ClassId) : Class where
  name := name
  kind := .ordinary
  loader := none
  accessFlags := 33
  super := sup
  interfaces := #[]
  cf := none
  fields := #[]
  methods := #[]
  instanceTypes := #[]
  staticTypes := #[]
  resolved := #[]
  callSites := []
  init := .initialized
  statics := none
  mirror := none

def pool0 : Array CpInfo := pool [(5, u "<init>"), (0, u "()V"), (1, .class_ 10), (1, u "java/lang/Object")] 113

def k0c0 : Code := { maxStack := 0, maxLocals := 1, code := object_method_1_code, exceptionTable := #[], attributes := #[] }
def k0m0 : Method := { name := "<init>", desc := "()V", sig := { parameters := [], returnType := none }, accessFlags := 1, code := some k0c0 }
/-- java/lang/Object -/
def k0 : Class := { plain "java/lang/Object" none with
  accessFlags := 33
  interfaces := #[]
  cf := some (fileOf pool0 8 #[] #[{ accessFlags := 1, nameIndex := 5, descriptorIndex := 6, attributes := #[] }] 33 0 #[] #[])
  fields := #[]
  methods := #[k0m0]
  instanceTypes := #[]
  staticTypes := #[]
  resolved := Array.replicate 124 none
  statics := none }

def pool1 : Array CpInfo := pool [(2, .class_ 4), (1, u "java/lang/Object"), (0, u "<init>"), (0, u "()V"), (0, .class_ 8), (0, u "java/lang/String"), (0, .methodref 7 10), (0, .nameAndType 5 11), (0, u "([C)V"), (0, .methodref 7 13), (0, .nameAndType 14 15), (0, u "valueOf"), (0, u "(C)Ljava/lang/String;"), (0, .class_ 17), (0, u "com/example/boxwood/boxwood/XmlNodeTable"), (0, .methodref 16 19), (0, .nameAndType 5 20), (0, u "([B)V"), (0, .methodref 16 22), (0, .nameAndType 23 24), (0, u "startElement"), (0, u "(Ljava/lang/String;II)I"), (0, .methodref 16 26), (0, .nameAndType 27 28), (0, u "addAttribute"), (0, u "(Ljava/lang/String;II)V"), (2, .methodref 16 32), (0, .nameAndType 27 33), (0, u "(Ljava/lang/String;Lcom/example/boxwood/boxwood/XmlValue;)V"), (0, .methodref 16 35), (0, .nameAndType 36 37), (0, u "attributeName"), (0, u "(I)Ljava/lang/String;"), (0, .class_ 39), (0, u "com/example/boxwood/boxwood/XmlNodeTableAttributeNamePinLaw"), (2, u "law"), (0, u "(IIIIII)Z")] 5

def k1m0 : Method := { name := "<init>", desc := "()V", sig := { parameters := [], returnType := none }, accessFlags := 1, code := none }
def k1c1 : Code := { maxStack := 4, maxLocals := 12, code := code, exceptionTable := #[], attributes := #[] }
def k1m1 : Method := { name := "law", desc := "(IIIIII)Z", sig := { parameters := [.int, .int, .int, .int, .int, .int], returnType := some .boolean }, accessFlags := 9, code := some k1c1 }
/-- com/example/boxwood/boxwood/XmlNodeTableAttributeNamePinLaw -/
def k1 : Class := { plain "com/example/boxwood/boxwood/XmlNodeTableAttributeNamePinLaw" (some 0) with
  accessFlags := 49
  interfaces := #[]
  cf := some (fileOf pool1 38 #[] #[{ accessFlags := 1, nameIndex := 5, descriptorIndex := 6, attributes := #[] }, { accessFlags := 9, nameIndex := 42, descriptorIndex := 43, attributes := #[] }] 49 2 #[] #[])
  fields := #[]
  methods := #[k1m0, k1m1]
  instanceTypes := #[]
  staticTypes := #[]
  resolved := Array.replicate 49 none
  statics := none }

def pool2 : Array CpInfo := pool [(1, .class_ 2), (0, u "java/io/Serializable"), (0, .class_ 4), (0, u "java/lang/Object")] 2

/-- java/io/Serializable -/
def k2 : Class := { plain "java/io/Serializable" (some 0) with
  accessFlags := 1537
  interfaces := #[]
  cf := some (fileOf pool2 1 #[] #[] 1537 3 #[] #[])
  fields := #[]
  methods := #[]
  instanceTypes := #[]
  staticTypes := #[]
  resolved := Array.replicate 7 none
  statics := none }

def pool3 : Array CpInfo := pool [(1, .class_ 2), (0, u "java/lang/Comparable"), (0, .class_ 4), (0, u "java/lang/Object")] 7

/-- java/lang/Comparable -/
def k3 : Class := { plain "java/lang/Comparable" (some 0) with
  accessFlags := 1537
  interfaces := #[]
  cf := some (fileOf pool3 1 #[] #[] 1537 3 #[] #[])
  fields := #[]
  methods := #[]
  instanceTypes := #[]
  staticTypes := #[]
  resolved := Array.replicate 12 none
  statics := none }

def pool4 : Array CpInfo := pool [(2, .class_ 4), (1, u "java/lang/CharSequence"), (42, .class_ 48), (0, u "java/lang/CharSequence$1CodePointIterator"), (10, .class_ 60), (0, u "java/lang/CharSequence$1CharIterator"), (5, .class_ 67), (0, u "java/lang/Object")] 63

/-- java/lang/CharSequence -/
def k4 : Class := { plain "java/lang/CharSequence" (some 0) with
  accessFlags := 1537
  interfaces := #[]
  cf := some (fileOf pool4 2 #[.nestMembers #[47, 59]] #[] 1537 66 #[] #[])
  fields := #[]
  methods := #[]
  instanceTypes := #[]
  staticTypes := #[]
  resolved := Array.replicate 131 none
  statics := none }

def pool5 : Array CpInfo := pool [(1, .class_ 2), (0, u "java/lang/constant/Constable"), (0, .class_ 4), (0, u "java/lang/Object")] 6

/-- java/lang/constant/Constable -/
def k5 : Class := { plain "java/lang/constant/Constable" (some 0) with
  accessFlags := 1537
  interfaces := #[]
  cf := some (fileOf pool5 1 #[] #[] 1537 3 #[] #[])
  fields := #[]
  methods := #[]
  instanceTypes := #[]
  staticTypes := #[]
  resolved := Array.replicate 11 none
  statics := none }

def pool6 : Array CpInfo := pool [(1, .class_ 2), (0, u "java/lang/constant/ConstantDesc"), (0, .class_ 4), (0, u "java/lang/Object")] 32

/-- java/lang/constant/ConstantDesc -/
def k6 : Class := { plain "java/lang/constant/ConstantDesc" (some 0) with
  accessFlags := 1537
  interfaces := #[]
  cf := some (fileOf pool6 1 #[] #[] 1537 3 #[] #[])
  fields := #[]
  methods := #[]
  instanceTypes := #[]
  staticTypes := #[]
  resolved := Array.replicate 37 none
  statics := none }

def pool7 : Array CpInfo := pool [(1, .methodref 2 3), (0, .class_ 4), (0, .nameAndType 5 6), (0, u "java/lang/Object"), (0, u "<init>"), (0, u "()V"), (2, .fieldref 10 11), (0, .class_ 12), (0, .nameAndType 13 14), (0, u "java/lang/String"), (0, u "value"), (0, u "[B"), (0, .fieldref 10 16), (0, .nameAndType 17 18), (0, u "coder"), (0, u "B"), (2, u "hash"), (0, u "I"), (2, u "hashIsZero"), (0, u "Z"), (0, .methodref 10 28), (0, .nameAndType 5 29), (0, u "([CIILjava/lang/Void;)V"), (8, .fieldref 10 39), (0, .nameAndType 40 26), (0, u "COMPACT_STRINGS"), (1, .class_ 44), (1, u "java/lang/StringUTF16"), (0, u "compress"), (1, .methodref 42 48), (0, .nameAndType 49 50), (0, u "coderFromArrayLen"), (0, u "([BI)B"), (2, u "toBytes"), (53, .class_ 109), (1, u "java/lang/StringLatin1"), (67, .methodref 42 178), (0, .nameAndType 45 179), (0, u "([CII)[B"), (29, .methodref 10 210), (0, .nameAndType 5 211), (0, u "([BB)V"), (157, u "(C)Z"), (205, .class_ 576), (0, u "java/lang/CharSequence"), (22, u "CASE_INSENSITIVE_ORDER"), (0, u "Ljava/util/Comparator;"), (181, u "valueOf"), (0, u "(C)Ljava/lang/String;"), (226, u "([C)V"), (4, .methodref 107 1016), (0, .nameAndType 1017 369), (0, u "canEncode"), (0, .methodref 107 1019), (0, .nameAndType 53 1020), (0, u "(C)[B"), (80, u "serialPersistentFields"), (0, u "[Ljava/io/ObjectStreamField;"), (0, .class_ 1104), (0, u "java/lang/String$CaseInsensitiveComparator"), (1, .class_ 1107), (0, u "java/io/Serializable"), (0, .class_ 1109), (0, u "java/lang/Comparable"), (0, .class_ 1111), (0, u "java/lang/constant/Constable"), (0, .class_ 1113), (0, u "java/lang/constant/ConstantDesc"), (2, u "serialVersionUID"), (0, u "J"), (3, u "REPL"), (0, u "C"), (2, u "LATIN1"), (1, u "UTF16")] 323

def k7m0 : Method := { name := "<init>", desc := "()V", sig := { parameters := [], returnType := none }, accessFlags := 1, code := none }
def k7c1 : Code := { maxStack := 5, maxLocals := 2, code := jdk_42_method_3_code, exceptionTable := #[], attributes := #[] }
def k7m1 : Method := { name := "<init>", desc := "([C)V", sig := { parameters := [(.array .char)], returnType := none }, accessFlags := 1, code := some k7c1 }
def k7c2 : Code := { maxStack := 4, maxLocals := 1, code := jdk_42_method_139_code, exceptionTable := #[], attributes := #[] }
def k7m2 : Method := { name := "valueOf", desc := "(C)Ljava/lang/String;", sig := { parameters := [.char], returnType := some (.object "java/lang/String") }, accessFlags := 9, code := some k7c2 }
def k7c3 : Code := { maxStack := 4, maxLocals := 6, code := jdk_42_method_149_code, exceptionTable := #[], attributes := #[] }
def k7m3 : Method := { name := "<init>", desc := "([CIILjava/lang/Void;)V", sig := { parameters := [(.array .char), .int, .int, (.object "java/lang/Void")], returnType := none }, accessFlags := 2, code := some k7c3 }
def k7c4 : Code := { maxStack := 2, maxLocals := 3, code := jdk_42_method_151_code, exceptionTable := #[], attributes := #[] }
def k7m4 : Method := { name := "<init>", desc := "([BB)V", sig := { parameters := [(.array .byte), .byte], returnType := none }, accessFlags := 0, code := some k7c4 }
/-- java/lang/String -/
def k7 : Class := { plain "java/lang/String" (some 0) with
  accessFlags := 49
  interfaces := #[2, 3, 4, 5, 6]
  cf := some (fileOf pool7 10 #[.nestMembers #[1103]] #[{ accessFlags := 1, nameIndex := 5, descriptorIndex := 6, attributes := #[] }, { accessFlags := 1, nameIndex := 5, descriptorIndex := 1010, attributes := #[] }, { accessFlags := 9, nameIndex := 782, descriptorIndex := 783, attributes := #[] }, { accessFlags := 2, nameIndex := 5, descriptorIndex := 29, attributes := #[] }, { accessFlags := 0, nameIndex := 5, descriptorIndex := 211, attributes := #[] }] 49 2 #[1106, 1108, 575, 1110, 1112] #[{ accessFlags := 18, nameIndex := 13, descriptorIndex := 14, attributes := #[] }, { accessFlags := 18, nameIndex := 17, descriptorIndex := 18, attributes := #[] }, { accessFlags := 2, nameIndex := 21, descriptorIndex := 22, attributes := #[] }, { accessFlags := 2, nameIndex := 25, descriptorIndex := 26, attributes := #[] }, { accessFlags := 26, nameIndex := 1116, descriptorIndex := 1117, attributes := #[] }, { accessFlags := 24, nameIndex := 40, descriptorIndex := 26, attributes := #[] }, { accessFlags := 26, nameIndex := 1101, descriptorIndex := 1102, attributes := #[] }, { accessFlags := 26, nameIndex := 1121, descriptorIndex := 1122, attributes := #[] }, { accessFlags := 25, nameIndex := 599, descriptorIndex := 600, attributes := #[] }, { accessFlags := 24, nameIndex := 1125, descriptorIndex := 18, attributes := #[] }, { accessFlags := 24, nameIndex := 1127, descriptorIndex := 18, attributes := #[] }])
  fields := #[{ name := "value", type := (.array .byte), accessFlags := 18, slot := 0, constantValue := 0 }, { name := "coder", type := .byte, accessFlags := 18, slot := 1, constantValue := 0 }, { name := "hash", type := .int, accessFlags := 2, slot := 2, constantValue := 0 }, { name := "hashIsZero", type := .boolean, accessFlags := 2, slot := 3, constantValue := 0 }, { name := "serialVersionUID", type := .long, accessFlags := 26, slot := 0, constantValue := 0 }, { name := "COMPACT_STRINGS", type := .boolean, accessFlags := 24, slot := 1, constantValue := 0 }, { name := "serialPersistentFields", type := (.array (.object "java/io/ObjectStreamField")), accessFlags := 26, slot := 2, constantValue := 0 }, { name := "REPL", type := .char, accessFlags := 26, slot := 3, constantValue := 0 }, { name := "CASE_INSENSITIVE_ORDER", type := (.object "java/util/Comparator"), accessFlags := 25, slot := 4, constantValue := 0 }, { name := "LATIN1", type := .byte, accessFlags := 24, slot := 5, constantValue := 0 }, { name := "UTF16", type := .byte, accessFlags := 24, slot := 6, constantValue := 0 }]
  methods := #[k7m0, k7m1, k7m2, k7m3, k7m4]
  instanceTypes := #[(.array .byte), .byte, .int, .boolean]
  staticTypes := #[.long, .boolean, (.array (.object "java/io/ObjectStreamField")), .char, (.object "java/util/Comparator"), .byte, .byte]
  resolved := Array.replicate 1451 none
  statics := some 0 }

def pool8 : Array CpInfo := pool [(6, .class_ 8), (1, u "java/lang/Object"), (0, u "<init>"), (0, u "()V"), (1, .class_ 14), (1, u "java/lang/StringUTF16"), (31, u "$assertionsDisabled"), (0, u "Z"), (13, u "HI_BYTE_SHIFT"), (0, u "I"), (2, u "LO_BYTE_SHIFT"), (49, .methodref 12 116), (0, .nameAndType 117 118), (0, u "compress"), (0, u "([CI[BII)I"), (3, u "([CII)[B"), (138, u "coderFromArrayLen"), (0, u "([BI)B"), (106, .class_ 371), (1, u "java/lang/StringUTF16$LinesSpliterator"), (58, u "MAX_LENGTH"), (196, .class_ 628), (0, u "java/lang/StringUTF16$CodePointsSpliterator"), (0, .class_ 630), (0, u "java/lang/StringUTF16$CharsSpliterator")] 4

def k8m0 : Method := { name := "<init>", desc := "()V", sig := { parameters := [], returnType := none }, accessFlags := 0, code := none }
def k8c1 : Code := { maxStack := 2, maxLocals := 2, code := jdk_52_method_15_code, exceptionTable := #[], attributes := #[] }
def k8m1 : Method := { name := "coderFromArrayLen", desc := "([BI)B", sig := { parameters := [(.array .byte), .int], returnType := some .byte }, accessFlags := 8, code := some k8c1 }
def k8c2 : Code := { maxStack := 5, maxLocals := 6, code := jdk_52_method_16_code, exceptionTable := #[], attributes := #[] }
def k8m2 : Method := { name := "compress", desc := "([CII)[B", sig := { parameters := [(.array .char), .int, .int], returnType := some (.array .byte) }, accessFlags := 9, code := some k8c2 }
def k8c3 : Code := { maxStack := 3, maxLocals := 7, code := jdk_52_method_21_code, exceptionTable := #[], attributes := #[] }
def k8m3 : Method := { name := "compress", desc := "([CI[BII)I", sig := { parameters := [(.array .char), .int, (.array .byte), .int, .int], returnType := some .int }, accessFlags := 9, code := some k8c3 }
/-- java/lang/StringUTF16 -/
def k8 : Class := { plain "java/lang/StringUTF16" (some 0) with
  accessFlags := 48
  interfaces := #[]
  cf := some (fileOf pool8 12 #[.nestMembers #[627, 629, 369]] #[{ accessFlags := 0, nameIndex := 9, descriptorIndex := 10, attributes := #[] }, { accessFlags := 8, nameIndex := 261, descriptorIndex := 262, attributes := #[] }, { accessFlags := 9, nameIndex := 117, descriptorIndex := 122, attributes := #[] }, { accessFlags := 9, nameIndex := 117, descriptorIndex := 118, attributes := #[] }] 48 6 #[] #[{ accessFlags := 26, nameIndex := 61, descriptorIndex := 62, attributes := #[] }, { accessFlags := 26, nameIndex := 65, descriptorIndex := 62, attributes := #[] }, { accessFlags := 24, nameIndex := 430, descriptorIndex := 62, attributes := #[] }, { accessFlags := 4120, nameIndex := 46, descriptorIndex := 47, attributes := #[] }])
  fields := #[{ name := "HI_BYTE_SHIFT", type := .int, accessFlags := 26, slot := 0, constantValue := 0 }, { name := "LO_BYTE_SHIFT", type := .int, accessFlags := 26, slot := 1, constantValue := 0 }, { name := "MAX_LENGTH", type := .int, accessFlags := 24, slot := 2, constantValue := 0 }, { name := "$assertionsDisabled", type := .boolean, accessFlags := 4120, slot := 3, constantValue := 0 }]
  methods := #[k8m0, k8m1, k8m2, k8m3]
  instanceTypes := #[]
  staticTypes := #[.int, .int, .int, .boolean]
  resolved := Array.replicate 635 none
  statics := none }

def pool9 : Array CpInfo := pool [(1, .class_ 2), (0, u "com/example/boxwood/boxwood/XmlNodeTable"), (0, .methodref 4 5), (0, .class_ 6), (0, .nameAndType 7 8), (0, u "java/lang/Object"), (0, u "<init>"), (0, u "()V"), (0, .class_ 10), (0, u "[I"), (0, .fieldref 1 12), (0, .nameAndType 13 14), (0, u "numbers"), (0, u "[[I"), (0, .class_ 16), (0, u "[Ljava/lang/String;"), (0, .fieldref 1 18), (0, .nameAndType 19 20), (0, u "strings"), (0, u "[[Ljava/lang/String;"), (0, .fieldref 1 22), (0, .nameAndType 23 14), (0, u "attributeNumbers"), (0, .fieldref 1 25), (0, .nameAndType 26 20), (0, u "attributeNames"), (0, .class_ 28), (0, u "[Lcom/example/boxwood/boxwood/XmlValue;"), (0, .fieldref 1 30), (0, .nameAndType 31 32), (0, u "attributeValues"), (0, u "[[Lcom/example/boxwood/boxwood/XmlValue;"), (0, .fieldref 1 34), (0, .nameAndType 35 36), (0, u "content"), (0, u "[B"), (0, .methodref 1 38), (0, .nameAndType 39 40), (0, u "add"), (0, u "(III)I"), (0, .methodref 1 42), (0, .nameAndType 43 44), (0, u "set"), (0, u "(III)V"), (0, .methodref 1 46), (0, .nameAndType 47 48), (0, u "addAttribute"), (0, u "(Ljava/lang/String;Lcom/example/boxwood/boxwood/XmlValue;II)V"), (4, .fieldref 1 54), (0, .nameAndType 55 56), (0, u "size"), (0, u "I"), (0, .fieldref 1 58), (0, .nameAndType 59 56), (0, u "attributeCount"), (0, .class_ 61), (0, u "java/lang/String"), (10, .class_ 74), (1, u "com/example/boxwood/boxwood/XmlValue"), (11, u "ELEMENT"), (2, u "TEXT"), (1, u "VERBATIM"), (1, u "KIND_MASK"), (1, u "PASSED_OVER"), (1, u "HOLDS_ELEMENTS"), (1, u "FLAGS"), (0, u "START"), (0, u "END"), (0, u "NEXT"), (0, u "CONTENT_START"), (0, u "CONTENT_END"), (1, u "FIRST_ATTRIBUTE"), (1, u "NUMBERS"), (1, u "TEXT_START"), (0, u "TEXT_END"), (0, u "ATTRIBUTE_NUMBERS"), (0, u "BLOCK_BITS"), (1, u "BLOCK_SIZE"), (1, u "IN_BLOCK"), (1, u "([B)V"), (3, u "startElement"), (0, u "(Ljava/lang/String;II)I"), (0, u "(Ljava/lang/String;Lcom/example/boxwood/boxwood/XmlValue;)V"), (0, u "(Ljava/lang/String;II)V"), (18, u "(I)Ljava/lang/String;"), (3, u "attributeName")] 4

def k9c0 : Code := { maxStack := 2, maxLocals := 2, code := prog_60_method_1_code, exceptionTable := #[], attributes := #[] }
def k9m0 : Method := { name := "<init>", desc := "([B)V", sig := { parameters := [(.array .byte)], returnType := none }, accessFlags := 0, code := some k9c0 }
def k9c1 : Code := { maxStack := 4, maxLocals := 5, code := prog_60_method_3_code, exceptionTable := #[], attributes := #[] }
def k9m1 : Method := { name := "startElement", desc := "(Ljava/lang/String;II)I", sig := { parameters := [(.object "java/lang/String"), .int, .int], returnType := some .int }, accessFlags := 0, code := some k9c1 }
def k9c2 : Code := { maxStack := 5, maxLocals := 3, code := prog_60_method_4_code, exceptionTable := #[], attributes := #[] }
def k9m2 : Method := { name := "addAttribute", desc := "(Ljava/lang/String;Lcom/example/boxwood/boxwood/XmlValue;)V", sig := { parameters := [(.object "java/lang/String"), (.object "com/example/boxwood/boxwood/XmlValue")], returnType := none }, accessFlags := 0, code := some k9c2 }
def k9c3 : Code := { maxStack := 5, maxLocals := 4, code := prog_60_method_5_code, exceptionTable := #[], attributes := #[] }
def k9m3 : Method := { name := "addAttribute", desc := "(Ljava/lang/String;II)V", sig := { parameters := [(.object "java/lang/String"), .int, .int], returnType := none }, accessFlags := 0, code := some k9c3 }
def k9c4 : Code := { maxStack := 3, maxLocals := 2, code := prog_60_method_22_code, exceptionTable := #[], attributes := #[] }
def k9m4 : Method := { name := "attributeName", desc := "(I)Ljava/lang/String;", sig := { parameters := [.int], returnType := some (.object "java/lang/String") }, accessFlags := 0, code := some k9c4 }
def k9c5 : Code := { maxStack := 4, maxLocals := 7, code := prog_60_method_24_code, exceptionTable := #[], attributes := #[] }
def k9m5 : Method := { name := "add", desc := "(III)I", sig := { parameters := [.int, .int, .int], returnType := some .int }, accessFlags := 2, code := some k9c5 }
def k9c6 : Code := { maxStack := 4, maxLocals := 8, code := prog_60_method_25_code, exceptionTable := #[], attributes := #[] }
def k9m6 : Method := { name := "addAttribute", desc := "(Ljava/lang/String;Lcom/example/boxwood/boxwood/XmlValue;II)V", sig := { parameters := [(.object "java/lang/String"), (.object "com/example/boxwood/boxwood/XmlValue"), .int, .int], returnType := none }, accessFlags := 2, code := some k9c6 }
def k9c7 : Code := { maxStack := 3, maxLocals := 4, code := prog_60_method_27_code, exceptionTable := #[], attributes := #[] }
def k9m7 : Method := { name := "set", desc := "(III)V", sig := { parameters := [.int, .int, .int], returnType := none }, accessFlags := 2, code := some k9c7 }
/-- com/example/boxwood/boxwood/XmlNodeTable -/
def k9 : Class := { plain "com/example/boxwood/boxwood/XmlNodeTable" (some 0) with
  accessFlags := 48
  interfaces := #[]
  cf := some (fileOf pool9 1 #[] #[{ accessFlags := 0, nameIndex := 7, descriptorIndex := 119, attributes := #[] }, { accessFlags := 0, nameIndex := 123, descriptorIndex := 124, attributes := #[] }, { accessFlags := 0, nameIndex := 47, descriptorIndex := 125, attributes := #[] }, { accessFlags := 0, nameIndex := 47, descriptorIndex := 126, attributes := #[] }, { accessFlags := 0, nameIndex := 149, descriptorIndex := 145, attributes := #[] }, { accessFlags := 2, nameIndex := 39, descriptorIndex := 40, attributes := #[] }, { accessFlags := 2, nameIndex := 47, descriptorIndex := 48, attributes := #[] }, { accessFlags := 2, nameIndex := 43, descriptorIndex := 44, attributes := #[] }] 48 4 #[] #[{ accessFlags := 24, nameIndex := 86, descriptorIndex := 56, attributes := #[] }, { accessFlags := 24, nameIndex := 89, descriptorIndex := 56, attributes := #[] }, { accessFlags := 24, nameIndex := 91, descriptorIndex := 56, attributes := #[] }, { accessFlags := 26, nameIndex := 93, descriptorIndex := 56, attributes := #[] }, { accessFlags := 26, nameIndex := 95, descriptorIndex := 56, attributes := #[] }, { accessFlags := 26, nameIndex := 97, descriptorIndex := 56, attributes := #[] }, { accessFlags := 26, nameIndex := 99, descriptorIndex := 56, attributes := #[] }, { accessFlags := 26, nameIndex := 100, descriptorIndex := 56, attributes := #[] }, { accessFlags := 26, nameIndex := 101, descriptorIndex := 56, attributes := #[] }, { accessFlags := 26, nameIndex := 102, descriptorIndex := 56, attributes := #[] }, { accessFlags := 26, nameIndex := 103, descriptorIndex := 56, attributes := #[] }, { accessFlags := 26, nameIndex := 104, descriptorIndex := 56, attributes := #[] }, { accessFlags := 26, nameIndex := 106, descriptorIndex := 56, attributes := #[] }, { accessFlags := 26, nameIndex := 108, descriptorIndex := 56, attributes := #[] }, { accessFlags := 26, nameIndex := 110, descriptorIndex := 56, attributes := #[] }, { accessFlags := 26, nameIndex := 111, descriptorIndex := 56, attributes := #[] }, { accessFlags := 26, nameIndex := 112, descriptorIndex := 56, attributes := #[] }, { accessFlags := 26, nameIndex := 113, descriptorIndex := 56, attributes := #[] }, { accessFlags := 26, nameIndex := 115, descriptorIndex := 56, attributes := #[] }, { accessFlags := 26, nameIndex := 117, descriptorIndex := 56, attributes := #[] }, { accessFlags := 18, nameIndex := 35, descriptorIndex := 36, attributes := #[] }, { accessFlags := 2, nameIndex := 55, descriptorIndex := 56, attributes := #[] }, { accessFlags := 2, nameIndex := 13, descriptorIndex := 14, attributes := #[] }, { accessFlags := 2, nameIndex := 19, descriptorIndex := 20, attributes := #[] }, { accessFlags := 2, nameIndex := 59, descriptorIndex := 56, attributes := #[] }, { accessFlags := 2, nameIndex := 23, descriptorIndex := 14, attributes := #[] }, { accessFlags := 2, nameIndex := 26, descriptorIndex := 20, attributes := #[] }, { accessFlags := 2, nameIndex := 31, descriptorIndex := 32, attributes := #[] }])
  fields := #[{ name := "ELEMENT", type := .int, accessFlags := 24, slot := 0, constantValue := 0 }, { name := "TEXT", type := .int, accessFlags := 24, slot := 1, constantValue := 0 }, { name := "VERBATIM", type := .int, accessFlags := 24, slot := 2, constantValue := 0 }, { name := "KIND_MASK", type := .int, accessFlags := 26, slot := 3, constantValue := 0 }, { name := "PASSED_OVER", type := .int, accessFlags := 26, slot := 4, constantValue := 0 }, { name := "HOLDS_ELEMENTS", type := .int, accessFlags := 26, slot := 5, constantValue := 0 }, { name := "FLAGS", type := .int, accessFlags := 26, slot := 6, constantValue := 0 }, { name := "START", type := .int, accessFlags := 26, slot := 7, constantValue := 0 }, { name := "END", type := .int, accessFlags := 26, slot := 8, constantValue := 0 }, { name := "NEXT", type := .int, accessFlags := 26, slot := 9, constantValue := 0 }, { name := "CONTENT_START", type := .int, accessFlags := 26, slot := 10, constantValue := 0 }, { name := "CONTENT_END", type := .int, accessFlags := 26, slot := 11, constantValue := 0 }, { name := "FIRST_ATTRIBUTE", type := .int, accessFlags := 26, slot := 12, constantValue := 0 }, { name := "NUMBERS", type := .int, accessFlags := 26, slot := 13, constantValue := 0 }, { name := "TEXT_START", type := .int, accessFlags := 26, slot := 14, constantValue := 0 }, { name := "TEXT_END", type := .int, accessFlags := 26, slot := 15, constantValue := 0 }, { name := "ATTRIBUTE_NUMBERS", type := .int, accessFlags := 26, slot := 16, constantValue := 0 }, { name := "BLOCK_BITS", type := .int, accessFlags := 26, slot := 17, constantValue := 0 }, { name := "BLOCK_SIZE", type := .int, accessFlags := 26, slot := 18, constantValue := 0 }, { name := "IN_BLOCK", type := .int, accessFlags := 26, slot := 19, constantValue := 0 }, { name := "content", type := (.array .byte), accessFlags := 18, slot := 0, constantValue := 0 }, { name := "size", type := .int, accessFlags := 2, slot := 1, constantValue := 0 }, { name := "numbers", type := (.array (.array .int)), accessFlags := 2, slot := 2, constantValue := 0 }, { name := "strings", type := (.array (.array (.object "java/lang/String"))), accessFlags := 2, slot := 3, constantValue := 0 }, { name := "attributeCount", type := .int, accessFlags := 2, slot := 4, constantValue := 0 }, { name := "attributeNumbers", type := (.array (.array .int)), accessFlags := 2, slot := 5, constantValue := 0 }, { name := "attributeNames", type := (.array (.array (.object "java/lang/String"))), accessFlags := 2, slot := 6, constantValue := 0 }, { name := "attributeValues", type := (.array (.array (.object "com/example/boxwood/boxwood/XmlValue"))), accessFlags := 2, slot := 7, constantValue := 0 }]
  methods := #[k9m0, k9m1, k9m2, k9m3, k9m4, k9m5, k9m6, k9m7]
  instanceTypes := #[(.array .byte), .int, (.array (.array .int)), (.array (.array (.object "java/lang/String"))), .int, (.array (.array .int)), (.array (.array (.object "java/lang/String"))), (.array (.array (.object "com/example/boxwood/boxwood/XmlValue")))]
  staticTypes := #[.int, .int, .int, .int, .int, .int, .int, .int, .int, .int, .int, .int, .int, .int, .int, .int, .int, .int, .int, .int]
  resolved := Array.replicate 154 none
  statics := none }

def pool10 : Array CpInfo := pool [(2, .class_ 4), (1, u "java/lang/Object"), (3, .class_ 10), (1, u "com/example/boxwood/boxwood/XmlValue"), (0, u "type"), (0, u "Lcom/example/boxwood/boxwood/XmlValue$Type;"), (2, u "string"), (0, u "Ljava/lang/String;"), (2, u "bits"), (0, u "J"), (2, u "bytes"), (0, u "[B"), (1, .class_ 28), (1, u "com/example/boxwood/boxwood/XmlValue$Type"), (13, u "NO_DATA"), (0, u "Ljava/util/Set;"), (6, u "STRINGS"), (2, u "BYTES"), (7, u "NUMBERS")] 190

/-- com/example/boxwood/boxwood/XmlValue -/
def k10 : Class := { plain "com/example/boxwood/boxwood/XmlValue" (some 0) with
  accessFlags := 48
  interfaces := #[]
  cf := some (fileOf pool10 8 #[.nestMembers #[26]] #[] 48 2 #[] #[{ accessFlags := 26, nameIndex := 42, descriptorIndex := 43, attributes := #[] }, { accessFlags := 26, nameIndex := 50, descriptorIndex := 43, attributes := #[] }, { accessFlags := 26, nameIndex := 53, descriptorIndex := 43, attributes := #[] }, { accessFlags := 26, nameIndex := 61, descriptorIndex := 43, attributes := #[] }, { accessFlags := 18, nameIndex := 11, descriptorIndex := 12, attributes := #[] }, { accessFlags := 18, nameIndex := 15, descriptorIndex := 16, attributes := #[] }, { accessFlags := 18, nameIndex := 19, descriptorIndex := 20, attributes := #[] }, { accessFlags := 18, nameIndex := 23, descriptorIndex := 24, attributes := #[] }])
  fields := #[{ name := "NO_DATA", type := (.object "java/util/Set"), accessFlags := 26, slot := 0, constantValue := 0 }, { name := "STRINGS", type := (.object "java/util/Set"), accessFlags := 26, slot := 1, constantValue := 0 }, { name := "BYTES", type := (.object "java/util/Set"), accessFlags := 26, slot := 2, constantValue := 0 }, { name := "NUMBERS", type := (.object "java/util/Set"), accessFlags := 26, slot := 3, constantValue := 0 }, { name := "type", type := (.object "com/example/boxwood/boxwood/XmlValue$Type"), accessFlags := 18, slot := 0, constantValue := 0 }, { name := "string", type := (.object "java/lang/String"), accessFlags := 18, slot := 1, constantValue := 0 }, { name := "bits", type := .long, accessFlags := 18, slot := 2, constantValue := 0 }, { name := "bytes", type := (.array .byte), accessFlags := 18, slot := 3, constantValue := 0 }]
  methods := #[]
  instanceTypes := #[(.object "com/example/boxwood/boxwood/XmlValue$Type"), (.object "java/lang/String"), .long, (.array .byte)]
  staticTypes := #[(.object "java/util/Set"), (.object "java/util/Set"), (.object "java/util/Set"), (.object "java/util/Set")]
  resolved := Array.replicate 252 none
  statics := none }

def pool11 : Array CpInfo := pool [(4, .class_ 6), (1, u "java/lang/Object"), (0, u "<init>"), (0, u "()V"), (5, .class_ 16), (1, u "java/lang/StringLatin1"), (73, u "canEncode"), (14, u "(C)Z"), (15, u "$assertionsDisabled"), (0, u "Z"), (98, .class_ 223), (1, u "java/lang/StringLatin1$LinesSpliterator"), (156, u "toBytes"), (1, u "(C)[B"), (7, .class_ 391), (0, u "java/lang/StringLatin1$CharsSpliterator")] 3

def k11m0 : Method := { name := "<init>", desc := "()V", sig := { parameters := [], returnType := none }, accessFlags := 0, code := none }
def k11c1 : Code := { maxStack := 2, maxLocals := 1, code := jdk_43_method_3_code, exceptionTable := #[], attributes := #[] }
def k11m1 : Method := { name := "canEncode", desc := "(C)Z", sig := { parameters := [.char], returnType := some .boolean }, accessFlags := 9, code := some k11c1 }
def k11c2 : Code := { maxStack := 4, maxLocals := 1, code := jdk_43_method_46_code, exceptionTable := #[], attributes := #[] }
def k11m2 : Method := { name := "toBytes", desc := "(C)[B", sig := { parameters := [.char], returnType := some (.array .byte) }, accessFlags := 9, code := some k11c2 }
/-- java/lang/StringLatin1 -/
def k11 : Class := { plain "java/lang/StringLatin1" (some 0) with
  accessFlags := 48
  interfaces := #[]
  cf := some (fileOf pool11 14 #[.nestMembers #[390, 221]] #[{ accessFlags := 0, nameIndex := 7, descriptorIndex := 8, attributes := #[] }, { accessFlags := 9, nameIndex := 90, descriptorIndex := 105, attributes := #[] }, { accessFlags := 9, nameIndex := 380, descriptorIndex := 382, attributes := #[] }] 48 4 #[] #[{ accessFlags := 4120, nameIndex := 121, descriptorIndex := 122, attributes := #[] }])
  fields := #[{ name := "$assertionsDisabled", type := .boolean, accessFlags := 4120, slot := 0, constantValue := 0 }]
  methods := #[k11m0, k11m1, k11m2]
  instanceTypes := #[]
  staticTypes := #[.boolean]
  resolved := Array.replicate 395 none
  statics := none }

def pool12 : Array CpInfo := pool [(2, .class_ 4), (1, u "java/lang/Object"), (0, u "<init>"), (0, u "()V"), (17, .class_ 26), (1, u "jdk/internal/util/Preconditions"), (28, .class_ 56), (0, u "jdk/internal/util/Preconditions$4"), (57, .class_ 115), (0, u "jdk/internal/util/Preconditions$1"), (7, u "SIOOBE_FORMATTER"), (0, u "Ljava/util/function/BiFunction;"), (0, .class_ 126), (0, u "jdk/internal/util/Preconditions$2"), (3, u "AIOOBE_FORMATTER"), (0, .class_ 132), (0, u "jdk/internal/util/Preconditions$3"), (3, u "IOOBE_FORMATTER")] 57

def k12m0 : Method := { name := "<init>", desc := "()V", sig := { parameters := [], returnType := none }, accessFlags := 1, code := none }
/-- jdk/internal/util/Preconditions -/
def k12 : Class := { plain "jdk/internal/util/Preconditions" (some 0) with
  accessFlags := 33
  interfaces := #[]
  cf := some (fileOf pool12 24 #[.nestMembers #[55, 131, 125, 114]] #[{ accessFlags := 1, nameIndex := 5, descriptorIndex := 6, attributes := #[] }] 33 2 #[] #[{ accessFlags := 25, nameIndex := 123, descriptorIndex := 124, attributes := #[] }, { accessFlags := 25, nameIndex := 130, descriptorIndex := 124, attributes := #[] }, { accessFlags := 25, nameIndex := 136, descriptorIndex := 124, attributes := #[] }])
  fields := #[{ name := "SIOOBE_FORMATTER", type := (.object "java/util/function/BiFunction"), accessFlags := 25, slot := 0, constantValue := 0 }, { name := "AIOOBE_FORMATTER", type := (.object "java/util/function/BiFunction"), accessFlags := 25, slot := 1, constantValue := 0 }, { name := "IOOBE_FORMATTER", type := (.object "java/util/function/BiFunction"), accessFlags := 25, slot := 2, constantValue := 0 }]
  methods := #[k12m0]
  instanceTypes := #[]
  staticTypes := #[(.object "java/util/function/BiFunction"), (.object "java/util/function/BiFunction"), (.object "java/util/function/BiFunction")]
  resolved := Array.replicate 194 none
  statics := some 1 }

def pool13 : Array CpInfo := pool [(9, u "<init>"), (6, .class_ 18), (1, u "java/lang/Object"), (0, u "()V"), (1, .class_ 23), (1, u "jdk/internal/util/ArraysSupport"), (0, u "LOG2_ARRAY_LONG_INDEX_SCALE"), (0, u "I"), (2, u "U"), (0, u "Ljdk/internal/misc/Unsafe;"), (8, u "BIG_ENDIAN"), (0, u "Z"), (8, u "LOG2_BYTE_BIT_SIZE"), (4, u "LOG2_ARRAY_INT_INDEX_SCALE"), (54, u "JLA"), (0, u "Ljdk/internal/access/JavaLangAccess;"), (11, u "LOG2_ARRAY_BOOLEAN_INDEX_SCALE"), (9, u "LOG2_ARRAY_BYTE_INDEX_SCALE"), (5, u "LOG2_ARRAY_CHAR_INDEX_SCALE"), (5, u "LOG2_ARRAY_SHORT_INDEX_SCALE"), (18, u "LOG2_ARRAY_FLOAT_INDEX_SCALE"), (24, u "LOG2_ARRAY_DOUBLE_INDEX_SCALE"), (89, u "T_BOOLEAN"), (2, u "T_CHAR"), (1, u "T_FLOAT"), (1, u "T_DOUBLE"), (1, u "T_BYTE"), (1, u "T_SHORT"), (1, u "T_INT"), (1, u "T_LONG"), (1, u "SOFT_MAX_ARRAY_LENGTH")] 83

def k13m0 : Method := { name := "<init>", desc := "()V", sig := { parameters := [], returnType := none }, accessFlags := 2, code := none }
/-- jdk/internal/util/ArraysSupport -/
def k13 : Class := { plain "jdk/internal/util/ArraysSupport" (some 0) with
  accessFlags := 33
  interfaces := #[]
  cf := some (fileOf pool13 21 #[] #[{ accessFlags := 2, nameIndex := 9, descriptorIndex := 19, attributes := #[] }] 33 16 #[] #[{ accessFlags := 24, nameIndex := 28, descriptorIndex := 29, attributes := #[] }, { accessFlags := 26, nameIndex := 38, descriptorIndex := 39, attributes := #[] }, { accessFlags := 25, nameIndex := 121, descriptorIndex := 25, attributes := #[] }, { accessFlags := 25, nameIndex := 131, descriptorIndex := 25, attributes := #[] }, { accessFlags := 25, nameIndex := 137, descriptorIndex := 25, attributes := #[] }, { accessFlags := 25, nameIndex := 143, descriptorIndex := 25, attributes := #[] }, { accessFlags := 25, nameIndex := 53, descriptorIndex := 25, attributes := #[] }, { accessFlags := 25, nameIndex := 24, descriptorIndex := 25, attributes := #[] }, { accessFlags := 25, nameIndex := 162, descriptorIndex := 25, attributes := #[] }, { accessFlags := 25, nameIndex := 187, descriptorIndex := 25, attributes := #[] }, { accessFlags := 26, nameIndex := 48, descriptorIndex := 25, attributes := #[] }, { accessFlags := 25, nameIndex := 277, descriptorIndex := 25, attributes := #[] }, { accessFlags := 25, nameIndex := 280, descriptorIndex := 25, attributes := #[] }, { accessFlags := 25, nameIndex := 282, descriptorIndex := 25, attributes := #[] }, { accessFlags := 25, nameIndex := 284, descriptorIndex := 25, attributes := #[] }, { accessFlags := 25, nameIndex := 286, descriptorIndex := 25, attributes := #[] }, { accessFlags := 25, nameIndex := 288, descriptorIndex := 25, attributes := #[] }, { accessFlags := 25, nameIndex := 290, descriptorIndex := 25, attributes := #[] }, { accessFlags := 25, nameIndex := 292, descriptorIndex := 25, attributes := #[] }, { accessFlags := 26, nameIndex := 108, descriptorIndex := 109, attributes := #[] }, { accessFlags := 25, nameIndex := 294, descriptorIndex := 25, attributes := #[] }])
  fields := #[{ name := "U", type := (.object "jdk/internal/misc/Unsafe"), accessFlags := 24, slot := 0, constantValue := 0 }, { name := "BIG_ENDIAN", type := .boolean, accessFlags := 26, slot := 1, constantValue := 0 }, { name := "LOG2_ARRAY_BOOLEAN_INDEX_SCALE", type := .int, accessFlags := 25, slot := 2, constantValue := 0 }, { name := "LOG2_ARRAY_BYTE_INDEX_SCALE", type := .int, accessFlags := 25, slot := 3, constantValue := 0 }, { name := "LOG2_ARRAY_CHAR_INDEX_SCALE", type := .int, accessFlags := 25, slot := 4, constantValue := 0 }, { name := "LOG2_ARRAY_SHORT_INDEX_SCALE", type := .int, accessFlags := 25, slot := 5, constantValue := 0 }, { name := "LOG2_ARRAY_INT_INDEX_SCALE", type := .int, accessFlags := 25, slot := 6, constantValue := 0 }, { name := "LOG2_ARRAY_LONG_INDEX_SCALE", type := .int, accessFlags := 25, slot := 7, constantValue := 0 }, { name := "LOG2_ARRAY_FLOAT_INDEX_SCALE", type := .int, accessFlags := 25, slot := 8, constantValue := 0 }, { name := "LOG2_ARRAY_DOUBLE_INDEX_SCALE", type := .int, accessFlags := 25, slot := 9, constantValue := 0 }, { name := "LOG2_BYTE_BIT_SIZE", type := .int, accessFlags := 26, slot := 10, constantValue := 0 }, { name := "T_BOOLEAN", type := .int, accessFlags := 25, slot := 11, constantValue := 0 }, { name := "T_CHAR", type := .int, accessFlags := 25, slot := 12, constantValue := 0 }, { name := "T_FLOAT", type := .int, accessFlags := 25, slot := 13, constantValue := 0 }, { name := "T_DOUBLE", type := .int, accessFlags := 25, slot := 14, constantValue := 0 }, { name := "T_BYTE", type := .int, accessFlags := 25, slot := 15, constantValue := 0 }, { name := "T_SHORT", type := .int, accessFlags := 25, slot := 16, constantValue := 0 }, { name := "T_INT", type := .int, accessFlags := 25, slot := 17, constantValue := 0 }, { name := "T_LONG", type := .int, accessFlags := 25, slot := 18, constantValue := 0 }, { name := "JLA", type := (.object "jdk/internal/access/JavaLangAccess"), accessFlags := 26, slot := 19, constantValue := 0 }, { name := "SOFT_MAX_ARRAY_LENGTH", type := .int, accessFlags := 25, slot := 20, constantValue := 0 }]
  methods := #[k13m0]
  instanceTypes := #[]
  staticTypes := #[(.object "jdk/internal/misc/Unsafe"), .boolean, .int, .int, .int, .int, .int, .int, .int, .int, .int, .int, .int, .int, .int, .int, .int, .int, .int, (.object "jdk/internal/access/JavaLangAccess"), .int]
  resolved := Array.replicate 378 none
  statics := none }

def pool14 : Array CpInfo := pool [(1, u "java/lang/Cloneable"), (0, .class_ 1), (0, u "java/lang/Object"), (0, .class_ 3)] 3

/-- java/lang/Cloneable -/
def k14 : Class := { plain "java/lang/Cloneable" (some 0) with
  accessFlags := 1537
  interfaces := #[]
  cf := some (fileOf pool14 2 #[] #[] 1537 4 #[] #[])
  fields := #[]
  methods := #[]
  instanceTypes := #[]
  staticTypes := #[]
  resolved := Array.replicate 8 none
  statics := none }

/-- the primitive byte -/
def k15 : Class := { plain "byte" none with kind := .primitive 'B', accessFlags := 0x411 }
/-- [B -/
def k16 : Class := { plain "[B" (some 0) with kind := .array 15 .byte, interfaces := #[14, 2], accessFlags := 1041 }

/-- the primitive char -/
def k17 : Class := { plain "char" none with kind := .primitive 'C', accessFlags := 0x411 }
/-- [C -/
def k18 : Class := { plain "[C" (some 0) with kind := .array 17 .char, interfaces := #[14, 2], accessFlags := 1041 }

/-- the primitive int -/
def k19 : Class := { plain "int" none with kind := .primitive 'I', accessFlags := 0x411 }
/-- [I -/
def k20 : Class := { plain "[I" (some 0) with kind := .array 19 .int, interfaces := #[14, 2], accessFlags := 1041 }

/-- [Lcom/example/boxwood/boxwood/XmlValue; -/
def k21 : Class := { plain "[Lcom/example/boxwood/boxwood/XmlValue;" (some 0) with kind := .array 10 (.object "com/example/boxwood/boxwood/XmlValue"), interfaces := #[14, 2], accessFlags := 1041 }

/-- [Ljava/lang/String; -/
def k22 : Class := { plain "[Ljava/lang/String;" (some 0) with kind := .array 7 (.object "java/lang/String"), interfaces := #[14, 2], accessFlags := 1041 }

def k23 : Class := { plain "[[I" (some 0) with kind := .array 20 (.array .int), interfaces := #[14, 2], accessFlags := 1041 }
def k24 : Class := { plain "[[Ljava/lang/String;" (some 0) with kind := .array 22 (.array (.object "java/lang/String")), interfaces := #[14, 2], accessFlags := 1041 }
def k25 : Class := { plain "[[Lcom/example/boxwood/boxwood/XmlValue;" (some 0) with kind := .array 21 (.array (.object "com/example/boxwood/boxwood/XmlValue")), interfaces := #[14, 2], accessFlags := 1041 }
def heap : Heap := #[{ cls := 7, slots := #[.long 0, .int 1, .null, .int 0, .null, .int 0, .int 0], vm := .statics 7 },
  { cls := 12, slots := #[.null, .null, .null], vm := .statics 12 }]
def classes : Array Class := #[k0, k1, k2, k3, k4, k5, k6, k7, k8, k9, k10, k11, k12, k13, k14, k15, k16, k17, k18, k19, k20, k21, k22, k23, k24, k25]
def interned : List (Array UInt16 × Addr) := []
def slotsUsed : Nat := 10
def theMethod : MethodId := ⟨1, 1⟩
def args0 : Array Value := #[.int 1, .int 2, .int 3, .int 4, .int 5, .int 6]
def aboutOver (below : List Frame) : State where
  vm := { classes := classes, interned := interned.toArray }
  heap := heap
  slotsUsed := slotsUsed
  threads := #[{ frames := .invoking theMethod args0 :: below }]
def below0 : List Frame := [.native { method := ⟨0, 0⟩, args := #[] }]
def about1 : State := aboutOver below0
def p0 : Program := .bare "" "" ""
def e0 : Env := launch0.env 0 0 0
theorem w_frames : about1.frames = Frame.invoking theMethod args0 :: below0 := rfl
set_option maxRecDepth 65536 in
theorem w_args : argsFit about1.vm theMethod args0 = true := by decide +kernel
set_option maxRecDepth 65536 in
theorem w_heap : heapFits about1 = true := by decide +kernel
set_option maxRecDepth 65536 in
theorem w_runnable : about1.curStatus? = some .runnable := by decide +kernel
set_option maxRecDepth 65536 in
theorem w_alone : about1.alone = true := by decide +kernel
set_option maxRecDepth 65536 in
theorem w_named : about1.methodNamed? x = some theMethod := by decide +kernel
set_option maxRecDepth 65536 in
theorem w_hears : about1.hears theMethod below0 = true := by decide +kernel
set_option maxRecDepth 65536 in
theorem w_ripe : about1.ripe theMethod args0 below0 = true := by decide +kernel
theorem w_running : about1.status = .running := rfl
set_option maxRecDepth 65536 in
theorem w_room : about1.hasRoom e0.platform room_1 = true :=
  launch0.hasRoom_least _ room_1 (by decide +kernel) (by decide +kernel) (by decide +kernel) (by decide +kernel) (by decide +kernel) (by decide +kernel)
theorem allAtoms_all (ts : List Jvm.Cond) (a : Array Jvm.Value) (st : Jvm.State) : (allAtoms ts).before a st = ts.all (fun c => c.before a st) := by
  induction ts with
  | nil => rfl
  | cons c t ih =>
    show (Jvm.Cond.and c (allAtoms t)).before a st = _
    rw [Jvm.Cond.before_and, ih, List.all_cons]
def words1 : List Jvm.Cond := Jvm.Cond.code x code maxLocals ret :: tables_1
/-- a 'code' word, met by the world's own term for the bytes: nothing is compared byte by byte -/
theorem code_word {y : MethodName} {bytes : ByteArray} {mx : Nat} {rt : Option FieldType} {a : Array Value} {s : State} {m : MethodId} {meth : Method} {c : Code} (h1 : s.methodNamed? y = some m) (h2 : s.vm.method? m = some meth) (h3 : meth.code = some c) (h4 : c.code = bytes)
    (h5 : (c.maxLocals == mx && c.exceptionTable.isEmpty && decide (c.maxStack ≤ mostOperands) && decide (meth.sig.returnType = rt) && !meth.locks && decide (parseMethodDescriptor y.desc = some meth.sig)) = true) : (Jvm.Cond.code y bytes mx rt).before a s = true := by
  simp only [Bool.and_eq_true, beq_iff_eq, Bool.not_eq_true', decide_eq_true_eq] at h5
  obtain ⟨⟨⟨⟨⟨g1, g2⟩, g3⟩, g4⟩, g5⟩, g6⟩ := h5
  simp [Cond.before, Cond.holds, Cond.value, h1, h2, h3, h4, g1, g2, g3, g4, g5, g6]
def isCode : Jvm.Cond → Bool
  | .code _ _ _ _ => true
  | _ => false
theorem all_split {L : List Jvm.Cond} {P : Jvm.Cond → Bool} (h1 : L.all (fun c => isCode c || P c) = true) (h2 : ∀ c ∈ L.filter isCode, P c = true) : L.all P = true := by
  refine List.all_eq_true.mpr fun c hc => ?_
  have h := List.all_eq_true.mp h1 c hc
  rcases Bool.eq_false_or_eq_true (isCode c) with hi | hi
  · exact h2 c (List.mem_filter.mpr ⟨hc, hi⟩)
  · simpa [hi] using h
set_option maxRecDepth 65536 in
theorem w_c0 : (Jvm.Cond.code x code maxLocals ret).before args0 about1 = true := code_word (m := ⟨1, 1⟩) (meth := k1m1) (c := k1c1) (by decide +kernel) rfl rfl rfl (by decide +kernel)
set_option maxRecDepth 65536 in
theorem w_c1 : (Jvm.Cond.code ({ cls := "java/lang/String", name := "<init>", desc := "([C)V" } : Jvm.MethodName) jdk_42_method_3_code (2 : Nat) (Option.none : Option Jvm.ClassFile.FieldType)).before args0 about1 = true := code_word (m := ⟨7, 1⟩) (meth := k7m1) (c := k7c1) (by decide +kernel) rfl rfl rfl (by decide +kernel)
set_option maxRecDepth 65536 in
theorem w_c2 : (Jvm.Cond.code ({ cls := "java/lang/String", name := "<init>", desc := "([CIILjava/lang/Void;)V" } : Jvm.MethodName) jdk_42_method_149_code (6 : Nat) (Option.none : Option Jvm.ClassFile.FieldType)).before args0 about1 = true := code_word (m := ⟨7, 3⟩) (meth := k7m3) (c := k7c3) (by decide +kernel) rfl rfl rfl (by decide +kernel)
set_option maxRecDepth 65536 in
theorem w_c3 : (Jvm.Cond.code ({ cls := "java/lang/Object", name := "<init>", desc := "()V" } : Jvm.MethodName) object_method_1_code (1 : Nat) (Option.none : Option Jvm.ClassFile.FieldType)).before args0 about1 = true := code_word (m := ⟨0, 0⟩) (meth := k0m0) (c := k0c0) (by decide +kernel) rfl rfl rfl (by decide +kernel)
set_option maxRecDepth 65536 in
theorem w_c4 : (Jvm.Cond.code ({ cls := "java/lang/StringUTF16", name := "compress", desc := "([CII)[B" } : Jvm.MethodName) jdk_52_method_16_code (6 : Nat) (Option.some (Jvm.ClassFile.FieldType.array Jvm.ClassFile.FieldType.byte))).before args0 about1 = true := code_word (m := ⟨8, 2⟩) (meth := k8m2) (c := k8c2) (by decide +kernel) rfl rfl rfl (by decide +kernel)
set_option maxRecDepth 65536 in
theorem w_c5 : (Jvm.Cond.code ({ cls := "java/lang/StringUTF16", name := "compress", desc := "([CI[BII)I" } : Jvm.MethodName) jdk_52_method_21_code (7 : Nat) (Option.some Jvm.ClassFile.FieldType.int)).before args0 about1 = true := code_word (m := ⟨8, 3⟩) (meth := k8m3) (c := k8c3) (by decide +kernel) rfl rfl rfl (by decide +kernel)
set_option maxRecDepth 65536 in
theorem w_c6 : (Jvm.Cond.code ({ cls := "java/lang/StringUTF16", name := "coderFromArrayLen", desc := "([BI)B" } : Jvm.MethodName) jdk_52_method_15_code (2 : Nat) (Option.some Jvm.ClassFile.FieldType.byte)).before args0 about1 = true := code_word (m := ⟨8, 1⟩) (meth := k8m1) (c := k8c1) (by decide +kernel) rfl rfl rfl (by decide +kernel)
set_option maxRecDepth 65536 in
theorem w_c7 : (Jvm.Cond.code ({ cls := "com/example/boxwood/boxwood/XmlNodeTable", name := "<init>", desc := "([B)V" } : Jvm.MethodName) prog_60_method_1_code (2 : Nat) (Option.none : Option Jvm.ClassFile.FieldType)).before args0 about1 = true := code_word (m := ⟨9, 0⟩) (meth := k9m0) (c := k9c0) (by decide +kernel) rfl rfl rfl (by decide +kernel)
set_option maxRecDepth 65536 in
theorem w_c8 : (Jvm.Cond.code ({ cls := "com/example/boxwood/boxwood/XmlNodeTable", name := "startElement", desc := "(Ljava/lang/String;II)I" } : Jvm.MethodName) prog_60_method_3_code (5 : Nat) (Option.some Jvm.ClassFile.FieldType.int)).before args0 about1 = true := code_word (m := ⟨9, 1⟩) (meth := k9m1) (c := k9c1) (by decide +kernel) rfl rfl rfl (by decide +kernel)
set_option maxRecDepth 65536 in
theorem w_c9 : (Jvm.Cond.code ({ cls := "com/example/boxwood/boxwood/XmlNodeTable", name := "add", desc := "(III)I" } : Jvm.MethodName) prog_60_method_24_code (7 : Nat) (Option.some Jvm.ClassFile.FieldType.int)).before args0 about1 = true := code_word (m := ⟨9, 5⟩) (meth := k9m5) (c := k9c5) (by decide +kernel) rfl rfl rfl (by decide +kernel)
set_option maxRecDepth 65536 in
theorem w_c10 : (Jvm.Cond.code ({ cls := "com/example/boxwood/boxwood/XmlNodeTable", name := "set", desc := "(III)V" } : Jvm.MethodName) prog_60_method_27_code (4 : Nat) (Option.none : Option Jvm.ClassFile.FieldType)).before args0 about1 = true := code_word (m := ⟨9, 7⟩) (meth := k9m7) (c := k9c7) (by decide +kernel) rfl rfl rfl (by decide +kernel)
set_option maxRecDepth 65536 in
theorem w_c11 : (Jvm.Cond.code ({ cls := "com/example/boxwood/boxwood/XmlNodeTable", name := "addAttribute", desc := "(Ljava/lang/String;II)V" } : Jvm.MethodName) prog_60_method_5_code (4 : Nat) (Option.none : Option Jvm.ClassFile.FieldType)).before args0 about1 = true := code_word (m := ⟨9, 3⟩) (meth := k9m3) (c := k9c3) (by decide +kernel) rfl rfl rfl (by decide +kernel)
set_option maxRecDepth 65536 in
theorem w_c12 : (Jvm.Cond.code ({ cls := "com/example/boxwood/boxwood/XmlNodeTable", name := "addAttribute", desc := "(Ljava/lang/String;Lcom/example/boxwood/boxwood/XmlValue;II)V" } : Jvm.MethodName) prog_60_method_25_code (8 : Nat) (Option.none : Option Jvm.ClassFile.FieldType)).before args0 about1 = true := code_word (m := ⟨9, 6⟩) (meth := k9m6) (c := k9c6) (by decide +kernel) rfl rfl rfl (by decide +kernel)
set_option maxRecDepth 65536 in
theorem w_c13 : (Jvm.Cond.code ({ cls := "com/example/boxwood/boxwood/XmlNodeTable", name := "addAttribute", desc := "(Ljava/lang/String;Lcom/example/boxwood/boxwood/XmlValue;)V" } : Jvm.MethodName) prog_60_method_4_code (3 : Nat) (Option.none : Option Jvm.ClassFile.FieldType)).before args0 about1 = true := code_word (m := ⟨9, 2⟩) (meth := k9m2) (c := k9c2) (by decide +kernel) rfl rfl rfl (by decide +kernel)
set_option maxRecDepth 65536 in
theorem w_c14 : (Jvm.Cond.code ({ cls := "com/example/boxwood/boxwood/XmlNodeTable", name := "attributeName", desc := "(I)Ljava/lang/String;" } : Jvm.MethodName) prog_60_method_22_code (2 : Nat) (Option.some (Jvm.ClassFile.FieldType.object "java/lang/String"))).before args0 about1 = true := code_word (m := ⟨9, 4⟩) (meth := k9m4) (c := k9c4) (by decide +kernel) rfl rfl rfl (by decide +kernel)
set_option maxRecDepth 65536 in
theorem w_c15 : (Jvm.Cond.code ({ cls := "java/lang/String", name := "valueOf", desc := "(C)Ljava/lang/String;" } : Jvm.MethodName) jdk_42_method_139_code (1 : Nat) (Option.some (Jvm.ClassFile.FieldType.object "java/lang/String"))).before args0 about1 = true := code_word (m := ⟨7, 2⟩) (meth := k7m2) (c := k7c2) (by decide +kernel) rfl rfl rfl (by decide +kernel)
set_option maxRecDepth 65536 in
theorem w_c16 : (Jvm.Cond.code ({ cls := "java/lang/StringLatin1", name := "canEncode", desc := "(C)Z" } : Jvm.MethodName) jdk_43_method_3_code (1 : Nat) (Option.some Jvm.ClassFile.FieldType.boolean)).before args0 about1 = true := code_word (m := ⟨11, 1⟩) (meth := k11m1) (c := k11c1) (by decide +kernel) rfl rfl rfl (by decide +kernel)
set_option maxRecDepth 65536 in
theorem w_c17 : (Jvm.Cond.code ({ cls := "java/lang/StringLatin1", name := "toBytes", desc := "(C)[B" } : Jvm.MethodName) jdk_43_method_46_code (1 : Nat) (Option.some (Jvm.ClassFile.FieldType.array Jvm.ClassFile.FieldType.byte))).before args0 about1 = true := code_word (m := ⟨11, 2⟩) (meth := k11m2) (c := k11c2) (by decide +kernel) rfl rfl rfl (by decide +kernel)
set_option maxRecDepth 65536 in
theorem w_c18 : (Jvm.Cond.code ({ cls := "java/lang/String", name := "<init>", desc := "([BB)V" } : Jvm.MethodName) jdk_42_method_151_code (3 : Nat) (Option.none : Option Jvm.ClassFile.FieldType)).before args0 about1 = true := code_word (m := ⟨7, 4⟩) (meth := k7m4) (c := k7c4) (by decide +kernel) rfl rfl rfl (by decide +kernel)
def codes1 : List Jvm.Cond := [Jvm.Cond.code x code maxLocals ret, Jvm.Cond.code ({ cls := "java/lang/String", name := "<init>", desc := "([C)V" } : Jvm.MethodName) jdk_42_method_3_code (2 : Nat) (Option.none : Option Jvm.ClassFile.FieldType), Jvm.Cond.code ({ cls := "java/lang/String", name := "<init>", desc := "([CIILjava/lang/Void;)V" } : Jvm.MethodName) jdk_42_method_149_code (6 : Nat) (Option.none : Option Jvm.ClassFile.FieldType), Jvm.Cond.code ({ cls := "java/lang/Object", name := "<init>", desc := "()V" } : Jvm.MethodName) object_method_1_code (1 : Nat) (Option.none : Option Jvm.ClassFile.FieldType), Jvm.Cond.code ({ cls := "java/lang/StringUTF16", name := "compress", desc := "([CII)[B" } : Jvm.MethodName) jdk_52_method_16_code (6 : Nat) (Option.some (Jvm.ClassFile.FieldType.array Jvm.ClassFile.FieldType.byte)), Jvm.Cond.code ({ cls := "java/lang/StringUTF16", name := "compress", desc := "([CI[BII)I" } : Jvm.MethodName) jdk_52_method_21_code (7 : Nat) (Option.some Jvm.ClassFile.FieldType.int), Jvm.Cond.code ({ cls := "java/lang/StringUTF16", name := "coderFromArrayLen", desc := "([BI)B" } : Jvm.MethodName) jdk_52_method_15_code (2 : Nat) (Option.some Jvm.ClassFile.FieldType.byte), Jvm.Cond.code ({ cls := "com/example/boxwood/boxwood/XmlNodeTable", name := "<init>", desc := "([B)V" } : Jvm.MethodName) prog_60_method_1_code (2 : Nat) (Option.none : Option Jvm.ClassFile.FieldType), Jvm.Cond.code ({ cls := "com/example/boxwood/boxwood/XmlNodeTable", name := "startElement", desc := "(Ljava/lang/String;II)I" } : Jvm.MethodName) prog_60_method_3_code (5 : Nat) (Option.some Jvm.ClassFile.FieldType.int), Jvm.Cond.code ({ cls := "com/example/boxwood/boxwood/XmlNodeTable", name := "add", desc := "(III)I" } : Jvm.MethodName) prog_60_method_24_code (7 : Nat) (Option.some Jvm.ClassFile.FieldType.int), Jvm.Cond.code ({ cls := "com/example/boxwood/boxwood/XmlNodeTable", name := "set", desc := "(III)V" } : Jvm.MethodName) prog_60_method_27_code (4 : Nat) (Option.none : Option Jvm.ClassFile.FieldType), Jvm.Cond.code ({ cls := "com/example/boxwood/boxwood/XmlNodeTable", name := "addAttribute", desc := "(Ljava/lang/String;II)V" } : Jvm.MethodName) prog_60_method_5_code (4 : Nat) (Option.none : Option Jvm.ClassFile.FieldType), Jvm.Cond.code ({ cls := "com/example/boxwood/boxwood/XmlNodeTable", name := "addAttribute", desc := "(Ljava/lang/String;Lcom/example/boxwood/boxwood/XmlValue;II)V" } : Jvm.MethodName) prog_60_method_25_code (8 : Nat) (Option.none : Option Jvm.ClassFile.FieldType), Jvm.Cond.code ({ cls := "com/example/boxwood/boxwood/XmlNodeTable", name := "addAttribute", desc := "(Ljava/lang/String;Lcom/example/boxwood/boxwood/XmlValue;)V" } : Jvm.MethodName) prog_60_method_4_code (3 : Nat) (Option.none : Option Jvm.ClassFile.FieldType), Jvm.Cond.code ({ cls := "com/example/boxwood/boxwood/XmlNodeTable", name := "attributeName", desc := "(I)Ljava/lang/String;" } : Jvm.MethodName) prog_60_method_22_code (2 : Nat) (Option.some (Jvm.ClassFile.FieldType.object "java/lang/String")), Jvm.Cond.code ({ cls := "java/lang/String", name := "valueOf", desc := "(C)Ljava/lang/String;" } : Jvm.MethodName) jdk_42_method_139_code (1 : Nat) (Option.some (Jvm.ClassFile.FieldType.object "java/lang/String")), Jvm.Cond.code ({ cls := "java/lang/StringLatin1", name := "canEncode", desc := "(C)Z" } : Jvm.MethodName) jdk_43_method_3_code (1 : Nat) (Option.some Jvm.ClassFile.FieldType.boolean), Jvm.Cond.code ({ cls := "java/lang/StringLatin1", name := "toBytes", desc := "(C)[B" } : Jvm.MethodName) jdk_43_method_46_code (1 : Nat) (Option.some (Jvm.ClassFile.FieldType.array Jvm.ClassFile.FieldType.byte)), Jvm.Cond.code ({ cls := "java/lang/String", name := "<init>", desc := "([BB)V" } : Jvm.MethodName) jdk_42_method_151_code (3 : Nat) (Option.none : Option Jvm.ClassFile.FieldType)]
set_option maxRecDepth 65536 in
theorem codes_eq : words1.filter isCode = codes1 := rfl
theorem w_codes : ∀ c ∈ words1.filter isCode, c.before args0 about1 = true := by
  rw [codes_eq]
  intro c hc
  simp only [codes1, List.mem_cons, List.not_mem_nil, or_false] at hc
  rcases hc with rfl | rfl | rfl | rfl | rfl | rfl | rfl | rfl | rfl | rfl | rfl | rfl | rfl | rfl | rfl | rfl | rfl | rfl | rfl
  · exact w_c0
  · exact w_c1
  · exact w_c2
  · exact w_c3
  · exact w_c4
  · exact w_c5
  · exact w_c6
  · exact w_c7
  · exact w_c8
  · exact w_c9
  · exact w_c10
  · exact w_c11
  · exact w_c12
  · exact w_c13
  · exact w_c14
  · exact w_c15
  · exact w_c16
  · exact w_c17
  · exact w_c18
set_option maxRecDepth 65536 in
theorem w_t1 : (words1.take 24).all (fun c => isCode c || c.before args0 about1) = true := by decide +kernel
set_option maxRecDepth 65536 in
theorem w_t2 : ((words1.drop 24).take 24).all (fun c => isCode c || c.before args0 about1) = true := by decide +kernel
set_option maxRecDepth 65536 in
theorem w_t3 : (((words1.drop 24).drop 24).take 24).all (fun c => isCode c || c.before args0 about1) = true := by decide +kernel
set_option maxRecDepth 65536 in
theorem w_t4 : ((((words1.drop 24).drop 24).drop 24).take 24).all (fun c => isCode c || c.before args0 about1) = true := by decide +kernel
set_option maxRecDepth 65536 in
theorem w_t5 : ((((words1.drop 24).drop 24).drop 24).drop 24).all (fun c => isCode c || c.before args0 about1) = true := by decide +kernel
theorem w_tables : (allAtoms (Jvm.Cond.code x code maxLocals ret :: tables_1)).before args0 about1 = true := by
  rw [allAtoms_all]
  show words1.all (fun c => c.before args0 about1) = true
  refine all_split ?_ w_codes
  rw [← List.take_append_drop 24 words1, List.all_append, w_t1, ← List.take_append_drop 24 (words1.drop 24), List.all_append, w_t2, ← List.take_append_drop 24 ((words1.drop 24).drop 24), List.all_append, w_t3, ← List.take_append_drop 24 (((words1.drop 24).drop 24).drop 24), List.all_append, w_t4, w_t5]
  rfl
set_option maxRecDepth 65536 in
theorem w_rest : rest_1_c.before args0 about1 = true := by decide +kernel
set_option maxRecDepth 65536 in
theorem w_case : (Jvm.Cond.and given_1 narrow_1).before args0 about1 = true := by decide +kernel
theorem w_applies : (headSpec (Jvm.Cond.code x code maxLocals ret :: tables_1) room_1).applies x e0.platform about1 = true :=
  (Spec.applies_iff w_frames).mpr ⟨w_running, w_runnable, w_alone, w_named, w_hears, w_ripe, w_room, w_tables⟩
theorem atStart : AtStart classFile x code maxLocals ret World_1 tables_1 room_1 Calls_1 rest_1 Pre_1 launch0 p0 e0 about1 theMethod args0 below0 :=
  ⟨lists_1, trivial, launch0.admits_env _ _ _, launch0.least_env, fairChoices_fair.cas, fairChoices_fair.clock, w_frames, w_args, w_heap, w_applies, trivial, w_rest, w_case⟩
end start1
theorem witness_1 : WitnessClaimed_1 := ⟨start1.p0, start1.e0, start1.about1, start1.theMethod, start1.args0, start1.below0, start1.atStart⟩
end Jvm.Pilot.@@N@@
